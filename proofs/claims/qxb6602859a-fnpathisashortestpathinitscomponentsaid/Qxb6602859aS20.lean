import Derived.Test.Qxb6602859aS19
namespace Go.Proofs.Qxb6602859a
open Go.RowKit Kit
set_option linter.unusedVariables false
set_option linter.unusedSimpArgs false


def J1 (gb n cc : Nat) (m : Int) (ca : Option Addr) (off T comp : Nat → Nat) (km : Nat → Bool) (w : World) (u v mb : Nat) (k : Nat) (a : Act) (wr : World) : Prop :=
  ∃ (h N : Nat) (qv xv ev : Value) (Q : List Nat) (d pv : Nat → Nat), k = n - h ∧ FitsP gb n cc ca u v m mb qv xv ev a ∧ PS w wr mb qv N Q pv (Q.drop h) ∧ Bf n off T km (fun y => comp y == comp u) u v Q d pv h

def Y1 (gb n cc : Nat) (m : Int) (ca : Option Addr) (off T comp : Nat → Nat) (km : Nat → Bool) (w : World) (u v mb : Nat) (a : Act) (wr : World) : Prop :=
  ∃ (h N : Nat) (qv xv ev : Value) (Q : List Nat) (d pv : Nat → Nat), FitsP gb n cc ca u v m mb qv xv ev a ∧ PS w wr mb qv N Q pv (Q.drop h) ∧ Bf n off T km (fun y => comp y == comp u) u v Q d pv h ∧ Q[h]? = some v

set_option maxRecDepth 100000 in
set_option maxHeartbeats 2000000 in
theorem p1_round (gb n nt nk oc tc kc cc : Nat) (m : Int) (oa ta ka ca : Option Addr) (off T comp : Nat → Nat) (tz kz : Nat → Int) (w : World) (u v : Nat) (mb : Nat) (Q0 : Exit → Act → World → Prop)
    (hG : Gr w gb n (n + 1) nt nk oc tc kc oa ta ka off tz kz) (hF : GF n nt nk off tz T) (hC : Row w 21 (.slice ca n cc) n (fun i => .int .i32 ((comp i : Nat) : Int))) (hu : u < n) (hr : Reach (EdO n off T (kmB kz m) (fun y => comp y == comp u)) u v)
    (hX : ∀ a' w', Y1 gb n cc m ca off T comp (kmB kz m) w u v mb a' w' → Q0 (.exit 0) a' w')
    (k : Nat) (a : Act) (wr : World) (hJ : J1 gb n cc m ca off T comp (kmB kz m) w u v mb k a wr) :
    Code.wp Try.prog (L1 Try.f28) (Exit.then (fun a' w' => ∃ k', k' < k ∧ J1 gb n cc m ca off T comp (kmB kz m) w u v mb k' a' w') Q0) a wr := by
  obtain ⟨h, N, qv, xv, ev, Q, d, pv, rfl, hfit, hP, hB⟩ := hJ
  obtain ⟨g, rfl⟩ : ∃ g, a = FRP gb n cc ca u v m mb qv xv ev g := ⟨_, hfit⟩
  by_cases hh : h = Q.length
  · subst hh
    obtain ⟨q, hq⟩ := hr
    exact (hB.dry hq).elim
  have hlt : h < Q.length := by have := hB.le; omega
  have hQn := len_le_of_nodup n Q hB.nd hB.qN
  obtain ⟨x, hx⟩ : ∃ x, Q[h]? = some x := ⟨_, List.getElem?_eq_getElem hlt⟩
  by_cases hv : x = v
  · exact p1_found gb n nt nk oc tc kc cc m oa ta ka ca off T comp tz kz w u v wr h N mb qv xv ev Q d pv g _ Q0 hG hF hC hu hP hB x hx hv (fun a' w' xv' h1 h2 => hX a' w' ⟨h, N, qv, xv', ev, Q, d, pv, h1, h2, hB, by rw [← hv]; exact hx⟩)
  · exact p1_next gb n nt nk oc tc kc cc m oa ta ka ca off T comp tz kz w u v wr h N mb qv xv ev Q d pv g _ Q0 hG hF hC hu hP hB x hx hv (fun a' w' N' qv' xv' ev' Q' d' pv' h1 h2 h3 => ⟨n - (h + 1), by omega, h + 1, N', qv', xv', ev', Q', d', pv', rfl, h1, h2, h3⟩)

theorem p1_loop (gb n nt nk oc tc kc cc : Nat) (m : Int) (oa ta ka ca : Option Addr) (off T comp : Nat → Nat) (tz kz : Nat → Int) (w : World) (u v : Nat) (mb : Nat) (Q0 : Exit → Act → World → Prop)
    (hG : Gr w gb n (n + 1) nt nk oc tc kc oa ta ka off tz kz) (hF : GF n nt nk off tz T) (hC : Row w 21 (.slice ca n cc) n (fun i => .int .i32 ((comp i : Nat) : Int))) (hu : u < n) (hr : Reach (EdO n off T (kmB kz m) (fun y => comp y == comp u)) u v) (k : Nat) (a : Act) (wr : World) (hJ : J1 gb n cc m ca off T comp (kmB kz m) w u v mb k a wr)
    (hX : ∀ a' w', Y1 gb n cc m ca off T comp (kmB kz m) w u v mb a' w' → Q0 (.exit 0) a' w') :
    Code.wp Try.prog (Code.loop (L1 Try.f28)) Q0 a wr :=
  wp_loop_ghost (J1 gb n cc m ca off T comp (kmB kz m) w u v mb) k hJ (fun k a w1 hh => p1_round gb n nt nk oc tc kc cc m oa ta ka ca off T comp tz kz w u v mb Q0 hG hF hC hu hr hX k a w1 hh)

theorem MapI.congr {w : World} {b n : Nat} {mem : Nat → Bool} {val val' : Nat → Nat} (h : MapI w b n mem val) (hv : ∀ x, mem x = true → val x = val' x) : MapI w b n mem val' := by
  obtain ⟨D, ho, h1, h2⟩ := h
  refine ⟨D, ho, h1, fun x z => ?_⟩
  rw [h2 x z]
  cases hm : mem x
  · rfl
  · simp [hv x hm]

/-- the nodes of the way back, as they are gathered -/
structure NdS (w wr : World) (mb N : Nat) (mem : Nat → Bool) (pv : Nat → Nat) (nv : Value) (L : List Nat) : Prop where
  bel : Below w.heap.size w wr
  ge : w.heap.size ≤ mb
  map : MapI wr mb N mem pv
  own : wr.ownsRow w.heap.size 21 1 nv L.length (cellsS L)
  apart : ∀ g, nv.ownBlock = some g → g ≠ mb

theorem NdS.push {w wr w3 : World} {mb N y : Nat} {mem : Nat → Bool} {pv : Nat → Nat} {nv nv' : Value} {L : List Nat} {o : Obj} (h : NdS w wr mb N mem pv nv L) (hg : (wr.alloc o).grownBy w3 nv.ownBlock)
    (ho : w3.ownsRow w.heap.size 21 1 nv' (L.length + 1) (cellsS L ++ [.int .i32 (y : Int)])) (hloc : nv'.ownBlock = nv.ownBlock ∨ nv'.ownBlock = some (wr.heap.size + 1)) : NdS w w3 mb N mem pv nv' (L ++ [y]) := by
  have hk : Kept (fun g => nv.ownBlock = some g) (wr.alloc o) w3 := Kept.grown hg (fun g e => e)
  have hB1 : Below w.heap.size w (wr.alloc o) := h.bel.alloc h.bel.size o
  have hml := h.map.lt
  refine ⟨hk.below hB1 (by have := h.bel.size; simp; omega) (fun g hg' => (h.own.lt g hg').1), h.ge, ?_, by rw [cellsS_snoc]; simpa using ho, fun g hg' e => ?_⟩
  · exact (h.map.kept (S := fun _ => False) (Kept.of_below (below_alloc0 wr o)) (fun e => e)).kept hk (fun e => h.apart mb e rfl)
  · rcases hloc with q | q
    · rw [q] at hg'; exact h.apart g hg' e
    · rw [q] at hg'; simp at hg'; omega

def bkL (pv : Nat → Nat) (v k : Nat) : List Nat := (List.range (k + 1)).map (bk pv v)
theorem bkL_succ (pv : Nat → Nat) (v k : Nat) : bkL pv v (k + 1) = bkL pv v k ++ [bk pv v (k + 1)] := by
  simp [bkL, List.range_succ]
theorem bkL_len (pv : Nat → Nat) (v k : Nat) : (bkL pv v k).length = k + 1 := by simp [bkL]

/-- what 'path' hands back -/
def PathOut (n : Nat) (off T : Nat → Nat) (km ok : Nat → Bool) (u v : Nat) (w : World) (e : Ending) (w' : World) : Prop :=
  ∃ (pb cap D : Nat) (p : Nat → Nat), e = .returned (.slice (some ⟨pb, 0, none⟩) (D + 1) cap) ∧ D + 1 ≤ cap ∧ cap ≤ 9223372036854775807 ∧ Below w.heap.size w w' ∧ (∀ i, i ≤ D → w'.cell? ⟨pb, i, none⟩ = some (.int .i32 ((p i : Nat) : Int))) ∧ IsPath n off T km ok u v p D

set_option maxHeartbeats 4000000 in
set_option maxRecDepth 100000 in
theorem path_any (gb n nt nk oc tc kc cc : Nat) (m : Int) (oa ta ka ca : Option Addr) (off T comp : Nat → Nat) (tz kz : Nat → Int) (w : World) (u v : Nat)
    (hG : Gr w gb n (n + 1) nt nk oc tc kc oa ta ka off tz kz) (hF : GF n nt nk off tz T) (hC : Row w 21 (.slice ca n cc) n (fun i => .int .i32 ((comp i : Nat) : Int))) (hu : u < n) (hv : v < n) (hr : Reach (EdO n off T (kmB kz m) (fun y => comp y == comp u)) u v) :
    Calls Try.prog 28 #[.pointer (some ⟨gb, 0, none⟩), .int .i32 (u : Int), .int .i32 (v : Int), .slice ca n cc, .int .u8 m] w (PathOut n off T (kmB kz m) (fun y => comp y == comp u) u v w) := by
  have hn := hF.small
  obtain ⟨w1, hrun1, M1, hg1⟩ := (MapI.made w).put (x := u) (y := u) (by omega) (by omega) (by omega)
  have hk1 : Kept (fun g => g = w.heap.size) (w.alloc (.map #[] 0)) w1 := Kept.grown hg1 (fun g e => by cases e; rfl)
  have hb1 : Below w.heap.size w w1 := hk1.below (below_alloc0 w _) (by simp) (fun g (e : g = w.heap.size) => by omega)
  have hs1 := hk1.size
  have hP0 : PS w (w1.alloc (.cells #[.int .i32 (u : Int)] 21)) w.heap.size (.slice (some ⟨w1.heap.size, 0, none⟩) 1 1) 1 [u] (fun _ => u) [u] := by
    refine ⟨hb1.alloc hb1.size _, Nat.le_refl _, ⟨up (fun _ => false) u true, ?_, fun x => ?_⟩, QRow.start w1 _ u hb1.size, fun g e => ?_, rfl⟩
    · refine MapI.congr (M1.kept (S := fun _ => False) (Kept.of_below (below_alloc0 w1 _)) (fun e => e)) (fun x hx => ?_)
      by_cases q : x = u
      · subst q; rw [up_same]
      · rw [up_ne _ _ q] at hx; cases hx
    · by_cases q : x = u
      · subst q; rw [up_same]; simp
      · rw [up_ne _ _ q]; simp [q]
    · simp [Value.ownBlock] at e
      simp at hs1
      omega
  have HP0 := hid hP0
  have HG := hid hG
  have HF := hid hF
  have HC := hid hC
  have HR := hid hr
  clear hG hF hC hr hP0 hg1 hk1 hb1 hs1 M1
  have hmk : (Instr.makeMap 63 none).run Try.prog w = .ok (.map (some w.heap.size)) (w.alloc (.map #[] 0)) := by
    simp [Instr.makeMap, run_underlying Try.underlying63]
  go_enter Try.func28, Try.ntmps28
  go_wp2
  refine p1_loop gb n nt nk oc tc kc cc m oa ta ka ca off T comp tz kz w u v w.heap.size _ HG.out HF.out HC.out hu HR.out n _ _ ⟨0, 1, _, undef, undef, [u], _, _, by omega, rfl, HP0.out, Bf.start hu⟩ ?_
  rintro a' w2 ⟨h, N, qv, xv, ev, Q, d, pv, hfit, hP, hB, hvQ⟩
  obtain ⟨g, rfl⟩ : ∃ g, a' = FRP gb n cc ca u v m w.heap.size qv xv ev g := ⟨_, hfit⟩
  obtain ⟨mem, hm, hmem⟩ := hP.map
  have hPath := hB.path hvQ
  have hvm : v ∈ Q := List.mem_of_getElem? hvQ
  have HB := hid hB
  have HM := hid hmem
  have HPT := hid hPath
  have hD := hPath.small
  have hN0 : NdS w (w2.alloc (.cells #[.int .i32 (v : Int)] 21)) w.heap.size N mem pv (.slice (some ⟨w2.heap.size, 0, none⟩) 1 1) (bkL pv v 0) := by
    refine ⟨hP.bel.alloc hP.bel.size _, Nat.le_refl _, hm.kept (S := fun _ => False) (Kept.of_below (below_alloc0 w2 _)) (fun e => e), ?_, fun g' e => ?_⟩
    · exact World.ownsRow_lit (base := w.heap.size) (e := 21) (size := 1) w2 #[.int .i32 (v : Int)] 1 hP.bel.size (by unfold maxLen; omega) rfl
    · have := hm.lt
      simp [Value.ownBlock] at e
      omega
  have HN0 := hid hN0
  clear hfit hP hB hvQ hm hmem hPath hN0 HP0 hmk hrun1
  obtain ⟨D, hDe⟩ : ∃ D, d v = D := ⟨_, rfl⟩
  have HDE := hid hDe
  rw [hDe] at hD
  clear hDe
  obtain ⟨i21, hi21, hz0, hz1, hz2⟩ := info_parts Try.info21
  unfold FRP
  dsimp only
  go_wp2
  go_loopg [18, 19] D (fun k nv xv wr => ∃ j : Nat, j + k = D ∧ xv = .int .i32 ((bk pv v j : Nat) : Int) ∧ Hid (NdS w wr w.heap.size N mem pv nv (bkL pv v j)))
  case atStart => exact ⟨0, by omega, rfl, HN0⟩
  case round =>
    obtain ⟨j, hj, rfl, HN⟩ := hrel
    clear HN0
    by_cases hjD : j < D
    · have hin := (HB.out.bkIn hvm j (by have := HDE.out; omega)).1
      have hin2 := (HB.out.bkIn hvm (j + 1) (by have := HDE.out; omega)).1
      have hne := HB.out.bkNe hvm (k := j) (by have := HDE.out; omega)
      have hxn := HB.out.qN _ hin
      have hxn2 := HB.out.qN _ hin2
      have hlook := HN.out.map.look (x := bk pv v j) (by omega) ((HM.out _).2 hin)
      have hpv : pv (bk pv v j) = bk pv v (j + 1) := rfl
      rw [hpv] at hlook
      have hmx := (HM.out _).2 hin
      obtain ⟨x, hx⟩ : ∃ x, bk pv v j = x := ⟨_, rfl⟩
      obtain ⟨y, hy⟩ : ∃ y, bk pv v (j + 1) = y := ⟨_, rfl⟩
      rw [hx, hy] at hlook
      rw [hx] at hne hxn hmx ⊢
      rw [hy] at hxn2
      have hq : ((x : Int) != (u : Int)) = true := by simp; omega
      have HXY := hid (And.intro hx hy)
      have HJ := hid hj
      have HPV := hid hpv
      have hbl := bkL_len pv v j
      have hbn : (bkL pv v j).length ≤ 65536 := by omega
      clear hx hy hj hin hin2 hpv hne hbl
      go_wp2_with (at_builtin; refine wpList_append_own_at _ rfl _ _ 22 rfl w.heap.size 21 i21 (.int .i32 0) 1 4 Try.underlying22 hi21 hz0 hz1 hz2 rfl (by decide) u18 (bkL pv v j).length (cellsS (bkL pv v j)) rfl (HN.out.own.alloc _) ⟨wr.heap.size, 0, none⟩ 1 1 [.int .i32 (y : Int)] rfl rfl (cell_one_new _ _ _) (by simp [Value.oneCell']) (by unfold maxLen; omega) (by omega) (by have := HN.out.bel.size; simp; omega) ?_; intro nv' w3 hown' hgrow hnl hloc; have HN3 := hid (HN.out.push hgrow hown' (by simpa using hloc)); have hlook2 := HN3.out.map.look (x := x) (by omega) hmx; rw [← HXY.out.1, HPV.out, HXY.out.2, HXY.out.1] at hlook2; clear hown' hgrow hnl hloc)
      go_roundg (gk - 1)
      case measure => have := HJ.out; omega
      case rel =>
        refine ⟨j + 1, by have := HJ.out; omega, by rw [HXY.out.2], hid ?_⟩
        rw [bkL_succ, HXY.out.2]
        exact HN3.out
    · obtain rfl : D = j := by omega
      have hend := HB.out.bkEnd hvm
      rw [HDE.out] at hend
      rw [hend]
      have hown := HN.out.own
      rw [bkL_len] at hown
      have hlt := hown.lt
      have hcell := hown
      obtain ⟨pb, cap, hnv⟩ := own_shape hown
      subst hnv
      obtain ⟨_, ⟨hbad, _⟩ | ⟨pb', cap', cur, e1, hpb, hcur, hle, hcm, hsz, htk⟩⟩ := hown
      · simp at hbad
      simp only [Value.slice.injEq, Option.some.injEq, Addr.mk.injEq, and_true, true_and] at e1
      obtain ⟨rfl, rfl⟩ := e1
      have hcm' : cap ≤ 9223372036854775807 := by simpa [maxLen] using hcm
      have hF : ∀ i, i ≤ D → cur.getD i undef = .int .i32 ((bk pv v i : Nat) : Int) := by
        intro i hi
        have h1 := hcell.cellAt i (by omega)
        rw [cell_of_row wr pb i cur 21 (0, 0) hcur] at h1
        have h2 : (cellsS (bkL pv v D))[i]? = some (.int .i32 ((bk pv v i : Nat) : Int)) := by
          simp [cellsS, bkL, show i < D + 1 by omega]
        rw [h2] at h1
        have hlt2 : i < cur.size := by omega
        simp [Array.getD, hlt2] at h1 ⊢
        exact h1
      have hrow : wr.rowIs pb 21 cap (fun i => cur.getD i undef) := ⟨cur, hcur, by omega, fun i hi => by
        have hlt2 : i < cur.size := by omega
        simp only [Array.getD, hlt2, dite_true]
        exact Array.getElem?_eq_getElem hlt2⟩
      have hrev := rev_any pb (D + 1) cap (fun i => cur.getD i undef) wr (by omega) (by omega) hle hcm' hrow (fun i hi => ⟨_, hF i (by omega)⟩)
      have HFF := hid hF
      have HPB := hid hpb
      clear hF hrow hcell hcur htk hsz hlt hend hj hjD hcm
      go_wp2_with fail
      refine hrev.mono ?_
      rintro e3 w4 ⟨rfl, hr4, hk4⟩
      have HR4 := hid hr4
      have HK4 := hid hk4
      clear hr4 hk4 hrev
      go_wp2
      go_ret
      refine ⟨pb, cap, D, fun i => bk pv v (d v - i), rfl, hle, hcm', HK4.out.below HN.out.bel HN.out.bel.size (fun g (e : g = pb) => by have := HPB.out; omega), fun i hi => ?_, ?_⟩
      · rw [HR4.out.cell (i := i) (by omega), if_pos (by omega), HFF.out _ (by omega), HDE.out]
        rfl
      · have := HPT.out
        rw [HDE.out] at this ⊢
        exact this


end Go.Proofs.Qxb6602859a
