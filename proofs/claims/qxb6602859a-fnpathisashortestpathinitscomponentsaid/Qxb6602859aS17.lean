import Derived.Test.Qxb6602859aS16
namespace Go.Proofs.Qxb6602859a
open Go.RowKit Kit
set_option linter.unusedVariables false
set_option linter.unusedSimpArgs false

/-- the frame of 'path' while it searches -/
def FRP (gb n cc : Nat) (ca : Option Addr) (u v : Nat) (m : Int) (mb : Nat) (qv xv ev : Value) (g : Nat → Value) : Act := ⟨#[.pointer (some ⟨gb, 0, none⟩), .int .i32 (u : Int), .int .i32 (v : Int), .slice ca n cc, .int .u8 m, g 5, g 6, g 7, g 8, g 9, g 10, .map (some mb), qv, xv, ev, g 15, g 16, g 17, g 18, g 19, g 20, g 21, g 22, g 23, g 24, g 25, g 26, g 27, g 28, g 29, g 30, g 31, g 32, g 33, g 34, g 35, g 36, g 37, g 38, g 39, g 40, g 41, g 42, g 43, g 44, g 45, g 46, g 47, g 48, g 49, g 50, g 51, g 52, g 53, g 54, g 55, g 56, g 57, g 58, g 59, g 60, g 61, g 62, g 63, g 64, g 65, g 66, g 67, g 68, g 69, g 70, g 71, g 72, g 73, g 74, g 75, g 76, g 77, g 78, g 79, g 80, g 81, g 82, g 83, g 84, g 85, g 86, g 87, g 88, g 89, g 90, g 91, g 92, g 93, g 94, g 95, g 96, g 97, g 98, g 99, g 100, g 101, g 102, g 103, g 104, g 105, g 106, g 107, g 108, g 109, g 110, g 111, g 112, g 113, g 114, g 115, g 116, g 117], []⟩
def FitsP (gb n cc : Nat) (ca : Option Addr) (u v : Nat) (m : Int) (mb : Nat) (qv xv ev : Value) (a : Act) : Prop := a = FRP gb n cc ca u v m mb qv xv ev (fun i => a.tmps.getD i undef)

/-- the memory of the search -/
structure PS (w wr : World) (mb : Nat) (qv : Value) (N : Nat) (Q : List Nat) (pv : Nat → Nat) (L : List Nat) : Prop where
  bel : Below w.heap.size w wr
  ge : w.heap.size ≤ mb
  map : ∃ mem : Nat → Bool, MapI wr mb N mem pv ∧ ∀ x, mem x = true ↔ x ∈ Q
  q : QRow wr w.heap.size qv L
  apart : ∀ g, qv.ownBlock = some g → g ≠ mb
  cnt : N = Q.length

theorem PS.drewN {w wr : World} {mb : Nat} {qv : Value} {N : Nat} {Q : List Nat} {pv : Nat → Nat} {L : List Nat} (h : PS w wr mb qv N Q pv L) (q : Nat) : PS w (wr.drewN q) mb qv N Q pv L :=
  ⟨below_drewN h.bel q, h.ge, h.map.elim fun mem hm => ⟨mem, hm.1.kept (S := fun _ => False) ((Kept.refl _ _).drewN q) (fun e => e), hm.2⟩, h.q.kept (S := fun _ => False) ((Kept.refl _ _).drewN q) (fun _ _ e => e), h.apart, h.cnt⟩

/-- 'prev[y] = x; queue = append(queue, y)' -/
theorem PS.push {w wr : World} {mb : Nat} {qv : Value} {N : Nat} {Q : List Nat} {pv : Nat → Nat} {L : List Nat} (h : PS w wr mb qv N Q pv L) {x y : Nat} (hx : x ≤ 65536) (hy : y ≤ 65536) (hyQ : y ∉ Q) (hQ : Q.length ≤ 65536) (hL : 0 < L.length) (hL2 : L.length ≤ 65536) :
    ∃ w1 a' c' w2, (Instr.mapUpdate 63 (.map (some mb)) (.int .i32 (y : Int)) (.int .i32 (x : Int))).run Try.prog wr = .ok () w1 ∧
      (Builtin.append_ #[22, 22] 22 #[qv, .slice (some ⟨w1.heap.size, 0, none⟩) 1 1]).run Try.prog (w1.alloc (.cells #[.int .i32 (y : Int)] 21)) = .ok (.slice a' (L.length + 1) c') w2 ∧
      PS w w2 mb (.slice a' (L.length + 1) c') (N + 1) (Q ++ [y]) (up pv y x) (L ++ [y]) := by
  obtain ⟨mem, hm, hmem⟩ := h.map
  obtain ⟨w1, hrun, hm1, hg1⟩ := hm.put (x := y) (y := x) hy hx (by have := h.cnt; omega)
  have hk1 : Kept (fun g => g = mb) wr w1 := Kept.grown hg1 (fun g e => by cases e; rfl)
  have hk1' : Kept (fun g => g = mb) wr (w1.alloc (.cells #[.int .i32 (y : Int)] 21)) := hk1.trans (Kept.of_below (below_alloc0 w1 _))
  have hq1 := h.q.kept hk1' (fun g hg e => h.apart g hg e)
  have hs1 := hk1'.size
  have hsw := h.bel.size
  have hB1 : Below w.heap.size w (w1.alloc (.cells #[.int .i32 (y : Int)] 21)) := hk1'.below h.bel hsw (fun g (hg : g = mb) => by have := h.ge; omega)
  obtain ⟨a', c', w2, hrun2, hq2, hg2, hloc⟩ := hq1.push (y := y) hL hL2 (by omega) (ad := ⟨w1.heap.size, 0, none⟩) (by simp)
  have hk2 : Kept (fun g => qv.ownBlock = some g) (w1.alloc (.cells #[.int .i32 (y : Int)] 21)) w2 := Kept.grown hg2 (fun g e => e)
  have hm1lt := hm1.lt
  refine ⟨w1, a', c', w2, hrun, hrun2, ⟨?_, h.ge, ⟨up mem y true, ?_, fun z => ?_⟩, hq2, ?_, ?_⟩⟩
  · refine hk2.below hB1 (by omega) (fun g hg => ?_)
    obtain ⟨a, c, rfl, _, _, h3 | ⟨g', o, f, rfl, hb, _⟩⟩ := h.q
    · subst h3; simp at hL
    · simp [Value.ownBlock] at hg; omega
  · exact (hm1.kept (S := fun _ => False) (Kept.of_below (below_alloc0 w1 _)) (fun e => e)).kept hk2 (fun e => h.apart mb e rfl)
  · by_cases hz : z = y
    · subst hz; rw [up_same]; simp
    · rw [up_ne _ _ hz, hmem z]; simp [hz]
  · intro g hg e
    subst e
    rcases hloc g hg with e | e
    · exact h.apart g e rfl
    · have : (w1.alloc (.cells #[.int .i32 (y : Int)] 21)).heap.size = w1.heap.size + 1 := by simp
      omega
  · have := h.cnt; simp; omega


set_option maxHeartbeats 4000000 in
set_option maxRecDepth 100000 in
theorem p2_out (gb n nt nk oc tc kc cc : Nat) (m : Int) (oa ta ka ca : Option Addr) (off T comp : Nat → Nat) (tz kz : Nat → Int) (w wr : World) (u v x e h N mb : Nat) (qv : Value) (Q : List Nat) (d pv : Nat → Nat) (g : Nat → Value) (K : Act → World → Prop) (Q0 : Exit → Act → World → Prop)
    (hG : Gr w gb n (n + 1) nt nk oc tc kc oa ta ka off tz kz) (hF : GF n nt nk off tz T) (hC : Row w 21 (.slice ca n cc) n (fun i => .int .i32 ((comp i : Nat) : Int))) (hu : u < n)
    (hP : PS w wr mb qv N Q pv (Q.drop h)) (hB : Bf n off T (kmB kz m) (fun y => comp y == comp u) u v Q d pv h) (hx : Q[h]? = some x) (hpt : Part off T (kmB kz m) (fun y => comp y == comp u) Q d x e) (hoe : off x ≤ e) (hee : e ≤ off (x + 1)) (he : e = off (x + 1))
    (hX : ∀ (a' : Act), FitsP gb n cc ca u v m mb qv (.int .i32 (x : Int)) (.int .i32 (e : Int)) a' → Q0 (.exit 2) a' wr) :
    Code.wp Try.prog (L2 Try.f28) (Exit.then K Q0) ⟨#[.pointer (some ⟨gb, 0, none⟩), .int .i32 (u : Int), .int .i32 (v : Int), .slice ca n cc, .int .u8 m, g 5, g 6, g 7, g 8, g 9, g 10, .map (some mb), qv, .int .i32 (x : Int), .int .i32 (e : Int), g 15, g 16, g 17, g 18, g 19, g 20, g 21, g 22, g 23, g 24, g 25, g 26, g 27, g 28, g 29, g 30, g 31, g 32, g 33, g 34, g 35, g 36, g 37, g 38, g 39, g 40, g 41, g 42, g 43, g 44, g 45, g 46, g 47, g 48, g 49, g 50, g 51, g 52, g 53, g 54, g 55, g 56, g 57, g 58, g 59, g 60, g 61, g 62, g 63, g 64, g 65, g 66, g 67, g 68, g 69, g 70, g 71, g 72, g 73, g 74, g 75, g 76, g 77, g 78, g 79, g 80, g 81, g 82, g 83, g 84, g 85, g 86, g 87, g 88, g 89, g 90, g 91, g 92, g 93, g 94, g 95, g 96, g 97, g 98, g 99, g 100, g 101, g 102, g 103, g 104, g 105, g 106, g 107, g 108, g 109, g 110, g 111, g 112, g 113, g 114, g 115, g 116, g 117], []⟩ wr := by
  have hxQ : x ∈ Q := List.mem_of_getElem? hx
  have hxn := hB.qN x hxQ
  have hn := hF.small
  have Gr1 := hG.below hP.bel
  have g2 := Gr1.c2
  have g3 := Gr1.c3
  have g4 := Gr1.c4
  obtain ⟨og, eo, co⟩ := Gr1.rO.slice.2.2 (x + 1) (by omega)
  subst eo
  have i0 : (0 : Int) ≤ (x : Int) + 1 := by omega
  have i1 : (x : Int) + 1 < (n : Int) + 1 := by omega
  have w32 : IntKind.i32.wrap ((x : Int) + 1) = (x : Int) + 1 := by rw [IntKind.wrap_i32]; omega
  rw [← he] at co
  have hlt : decide ((e : Int) < (e : Int)) = false := by simp
  have HX := hid hX
  clear hX hG hF hC hP hB hx hpt hoe hee Gr1 he
  conv => arg 2; whnf
  go_wp2
  exact HX.out _ rfl
set_option maxHeartbeats 4000000 in
set_option maxRecDepth 100000 in
theorem p2_in (gb n nt nk oc tc kc cc : Nat) (m : Int) (oa ta ka ca : Option Addr) (off T comp : Nat → Nat) (tz kz : Nat → Int) (w wr : World) (u v x e h N mb : Nat) (qv : Value) (Q : List Nat) (d pv : Nat → Nat) (g : Nat → Value) (K : Act → World → Prop) (Q0 : Exit → Act → World → Prop)
    (hG : Gr w gb n (n + 1) nt nk oc tc kc oa ta ka off tz kz) (hF : GF n nt nk off tz T) (hC : Row w 21 (.slice ca n cc) n (fun i => .int .i32 ((comp i : Nat) : Int))) (hu : u < n)
    (hP : PS w wr mb qv N Q pv (Q.drop h)) (hB : Bf n off T (kmB kz m) (fun y => comp y == comp u) u v Q d pv h) (hx : Q[h]? = some x) (hpt : Part off T (kmB kz m) (fun y => comp y == comp u) Q d x e) (hoe : off x ≤ e) (hee : e ≤ off (x + 1)) (he : e < off (x + 1)) (hin : T e ∈ Q)
    (hK : ∀ (a' : Act) (w' : World) (N' : Nat) (qv' : Value) (Q' : List Nat) (d' pv' : Nat → Nat), FitsP gb n cc ca u v m mb qv' (.int .i32 (x : Int)) (.int .i32 ((e + 1 : Nat) : Int)) a' → PS w w' mb qv' N' Q' pv' (Q'.drop h) → Bf n off T (kmB kz m) (fun y => comp y == comp u) u v Q' d' pv' h → Q'[h]? = some x → Part off T (kmB kz m) (fun y => comp y == comp u) Q' d' x (e + 1) → K a' w') :
    Code.wp Try.prog (L2 Try.f28) (Exit.then K Q0) ⟨#[.pointer (some ⟨gb, 0, none⟩), .int .i32 (u : Int), .int .i32 (v : Int), .slice ca n cc, .int .u8 m, g 5, g 6, g 7, g 8, g 9, g 10, .map (some mb), qv, .int .i32 (x : Int), .int .i32 (e : Int), g 15, g 16, g 17, g 18, g 19, g 20, g 21, g 22, g 23, g 24, g 25, g 26, g 27, g 28, g 29, g 30, g 31, g 32, g 33, g 34, g 35, g 36, g 37, g 38, g 39, g 40, g 41, g 42, g 43, g 44, g 45, g 46, g 47, g 48, g 49, g 50, g 51, g 52, g 53, g 54, g 55, g 56, g 57, g 58, g 59, g 60, g 61, g 62, g 63, g 64, g 65, g 66, g 67, g 68, g 69, g 70, g 71, g 72, g 73, g 74, g 75, g 76, g 77, g 78, g 79, g 80, g 81, g 82, g 83, g 84, g 85, g 86, g 87, g 88, g 89, g 90, g 91, g 92, g 93, g 94, g 95, g 96, g 97, g 98, g 99, g 100, g 101, g 102, g 103, g 104, g 105, g 106, g 107, g 108, g 109, g 110, g 111, g 112, g 113, g 114, g 115, g 116, g 117], []⟩ wr := by
  have hxQ : x ∈ Q := List.mem_of_getElem? hx
  have hxn := hB.qN x hxQ
  have hn := hF.small
  have Gr1 := hG.below hP.bel
  have g2 := Gr1.c2
  have g3 := Gr1.c3
  have g4 := Gr1.c4
  obtain ⟨og, eo, co⟩ := Gr1.rO.slice.2.2 (x + 1) (by omega)
  subst eo
  have i0 : (0 : Int) ≤ (x : Int) + 1 := by omega
  have i1 : (x : Int) + 1 < (n : Int) + 1 := by omega
  have w32 : IntKind.i32.wrap ((x : Int) + 1) = (x : Int) + 1 := by rw [IntKind.wrap_i32]; omega
  have hen : e < off n := Nat.lt_of_lt_of_le he (hF.le (x := x + 1) (by omega) (Nat.le_refl _))
  have he0 : off 0 ≤ e := Nat.le_trans (hF.le (Nat.zero_le x) (by omega)) hoe
  have hent : e < nt := Nat.lt_of_lt_of_le hen hF.le1
  have henk : e < nk := Nat.lt_of_lt_of_le hen hF.le2
  have hnt := hF.nt
  obtain ⟨tg, et, ct⟩ := Gr1.rT.slice.2.2 e hent
  obtain ⟨kg, ek, ck⟩ := Gr1.rK.slice.2.2 e henk
  subst et
  subst ek
  obtain ⟨hte, htn⟩ := hF.tgt e he0 hen
  rw [hte] at ct
  have i4 : (0 : Int) ≤ (e : Int) := by omega
  have i5 : (e : Int) < (nt : Int) := by omega
  have i6 : (e : Int) < (nk : Int) := by omega
  obtain ⟨y, hy⟩ : ∃ y, T e = y := ⟨_, rfl⟩
  rw [hy] at ct htn
  obtain ⟨kv, hkv⟩ : ∃ kv, kz e = kv := ⟨_, rfl⟩
  rw [hkv] at ck
  have C1 := hC.below hP.bel
  obtain ⟨cg, ec, ccy⟩ := C1.slice.2.2 y htn
  obtain ⟨cg', ec', ccu⟩ := C1.slice.2.2 u hu
  rw [ec] at ec'
  cases ec'
  subst ec
  have i7 : (0 : Int) ≤ (y : Int) := by omega
  have i8 : (y : Int) < (n : Int) := by omega
  have i9 : (0 : Int) ≤ (u : Int) := by omega
  have i10 : (u : Int) < (n : Int) := by omega
  obtain ⟨mem, hm, hmem⟩ := hP.map
  obtain ⟨cz, hlook⟩ := hm.lookOk (x := y) (by omega)
  have HK := hid hK
  have HP := hid hP
  have HB := hid hB
  have HX := hid hx
  have HPT := hid hpt
  have HE := hid (And.intro he (And.intro hoe (And.intro hy (And.intro hkv htn))))
  have HM := hid hmem
  obtain ⟨o1, ho1⟩ : ∃ o1, off (x + 1) = o1 := ⟨_, rfl⟩
  rw [ho1] at co
  have hlt : decide ((e : Int) < (o1 : Int)) = true := by simp; omega
  have hlt' : e < o1 := by omega
  have HF := hid hF
  obtain ⟨cy, hcy⟩ : ∃ cy, comp y = cy := ⟨_, rfl⟩
  obtain ⟨cu, hcu⟩ : ∃ cu, comp u = cu := ⟨_, rfl⟩
  rw [hcy] at ccy
  rw [hcu] at ccu
  have HCC := hid (And.intro hcy hcu)
  have he32 : e ≤ 65536 := by omega
  have hmy : mem y = true := (hmem y).2 (by rw [← hy]; exact hin)
  rw [hmy] at hlook
  have HIN := hid hin
  clear hK hG hP hB hx hpt hoe hee Gr1 C1 hte hy hkv he hen he0 ho1 hF hcy hcu hC hm hmem
  clear hin
  conv => arg 2; whnf
  go_wp2
  go_quiet (fail)
  go_wp2
  exact HK.out _ _ N qv Q d pv rfl (HP.out.drewN _) HB.out HX.out (HPT.out.skip (fun _ _ => ⟨HIN.out, HB.out.span x _ HX.out HIN.out⟩))
set_option maxHeartbeats 4000000 in
set_option maxRecDepth 100000 in
theorem p2_mask (gb n nt nk oc tc kc cc : Nat) (m : Int) (oa ta ka ca : Option Addr) (off T comp : Nat → Nat) (tz kz : Nat → Int) (w wr : World) (u v x e h N mb : Nat) (qv : Value) (Q : List Nat) (d pv : Nat → Nat) (g : Nat → Value) (K : Act → World → Prop) (Q0 : Exit → Act → World → Prop)
    (hG : Gr w gb n (n + 1) nt nk oc tc kc oa ta ka off tz kz) (hF : GF n nt nk off tz T) (hC : Row w 21 (.slice ca n cc) n (fun i => .int .i32 ((comp i : Nat) : Int))) (hu : u < n)
    (hP : PS w wr mb qv N Q pv (Q.drop h)) (hB : Bf n off T (kmB kz m) (fun y => comp y == comp u) u v Q d pv h) (hx : Q[h]? = some x) (hpt : Part off T (kmB kz m) (fun y => comp y == comp u) Q d x e) (hoe : off x ≤ e) (hee : e ≤ off (x + 1)) (he : e < off (x + 1)) (hin : T e ∉ Q) (hke : kmB kz m e = false)
    (hK : ∀ (a' : Act) (w' : World) (N' : Nat) (qv' : Value) (Q' : List Nat) (d' pv' : Nat → Nat), FitsP gb n cc ca u v m mb qv' (.int .i32 (x : Int)) (.int .i32 ((e + 1 : Nat) : Int)) a' → PS w w' mb qv' N' Q' pv' (Q'.drop h) → Bf n off T (kmB kz m) (fun y => comp y == comp u) u v Q' d' pv' h → Q'[h]? = some x → Part off T (kmB kz m) (fun y => comp y == comp u) Q' d' x (e + 1) → K a' w') :
    Code.wp Try.prog (L2 Try.f28) (Exit.then K Q0) ⟨#[.pointer (some ⟨gb, 0, none⟩), .int .i32 (u : Int), .int .i32 (v : Int), .slice ca n cc, .int .u8 m, g 5, g 6, g 7, g 8, g 9, g 10, .map (some mb), qv, .int .i32 (x : Int), .int .i32 (e : Int), g 15, g 16, g 17, g 18, g 19, g 20, g 21, g 22, g 23, g 24, g 25, g 26, g 27, g 28, g 29, g 30, g 31, g 32, g 33, g 34, g 35, g 36, g 37, g 38, g 39, g 40, g 41, g 42, g 43, g 44, g 45, g 46, g 47, g 48, g 49, g 50, g 51, g 52, g 53, g 54, g 55, g 56, g 57, g 58, g 59, g 60, g 61, g 62, g 63, g 64, g 65, g 66, g 67, g 68, g 69, g 70, g 71, g 72, g 73, g 74, g 75, g 76, g 77, g 78, g 79, g 80, g 81, g 82, g 83, g 84, g 85, g 86, g 87, g 88, g 89, g 90, g 91, g 92, g 93, g 94, g 95, g 96, g 97, g 98, g 99, g 100, g 101, g 102, g 103, g 104, g 105, g 106, g 107, g 108, g 109, g 110, g 111, g 112, g 113, g 114, g 115, g 116, g 117], []⟩ wr := by
  have hxQ : x ∈ Q := List.mem_of_getElem? hx
  have hxn := hB.qN x hxQ
  have hn := hF.small
  have Gr1 := hG.below hP.bel
  have g2 := Gr1.c2
  have g3 := Gr1.c3
  have g4 := Gr1.c4
  obtain ⟨og, eo, co⟩ := Gr1.rO.slice.2.2 (x + 1) (by omega)
  subst eo
  have i0 : (0 : Int) ≤ (x : Int) + 1 := by omega
  have i1 : (x : Int) + 1 < (n : Int) + 1 := by omega
  have w32 : IntKind.i32.wrap ((x : Int) + 1) = (x : Int) + 1 := by rw [IntKind.wrap_i32]; omega
  have hen : e < off n := Nat.lt_of_lt_of_le he (hF.le (x := x + 1) (by omega) (Nat.le_refl _))
  have he0 : off 0 ≤ e := Nat.le_trans (hF.le (Nat.zero_le x) (by omega)) hoe
  have hent : e < nt := Nat.lt_of_lt_of_le hen hF.le1
  have henk : e < nk := Nat.lt_of_lt_of_le hen hF.le2
  have hnt := hF.nt
  obtain ⟨tg, et, ct⟩ := Gr1.rT.slice.2.2 e hent
  obtain ⟨kg, ek, ck⟩ := Gr1.rK.slice.2.2 e henk
  subst et
  subst ek
  obtain ⟨hte, htn⟩ := hF.tgt e he0 hen
  rw [hte] at ct
  have i4 : (0 : Int) ≤ (e : Int) := by omega
  have i5 : (e : Int) < (nt : Int) := by omega
  have i6 : (e : Int) < (nk : Int) := by omega
  obtain ⟨y, hy⟩ : ∃ y, T e = y := ⟨_, rfl⟩
  rw [hy] at ct htn
  obtain ⟨kv, hkv⟩ : ∃ kv, kz e = kv := ⟨_, rfl⟩
  rw [hkv] at ck
  have C1 := hC.below hP.bel
  obtain ⟨cg, ec, ccy⟩ := C1.slice.2.2 y htn
  obtain ⟨cg', ec', ccu⟩ := C1.slice.2.2 u hu
  rw [ec] at ec'
  cases ec'
  subst ec
  have i7 : (0 : Int) ≤ (y : Int) := by omega
  have i8 : (y : Int) < (n : Int) := by omega
  have i9 : (0 : Int) ≤ (u : Int) := by omega
  have i10 : (u : Int) < (n : Int) := by omega
  obtain ⟨mem, hm, hmem⟩ := hP.map
  obtain ⟨cz, hlook⟩ := hm.lookOk (x := y) (by omega)
  have HK := hid hK
  have HP := hid hP
  have HB := hid hB
  have HX := hid hx
  have HPT := hid hpt
  have HE := hid (And.intro he (And.intro hoe (And.intro hy (And.intro hkv htn))))
  have HM := hid hmem
  obtain ⟨o1, ho1⟩ : ∃ o1, off (x + 1) = o1 := ⟨_, rfl⟩
  rw [ho1] at co
  have hlt : decide ((e : Int) < (o1 : Int)) = true := by simp; omega
  have hlt' : e < o1 := by omega
  have HF := hid hF
  obtain ⟨cy, hcy⟩ : ∃ cy, comp y = cy := ⟨_, rfl⟩
  obtain ⟨cu, hcu⟩ : ∃ cu, comp u = cu := ⟨_, rfl⟩
  rw [hcy] at ccy
  rw [hcu] at ccu
  have HCC := hid (And.intro hcy hcu)
  have he32 : e ≤ 65536 := by omega
  have hmy : mem y = false := by
    cases q : mem y
    · rfl
    · exact absurd ((hmem y).1 q) (by rw [← hy]; exact hin)
  rw [hmy] at hlook
  have hz : (bits .and .u8 kv m == 0) = true := by rw [← hkv]; simpa [kmB] using hke
  clear hK hG hP hB hx hpt hoe hee Gr1 C1 hte hy hkv he hen he0 ho1 hF hcy hcu hC hm hmem
  clear hin
  conv => arg 2; whnf
  go_wp2
  go_quiet (fail)
  go_wp2
  exact HK.out _ _ N qv Q d pv rfl (HP.out.drewN _) HB.out HX.out (HPT.out.skip (fun h => by rw [hke] at h; cases h))
set_option maxHeartbeats 4000000 in
set_option maxRecDepth 100000 in
theorem p2_comp (gb n nt nk oc tc kc cc : Nat) (m : Int) (oa ta ka ca : Option Addr) (off T comp : Nat → Nat) (tz kz : Nat → Int) (w wr : World) (u v x e h N mb : Nat) (qv : Value) (Q : List Nat) (d pv : Nat → Nat) (g : Nat → Value) (K : Act → World → Prop) (Q0 : Exit → Act → World → Prop)
    (hG : Gr w gb n (n + 1) nt nk oc tc kc oa ta ka off tz kz) (hF : GF n nt nk off tz T) (hC : Row w 21 (.slice ca n cc) n (fun i => .int .i32 ((comp i : Nat) : Int))) (hu : u < n)
    (hP : PS w wr mb qv N Q pv (Q.drop h)) (hB : Bf n off T (kmB kz m) (fun y => comp y == comp u) u v Q d pv h) (hx : Q[h]? = some x) (hpt : Part off T (kmB kz m) (fun y => comp y == comp u) Q d x e) (hoe : off x ≤ e) (hee : e ≤ off (x + 1)) (he : e < off (x + 1)) (hin : T e ∉ Q) (hke : kmB kz m e = true) (hco : comp (T e) ≠ comp u)
    (hK : ∀ (a' : Act) (w' : World) (N' : Nat) (qv' : Value) (Q' : List Nat) (d' pv' : Nat → Nat), FitsP gb n cc ca u v m mb qv' (.int .i32 (x : Int)) (.int .i32 ((e + 1 : Nat) : Int)) a' → PS w w' mb qv' N' Q' pv' (Q'.drop h) → Bf n off T (kmB kz m) (fun y => comp y == comp u) u v Q' d' pv' h → Q'[h]? = some x → Part off T (kmB kz m) (fun y => comp y == comp u) Q' d' x (e + 1) → K a' w') :
    Code.wp Try.prog (L2 Try.f28) (Exit.then K Q0) ⟨#[.pointer (some ⟨gb, 0, none⟩), .int .i32 (u : Int), .int .i32 (v : Int), .slice ca n cc, .int .u8 m, g 5, g 6, g 7, g 8, g 9, g 10, .map (some mb), qv, .int .i32 (x : Int), .int .i32 (e : Int), g 15, g 16, g 17, g 18, g 19, g 20, g 21, g 22, g 23, g 24, g 25, g 26, g 27, g 28, g 29, g 30, g 31, g 32, g 33, g 34, g 35, g 36, g 37, g 38, g 39, g 40, g 41, g 42, g 43, g 44, g 45, g 46, g 47, g 48, g 49, g 50, g 51, g 52, g 53, g 54, g 55, g 56, g 57, g 58, g 59, g 60, g 61, g 62, g 63, g 64, g 65, g 66, g 67, g 68, g 69, g 70, g 71, g 72, g 73, g 74, g 75, g 76, g 77, g 78, g 79, g 80, g 81, g 82, g 83, g 84, g 85, g 86, g 87, g 88, g 89, g 90, g 91, g 92, g 93, g 94, g 95, g 96, g 97, g 98, g 99, g 100, g 101, g 102, g 103, g 104, g 105, g 106, g 107, g 108, g 109, g 110, g 111, g 112, g 113, g 114, g 115, g 116, g 117], []⟩ wr := by
  have hxQ : x ∈ Q := List.mem_of_getElem? hx
  have hxn := hB.qN x hxQ
  have hn := hF.small
  have Gr1 := hG.below hP.bel
  have g2 := Gr1.c2
  have g3 := Gr1.c3
  have g4 := Gr1.c4
  obtain ⟨og, eo, co⟩ := Gr1.rO.slice.2.2 (x + 1) (by omega)
  subst eo
  have i0 : (0 : Int) ≤ (x : Int) + 1 := by omega
  have i1 : (x : Int) + 1 < (n : Int) + 1 := by omega
  have w32 : IntKind.i32.wrap ((x : Int) + 1) = (x : Int) + 1 := by rw [IntKind.wrap_i32]; omega
  have hen : e < off n := Nat.lt_of_lt_of_le he (hF.le (x := x + 1) (by omega) (Nat.le_refl _))
  have he0 : off 0 ≤ e := Nat.le_trans (hF.le (Nat.zero_le x) (by omega)) hoe
  have hent : e < nt := Nat.lt_of_lt_of_le hen hF.le1
  have henk : e < nk := Nat.lt_of_lt_of_le hen hF.le2
  have hnt := hF.nt
  obtain ⟨tg, et, ct⟩ := Gr1.rT.slice.2.2 e hent
  obtain ⟨kg, ek, ck⟩ := Gr1.rK.slice.2.2 e henk
  subst et
  subst ek
  obtain ⟨hte, htn⟩ := hF.tgt e he0 hen
  rw [hte] at ct
  have i4 : (0 : Int) ≤ (e : Int) := by omega
  have i5 : (e : Int) < (nt : Int) := by omega
  have i6 : (e : Int) < (nk : Int) := by omega
  obtain ⟨y, hy⟩ : ∃ y, T e = y := ⟨_, rfl⟩
  rw [hy] at ct htn
  obtain ⟨kv, hkv⟩ : ∃ kv, kz e = kv := ⟨_, rfl⟩
  rw [hkv] at ck
  have C1 := hC.below hP.bel
  obtain ⟨cg, ec, ccy⟩ := C1.slice.2.2 y htn
  obtain ⟨cg', ec', ccu⟩ := C1.slice.2.2 u hu
  rw [ec] at ec'
  cases ec'
  subst ec
  have i7 : (0 : Int) ≤ (y : Int) := by omega
  have i8 : (y : Int) < (n : Int) := by omega
  have i9 : (0 : Int) ≤ (u : Int) := by omega
  have i10 : (u : Int) < (n : Int) := by omega
  obtain ⟨mem, hm, hmem⟩ := hP.map
  obtain ⟨cz, hlook⟩ := hm.lookOk (x := y) (by omega)
  have HK := hid hK
  have HP := hid hP
  have HB := hid hB
  have HX := hid hx
  have HPT := hid hpt
  have HE := hid (And.intro he (And.intro hoe (And.intro hy (And.intro hkv htn))))
  have HM := hid hmem
  obtain ⟨o1, ho1⟩ : ∃ o1, off (x + 1) = o1 := ⟨_, rfl⟩
  rw [ho1] at co
  have hlt : decide ((e : Int) < (o1 : Int)) = true := by simp; omega
  have hlt' : e < o1 := by omega
  have HF := hid hF
  obtain ⟨cy, hcy⟩ : ∃ cy, comp y = cy := ⟨_, rfl⟩
  obtain ⟨cu, hcu⟩ : ∃ cu, comp u = cu := ⟨_, rfl⟩
  rw [hcy] at ccy
  rw [hcu] at ccu
  have HCC := hid (And.intro hcy hcu)
  have he32 : e ≤ 65536 := by omega
  have hmy : mem y = false := by
    cases q : mem y
    · rfl
    · exact absurd ((hmem y).1 q) (by rw [← hy]; exact hin)
  rw [hmy] at hlook
  have hz : (bits .and .u8 kv m == 0) = false := by rw [← hkv]; simpa [kmB] using hke
  have hcn : ((cy : Int) != (cu : Int)) = true := by
    have : cy ≠ cu := by rw [← hcy, ← hcu, ← hy]; exact hco
    simp; omega
  have HCO := hid hco
  clear hK hG hP hB hx hpt hoe hee Gr1 C1 hte hy hkv he hen he0 ho1 hF hcy hcu hC hm hmem
  clear hin hco
  conv => arg 2; whnf
  go_wp2
  go_quiet (fail)
  go_wp2
  exact HK.out _ _ N qv Q d pv rfl (HP.out.drewN _) HB.out HX.out (HPT.out.skip (fun _ h => by simp at h; exact absurd h HCO.out))

end Go.Proofs.Qxb6602859a
