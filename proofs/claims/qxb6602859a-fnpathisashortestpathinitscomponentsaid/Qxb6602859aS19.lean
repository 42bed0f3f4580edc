import Derived.Test.Qxb6602859aS18
namespace Go.Proofs.Qxb6602859a
open Go.RowKit Kit
set_option linter.unusedVariables false
set_option linter.unusedSimpArgs false


theorem PS.tail0 {w wr : World} {mb g o l c N : Nat} {Q : List Nat} {pv : Nat → Nat} {L L' : List Nat} (h : PS w wr mb (.slice (some ⟨g, o, none⟩) l c) N Q pv L) (hL : L' = []) {a : Option Addr} (ha : a = some ⟨g, o, none⟩) : PS w wr mb (.slice a 0 0) N Q pv L' := by
  subst hL
  subst ha
  exact ⟨h.bel, h.ge, h.map, QRow.empty _ _ _ _ (by omega), h.apart, h.cnt⟩

theorem PS.tail {w wr : World} {mb g o l c N x : Nat} {Q : List Nat} {pv : Nat → Nat} {L L' : List Nat} (h : PS w wr mb (.slice (some ⟨g, o, none⟩) (l + 1) c) N Q pv L) (hq : QRow wr w.heap.size (.slice (some ⟨g, o, none⟩) (L'.length + 1) c) (x :: L')) (hl : L'.length = l) : PS w wr mb (.slice (some ⟨g, o + 1, none⟩) l (c - 1)) N Q pv L' := by
  subst hl
  refine ⟨h.bel, h.ge, h.map, ?_, h.apart, h.cnt⟩
  by_cases hn : L' = []
  · subst hn
    obtain ⟨a, c', e, _, h2, _⟩ := hq
    simp at e
    exact QRow.empty _ _ _ _ (by omega)
  · exact hq.tail hn

def J2 (gb n cc : Nat) (m : Int) (ca : Option Addr) (off T comp : Nat → Nat) (km : Nat → Bool) (w : World) (u v x h mb : Nat) (k : Nat) (a : Act) (wr : World) : Prop :=
  ∃ (e N : Nat) (qv : Value) (Q : List Nat) (d pv : Nat → Nat), k = off (x + 1) - e ∧ FitsP gb n cc ca u v m mb qv (.int .i32 (x : Int)) (.int .i32 (e : Int)) a ∧ PS w wr mb qv N Q pv (Q.drop h) ∧ Bf n off T km (fun y => comp y == comp u) u v Q d pv h ∧ Q[h]? = some x ∧ Part off T km (fun y => comp y == comp u) Q d x e ∧ off x ≤ e ∧ e ≤ off (x + 1)

def Y2 (gb n cc : Nat) (m : Int) (ca : Option Addr) (off T comp : Nat → Nat) (km : Nat → Bool) (w : World) (u v x h mb : Nat) (a : Act) (wr : World) : Prop :=
  ∃ (N : Nat) (qv ev : Value) (Q : List Nat) (d pv : Nat → Nat), FitsP gb n cc ca u v m mb qv (.int .i32 (x : Int)) ev a ∧ PS w wr mb qv N Q pv (Q.drop h) ∧ Bf n off T km (fun y => comp y == comp u) u v Q d pv h ∧ Q[h]? = some x ∧ Part off T km (fun y => comp y == comp u) Q d x (off (x + 1))

set_option maxRecDepth 100000 in
set_option maxHeartbeats 2000000 in
theorem p2_round (gb n nt nk oc tc kc cc : Nat) (m : Int) (oa ta ka ca : Option Addr) (off T comp : Nat → Nat) (tz kz : Nat → Int) (w : World) (u v : Nat) (x h mb : Nat) (Q0 : Exit → Act → World → Prop)
    (hG : Gr w gb n (n + 1) nt nk oc tc kc oa ta ka off tz kz) (hF : GF n nt nk off tz T) (hC : Row w 21 (.slice ca n cc) n (fun i => .int .i32 ((comp i : Nat) : Int))) (hu : u < n)
    (hX : ∀ a' w', Y2 gb n cc m ca off T comp (kmB kz m) w u v x h mb a' w' → Q0 (.exit 2) a' w')
    (k : Nat) (a : Act) (wr : World) (hJ : J2 gb n cc m ca off T comp (kmB kz m) w u v x h mb k a wr) :
    Code.wp Try.prog (L2 Try.f28) (Exit.then (fun a' w' => ∃ k', k' < k ∧ J2 gb n cc m ca off T comp (kmB kz m) w u v x h mb k' a' w') Q0) a wr := by
  obtain ⟨e, N, qv, Q, d, pv, rfl, hfit, hP, hB, hx, hpt, hoe, hee⟩ := hJ
  obtain ⟨g, rfl⟩ : ∃ g, a = FRP gb n cc ca u v m mb qv (.int .i32 (x : Int)) (.int .i32 (e : Int)) g := ⟨_, hfit⟩
  by_cases he : e = off (x + 1)
  · exact p2_out gb n nt nk oc tc kc cc m oa ta ka ca off T comp tz kz w wr u v x e h N mb qv Q d pv g _ Q0 hG hF hC hu hP hB hx hpt hoe hee he (fun a' hf => hX a' wr ⟨N, qv, _, Q, d, pv, hf, hP, hB, hx, by rw [← he]; exact hpt⟩)
  have he : e < off (x + 1) := by omega
  have hK : ∀ (a' : Act) (w' : World) (N' : Nat) (qv' : Value) (Q' : List Nat) (d' pv' : Nat → Nat), FitsP gb n cc ca u v m mb qv' (.int .i32 (x : Int)) (.int .i32 ((e + 1 : Nat) : Int)) a' → PS w w' mb qv' N' Q' pv' (Q'.drop h) → Bf n off T (kmB kz m) (fun y => comp y == comp u) u v Q' d' pv' h → Q'[h]? = some x → Part off T (kmB kz m) (fun y => comp y == comp u) Q' d' x (e + 1) → (fun a' w' => ∃ k', k' < off (x + 1) - e ∧ J2 gb n cc m ca off T comp (kmB kz m) w u v x h mb k' a' w') a' w' :=
    fun a' w' N' qv' Q' d' pv' h1 h2 h3 h4 h5 => ⟨off (x + 1) - (e + 1), by omega, e + 1, N', qv', Q', d', pv', rfl, h1, h2, h3, h4, h5, by omega, by omega⟩
  by_cases hin : T e ∈ Q
  · exact p2_in gb n nt nk oc tc kc cc m oa ta ka ca off T comp tz kz w wr u v x e h N mb qv Q d pv g _ Q0 hG hF hC hu hP hB hx hpt hoe hee he hin hK
  · cases hke : kmB kz m e
    · exact p2_mask gb n nt nk oc tc kc cc m oa ta ka ca off T comp tz kz w wr u v x e h N mb qv Q d pv g _ Q0 hG hF hC hu hP hB hx hpt hoe hee he hin hke hK
    · by_cases hco : comp (T e) = comp u
      · exact p2_new gb n nt nk oc tc kc cc m oa ta ka ca off T comp tz kz w wr u v x e h N mb qv Q d pv g _ Q0 hG hF hC hu hP hB hx hpt hoe hee he hin hke hco hK
      · exact p2_comp gb n nt nk oc tc kc cc m oa ta ka ca off T comp tz kz w wr u v x e h N mb qv Q d pv g _ Q0 hG hF hC hu hP hB hx hpt hoe hee he hin hke hco hK

theorem p2_loop (gb n nt nk oc tc kc cc : Nat) (m : Int) (oa ta ka ca : Option Addr) (off T comp : Nat → Nat) (tz kz : Nat → Int) (w : World) (u v : Nat) (x h mb : Nat) (Q0 : Exit → Act → World → Prop)
    (hG : Gr w gb n (n + 1) nt nk oc tc kc oa ta ka off tz kz) (hF : GF n nt nk off tz T) (hC : Row w 21 (.slice ca n cc) n (fun i => .int .i32 ((comp i : Nat) : Int))) (hu : u < n) (k : Nat) (a : Act) (wr : World) (hJ : J2 gb n cc m ca off T comp (kmB kz m) w u v x h mb k a wr)
    (hX : ∀ a' w', Y2 gb n cc m ca off T comp (kmB kz m) w u v x h mb a' w' → Q0 (.exit 2) a' w') :
    Code.wp Try.prog (Code.loop (L2 Try.f28)) Q0 a wr :=
  wp_loop_ghost (J2 gb n cc m ca off T comp (kmB kz m) w u v x h mb) k hJ (fun k a w1 hh => p2_round gb n nt nk oc tc kc cc m oa ta ka ca off T comp tz kz w u v x h mb Q0 hG hF hC hu hX k a w1 hh)

set_option maxHeartbeats 4000000 in
set_option maxRecDepth 100000 in
theorem p1_found (gb n nt nk oc tc kc cc : Nat) (m : Int) (oa ta ka ca : Option Addr) (off T comp : Nat → Nat) (tz kz : Nat → Int) (w : World) (u v : Nat) (wr : World) (h N mb : Nat) (qv xv ev : Value) (Q : List Nat) (d pv : Nat → Nat) (g : Nat → Value) (K : Act → World → Prop) (Q0 : Exit → Act → World → Prop)
    (hG : Gr w gb n (n + 1) nt nk oc tc kc oa ta ka off tz kz) (hF : GF n nt nk off tz T) (hC : Row w 21 (.slice ca n cc) n (fun i => .int .i32 ((comp i : Nat) : Int))) (hu : u < n)
    (hP : PS w wr mb qv N Q pv (Q.drop h)) (hB : Bf n off T (kmB kz m) (fun y => comp y == comp u) u v Q d pv h) (x : Nat) (hx : Q[h]? = some x) (hv : x = v)
    (hX : ∀ (a' : Act) (w' : World) (xv' : Value), FitsP gb n cc ca u v m mb qv xv' ev a' → PS w w' mb qv N Q pv (Q.drop h) → Q0 (.exit 0) a' w') :
    Code.wp Try.prog (L1 Try.f28) (Exit.then K Q0) ⟨#[.pointer (some ⟨gb, 0, none⟩), .int .i32 (u : Int), .int .i32 (v : Int), .slice ca n cc, .int .u8 m, g 5, g 6, g 7, g 8, g 9, g 10, .map (some mb), qv, xv, ev, g 15, g 16, g 17, g 18, g 19, g 20, g 21, g 22, g 23, g 24, g 25, g 26, g 27, g 28, g 29, g 30, g 31, g 32, g 33, g 34, g 35, g 36, g 37, g 38, g 39, g 40, g 41, g 42, g 43, g 44, g 45, g 46, g 47, g 48, g 49, g 50, g 51, g 52, g 53, g 54, g 55, g 56, g 57, g 58, g 59, g 60, g 61, g 62, g 63, g 64, g 65, g 66, g 67, g 68, g 69, g 70, g 71, g 72, g 73, g 74, g 75, g 76, g 77, g 78, g 79, g 80, g 81, g 82, g 83, g 84, g 85, g 86, g 87, g 88, g 89, g 90, g 91, g 92, g 93, g 94, g 95, g 96, g 97, g 98, g 99, g 100, g 101, g 102, g 103, g 104, g 105, g 106, g 107, g 108, g 109, g 110, g 111, g 112, g 113, g 114, g 115, g 116, g 117], []⟩ wr := by
  have hn := hF.small
  have hlt := (List.getElem?_eq_some_iff.1 hx).1
  have hdr : Q.drop h = x :: Q.drop (h + 1) := by
    rw [List.drop_eq_getElem_cons hlt]
    congr 1
    have := List.getElem?_eq_getElem hlt
    rw [hx] at this
    exact (Option.some.inj this).symm
  have hq := hP.q
  rw [hdr] at hq
  obtain ⟨qg, qo, qc, rfl, c1, c2, cx, qb, ql⟩ := hq.head
  obtain ⟨l, hl⟩ : ∃ l, (Q.drop (h + 1)).length = l := ⟨_, rfl⟩
  rw [hl] at hq c1 hP hX ⊢
  have hl0 : decide ((0 : Int) < (l : Int) + 1) = true := decide_eq_true (by omega)
  have i0 : (0 : Int) < (l : Int) + 1 := by omega
  subst hv
  have HX := hid hX
  have HP := hid hP
  clear hX hG hF hC hP hB hx hdr hq
  conv => arg 2; whnf
  go_wp2
  exact HX.out _ _ _ rfl HP.out
set_option maxHeartbeats 4000000 in
set_option maxRecDepth 100000 in
theorem p1_next (gb n nt nk oc tc kc cc : Nat) (m : Int) (oa ta ka ca : Option Addr) (off T comp : Nat → Nat) (tz kz : Nat → Int) (w : World) (u v : Nat) (wr : World) (h N mb : Nat) (qv xv ev : Value) (Q : List Nat) (d pv : Nat → Nat) (g : Nat → Value) (K : Act → World → Prop) (Q0 : Exit → Act → World → Prop)
    (hG : Gr w gb n (n + 1) nt nk oc tc kc oa ta ka off tz kz) (hF : GF n nt nk off tz T) (hC : Row w 21 (.slice ca n cc) n (fun i => .int .i32 ((comp i : Nat) : Int))) (hu : u < n)
    (hP : PS w wr mb qv N Q pv (Q.drop h)) (hB : Bf n off T (kmB kz m) (fun y => comp y == comp u) u v Q d pv h) (x : Nat) (hx : Q[h]? = some x) (hv : x ≠ v)
    (hK : ∀ (a' : Act) (w' : World) (N' : Nat) (qv' xv' ev' : Value) (Q' : List Nat) (d' pv' : Nat → Nat), FitsP gb n cc ca u v m mb qv' xv' ev' a' → PS w w' mb qv' N' Q' pv' (Q'.drop (h + 1)) → Bf n off T (kmB kz m) (fun y => comp y == comp u) u v Q' d' pv' (h + 1) → K a' w') :
    Code.wp Try.prog (L1 Try.f28) (Exit.then K Q0) ⟨#[.pointer (some ⟨gb, 0, none⟩), .int .i32 (u : Int), .int .i32 (v : Int), .slice ca n cc, .int .u8 m, g 5, g 6, g 7, g 8, g 9, g 10, .map (some mb), qv, xv, ev, g 15, g 16, g 17, g 18, g 19, g 20, g 21, g 22, g 23, g 24, g 25, g 26, g 27, g 28, g 29, g 30, g 31, g 32, g 33, g 34, g 35, g 36, g 37, g 38, g 39, g 40, g 41, g 42, g 43, g 44, g 45, g 46, g 47, g 48, g 49, g 50, g 51, g 52, g 53, g 54, g 55, g 56, g 57, g 58, g 59, g 60, g 61, g 62, g 63, g 64, g 65, g 66, g 67, g 68, g 69, g 70, g 71, g 72, g 73, g 74, g 75, g 76, g 77, g 78, g 79, g 80, g 81, g 82, g 83, g 84, g 85, g 86, g 87, g 88, g 89, g 90, g 91, g 92, g 93, g 94, g 95, g 96, g 97, g 98, g 99, g 100, g 101, g 102, g 103, g 104, g 105, g 106, g 107, g 108, g 109, g 110, g 111, g 112, g 113, g 114, g 115, g 116, g 117], []⟩ wr := by
  have hn := hF.small
  have hlt := (List.getElem?_eq_some_iff.1 hx).1
  have hdr : Q.drop h = x :: Q.drop (h + 1) := by
    rw [List.drop_eq_getElem_cons hlt]
    congr 1
    have := List.getElem?_eq_getElem hlt
    rw [hx] at this
    exact (Option.some.inj this).symm
  have hq := hP.q
  rw [hdr] at hq
  obtain ⟨qg, qo, qc, rfl, c1, c2, cx, qb, ql⟩ := hq.head
  obtain ⟨l, hl⟩ : ∃ l, (Q.drop (h + 1)).length = l := ⟨_, rfl⟩
  rw [hl] at hq c1 hP ⊢
  have hl0 : decide ((0 : Int) < (l : Int) + 1) = true := decide_eq_true (by omega)
  have i0 : (0 : Int) < (l : Int) + 1 := by omega
  have hxn := hB.qN x (List.mem_of_getElem? hx)
  have hxv : ((x : Int) == (v : Int)) = false := by simp; omega
  have Gr1 := hG.below hP.bel
  have g2 := Gr1.c2
  obtain ⟨og, eo, co⟩ := Gr1.rO.slice.2.2 x (by omega)
  subst eo
  have j0 : (0 : Int) ≤ (x : Int) := by omega
  have j1 : (x : Int) < (n : Int) + 1 := by omega
  have hm0 := hF.mono x hxn
  have HK := hid hK
  have HP := hid hP
  have HB := hid hB
  have HG := hid hG
  have HF := hid hF
  have HC := hid hC
  have HX := hid hx
  have HV := hid hv
  have HM0 := hid hm0
  clear hK hG hF hC hP hB hx hdr hq Gr1 hv hm0
  conv => arg 2; whnf
  go_wp2
  refine p2_loop gb n nt nk oc tc kc cc m _ ta ka ca off T comp tz kz w u v x h mb _ HG.out HF.out HC.out hu _ _ wr ⟨off x, N, _, Q, d, pv, rfl, rfl, HP.out, HB.out, HX.out, Part.start off T _ _ Q d x, Nat.le_refl _, HM0.out⟩ ?_
  rintro a' w' ⟨N2, qv2, ev2, Q2, d2, pv2, hfit, P2, B2, hx2, hpt2⟩
  obtain ⟨g', rfl⟩ : ∃ g', a' = FRP gb n cc ca u v m mb qv2 (.int .i32 (x : Int)) ev2 g' := ⟨_, hfit⟩
  have hlt2 := (List.getElem?_eq_some_iff.1 hx2).1
  have hdr2 : Q2.drop h = x :: Q2.drop (h + 1) := by
    rw [List.drop_eq_getElem_cons hlt2]
    congr 1
    have := List.getElem?_eq_getElem hlt2
    rw [hx2] at this
    exact (Option.some.inj this).symm
  have hq2 := P2.q
  rw [hdr2] at hq2
  obtain ⟨qg2, qo2, qc2, rfl, c3, c4, cx2, qb2, ql2⟩ := hq2.head
  have B3 := B2.step hx2 HV.out hpt2
  obtain ⟨l2, hl2⟩ : ∃ l2, (Q2.drop (h + 1)).length = l2 := ⟨_, rfl⟩
  rw [hl2] at c3 P2
  have HQ2 := hid hq2
  have HP2 := hid P2
  have HB3 := hid B3
  have HL2 := hid hl2
  have k0 : (1 : Int) ≤ (l2 : Int) + 1 := by omega
  have k1 : (l2 : Int) + 1 ≤ (qc2 : Int) := by omega
  have k2 : 1 ≤ qc2 := by omega
  clear hfit P2 B2 hx2 hpt2 hq2 B3 hdr2 cx2
  unfold FRP
  dsimp only
  rw [hl2]
  clear hl2
  by_cases hq1 : qc2 = 1
  · subst hq1
    obtain rfl : l2 = 0 := by omega
    go_wp2
    exact HK.out _ _ N2 _ _ _ Q2 d2 pv2 rfl (HP2.out.tail0 (List.eq_nil_of_length_eq_zero HL2.out) rfl) HB3.out
  · go_wp2
    exact HK.out _ _ N2 _ _ _ Q2 d2 pv2 rfl (HP2.out.tail HQ2.out HL2.out) HB3.out

end Go.Proofs.Qxb6602859a
