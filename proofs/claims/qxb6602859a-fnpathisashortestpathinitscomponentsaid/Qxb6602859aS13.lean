import Derived.Test.Qxb6602859aS12
namespace Go.Proofs.Qxb6602859a
open Go.RowKit Kit
set_option linter.unusedVariables false
set_option linter.unusedSimpArgs false

theorem rest27_0 : restF Try.f27 0 = (itemF Try.f27 0).seq (restF Try.f27 1) := rfl
theorem rest27_1 : restF Try.f27 1 = (itemF Try.f27 1).seq (restF Try.f27 2) := rfl
theorem rest27_2 : restF Try.f27 2 = (itemF Try.f27 2).seq (restF Try.f27 3) := rfl
theorem rest27_3 : restF Try.f27 3 = (itemF Try.f27 3).seq (restF Try.f27 4) := rfl
theorem rest27_4 : restF Try.f27 4 = (itemF Try.f27 4).seq (restF Try.f27 5) := rfl
theorem rest27_5 : restF Try.f27 5 = (itemF Try.f27 5).seq (restF Try.f27 6) := rfl
theorem rest27_6 : restF Try.f27 6 = (itemF Try.f27 6).seq (restF Try.f27 7) := rfl
theorem rest27_7 : restF Try.f27 7 = (itemF Try.f27 7).seq (restF Try.f27 8) := rfl
theorem rest27_8 : restF Try.f27 8 = (itemF Try.f27 8).seq (restF Try.f27 9) := rfl
theorem rest27_9 : restF Try.f27 9 = (itemF Try.f27 9).seq (restF Try.f27 10) := rfl

/-- at the head of the outer loop -/
def I1 (H gb n : Nat) (m : Int) (w : World) (off T : Nat → Nat) (km : Nat → Bool) (q : Nat) (a : Act) (wr : World) : Prop :=
  ∃ (root k c : Nat) (ord low comp : Nat → Nat) (on : Nat → Bool) (sv fv : Value) (S : List Nat) (r : Nat), q = n - root ∧ root ≤ n ∧ Fits H gb n m (.int .i32 (c : Int)) (.int .i32 (root : Int)) a ∧ TS H gb n w wr ord low comp on sv fv S [] r ∧ Iv n off T km root k ord low comp on S [] r c

def X1 (H gb n : Nat) (m : Int) (w : World) (off T : Nat → Nat) (km : Nat → Bool) (a : Act) (wr : World) : Prop :=
  ∃ (k c : Nat) (ord low comp : Nat → Nat) (on : Nat → Bool) (sv fv : Value) (S : List Nat) (r : Nat), Fits H gb n m (.int .i32 (c : Int)) (.int .i32 (n : Int)) a ∧ TS H gb n w wr ord low comp on sv fv S [] r ∧ Iv n off T km n k ord low comp on S [] r c

set_option maxRecDepth 100000 in
set_option maxHeartbeats 2000000 in
theorem r1_round (H gb n nt nk oc tc kc : Nat) (m : Int) (oa ta ka : Option Addr) (off T : Nat → Nat) (tz kz : Nat → Int) (w : World) (Q0 : Exit → Act → World → Prop)
    (hG : Gr w gb n (n + 1) nt nk oc tc kc oa ta ka off tz kz) (hF : GF n nt nk off tz T) (hH : w.heap.size = H)
    (hX : ∀ a' w', X1 H gb n m w off T (kmB kz m) a' w' → Q0 (.exit 0) a' w')
    (q : Nat) (a : Act) (wr : World) (hI1 : I1 H gb n m w off T (kmB kz m) q a wr) :
    Code.wp Try.prog (L1 Try.f27) (Exit.then (fun a' w' => ∃ q', q' < q ∧ I1 H gb n m w off T (kmB kz m) q' a' w') Q0) a wr := by
  obtain ⟨root, k, c, ord, low, comp, on, sv, fv, S, r, rfl, hrn, hfit, hT, hI⟩ := hI1
  obtain ⟨g, rfl⟩ : ∃ g, a = FR H gb n m (.int .i32 (c : Int)) (.int .i32 (root : Int)) g := ⟨_, hfit⟩
  by_cases hr : root = n
  · refine r1_out H gb n nt nk oc tc kc m oa ta ka off T tz kz w wr root k c ord low comp on sv fv S r g _ Q0 hG hF hH hr hT hI (fun a' h => hX a' wr ⟨k, c, ord, low, comp, on, sv, fv, S, r, ?_, hT, ?_⟩)
    · rw [hr] at h; exact h
    · rw [hr] at hI; exact hI
  have hr : root < n := by omega
  have hK : ∀ (a' : Act) (w' : World) (c' k' : Nat) (ord' low' comp' : Nat → Nat) (on' : Nat → Bool) (sv' fv' : Value) (S' : List Nat) (r' : Nat), Fits H gb n m (.int .i32 (c' : Int)) (.int .i32 ((root + 1 : Nat) : Int)) a' → TS H gb n w w' ord' low' comp' on' sv' fv' S' [] r' → Iv n off T (kmB kz m) (root + 1) k' ord' low' comp' on' S' [] r' c' → (fun a' w' => ∃ q', q' < n - root ∧ I1 H gb n m w off T (kmB kz m) q' a' w') a' w' :=
    fun a' w' c' k' ord' low' comp' on' sv' fv' S' r' h1 h2 h3 => ⟨n - (root + 1), by omega, root + 1, k', c', ord', low', comp', on', sv', fv', S', r', rfl, by omega, h1, h2, h3⟩
  by_cases ho : ord root = 0
  · exact r1_new H gb n nt nk oc tc kc m oa ta ka off T tz kz w wr root k c ord low comp on sv fv S r g _ Q0 hG hF hH hr ho hT hI hK
  · exact r1_met H gb n nt nk oc tc kc m oa ta ka off T tz kz w wr root k c ord low comp on sv fv S r g _ Q0 hG hF hH hr ho hT hI hK

theorem r1_loop (H gb n nt nk oc tc kc : Nat) (m : Int) (oa ta ka : Option Addr) (off T : Nat → Nat) (tz kz : Nat → Int) (w : World) (Q0 : Exit → Act → World → Prop)
    (hG : Gr w gb n (n + 1) nt nk oc tc kc oa ta ka off tz kz) (hF : GF n nt nk off tz T) (hH : w.heap.size = H) (q : Nat) (a : Act) (wr : World) (hI : I1 H gb n m w off T (kmB kz m) q a wr)
    (hX : ∀ a' w', X1 H gb n m w off T (kmB kz m) a' w' → Q0 (.exit 0) a' w') :
    Code.wp Try.prog (Code.loop (L1 Try.f27)) Q0 a wr :=
  wp_loop_ghost (I1 H gb n m w off T (kmB kz m)) q hI (fun q a w1 h => r1_round H gb n nt nk oc tc kc m oa ta ka off T tz kz w Q0 hG hF hH hX q a w1 h)

theorem TS.start (w : World) (gb n : Nat) : TS w.heap.size gb n w (((((((((((w.alloc (.cells #[.pointer (some ⟨gb, 0, none⟩)] 43)).alloc (.cells (madeCells #[.int .i32 0] n) 21)).alloc (.cells #[.slice (some ⟨w.heap.size + 1, 0, none⟩) n n] 22)).alloc (.cells (madeCells #[.int .i32 0] n) 21)).alloc (.cells #[.slice (some ⟨w.heap.size + 1 + 1 + 1, 0, none⟩) n n] 22)).alloc (.cells (madeCells #[.int .i32 0] n) 21)).alloc (.cells (madeCells #[.bool false] n) 4)).alloc (.cells #[.slice (some ⟨w.heap.size + 1 + 1 + 1 + 1 + 1 + 1, 0, none⟩) n n] 35)).alloc (.cells #[.slice none 0 0] 22)).alloc (.cells #[.slice none 0 0] 58)).alloc (.cells #[.int .i32 0] 21)) (fun _ => 0) (fun _ => 0) (fun _ => 0) (fun _ => false) (.slice none 0 0) (.slice none 0 0) [] [] 0 := by
  obtain ⟨w1, e1⟩ : ∃ w1, w1 = w.alloc (.cells #[.pointer (some ⟨gb, 0, none⟩)] 43) := ⟨_, rfl⟩
  have s1 : w1.heap.size = w.heap.size + 1 := by rw [e1]; simp
  obtain ⟨w2, e2⟩ : ∃ w2, w2 = w1.alloc (.cells (madeCells #[.int .i32 0] n) 21) := ⟨_, rfl⟩
  have s2 : w2.heap.size = w.heap.size + 2 := by rw [e2]; simp [s1]
  obtain ⟨w3, e3⟩ : ∃ w3, w3 = w2.alloc (.cells #[.slice (some ⟨w.heap.size + 1, 0, none⟩) n n] 22) := ⟨_, rfl⟩
  have s3 : w3.heap.size = w.heap.size + 3 := by rw [e3]; simp [s2]
  obtain ⟨w4, e4⟩ : ∃ w4, w4 = w3.alloc (.cells (madeCells #[.int .i32 0] n) 21) := ⟨_, rfl⟩
  have s4 : w4.heap.size = w.heap.size + 4 := by rw [e4]; simp [s3]
  obtain ⟨w5, e5⟩ : ∃ w5, w5 = w4.alloc (.cells #[.slice (some ⟨w.heap.size + 1 + 1 + 1, 0, none⟩) n n] 22) := ⟨_, rfl⟩
  have s5 : w5.heap.size = w.heap.size + 5 := by rw [e5]; simp [s4]
  obtain ⟨w6, e6⟩ : ∃ w6, w6 = w5.alloc (.cells (madeCells #[.int .i32 0] n) 21) := ⟨_, rfl⟩
  have s6 : w6.heap.size = w.heap.size + 6 := by rw [e6]; simp [s5]
  obtain ⟨w7, e7⟩ : ∃ w7, w7 = w6.alloc (.cells (madeCells #[.bool false] n) 4) := ⟨_, rfl⟩
  have s7 : w7.heap.size = w.heap.size + 7 := by rw [e7]; simp [s6]
  obtain ⟨w8, e8⟩ : ∃ w8, w8 = w7.alloc (.cells #[.slice (some ⟨w.heap.size + 1 + 1 + 1 + 1 + 1 + 1, 0, none⟩) n n] 35) := ⟨_, rfl⟩
  have s8 : w8.heap.size = w.heap.size + 8 := by rw [e8]; simp [s7]
  obtain ⟨w9, e9⟩ : ∃ w9, w9 = w8.alloc (.cells #[.slice none 0 0] 22) := ⟨_, rfl⟩
  have s9 : w9.heap.size = w.heap.size + 9 := by rw [e9]; simp [s8]
  obtain ⟨w10, e10⟩ : ∃ w10, w10 = w9.alloc (.cells #[.slice none 0 0] 58) := ⟨_, rfl⟩
  have s10 : w10.heap.size = w.heap.size + 10 := by rw [e10]; simp [s9]
  obtain ⟨w11, e11⟩ : ∃ w11, w11 = w10.alloc (.cells #[.int .i32 0] 21) := ⟨_, rfl⟩
  have s11 : w11.heap.size = w.heap.size + 11 := by rw [e11]; simp [s10]
  have B0 : Below w.heap.size w w11 := by
    have h := Below.refl w.heap.size w
    have h := h.alloc (by omega) (.cells #[.pointer (some ⟨gb, 0, none⟩)] 43)
    rw [← e1] at h
    have h := h.alloc (by omega) (.cells (madeCells #[.int .i32 0] n) 21)
    rw [← e2] at h
    have h := h.alloc (by omega) (.cells #[.slice (some ⟨w.heap.size + 1, 0, none⟩) n n] 22)
    rw [← e3] at h
    have h := h.alloc (by omega) (.cells (madeCells #[.int .i32 0] n) 21)
    rw [← e4] at h
    have h := h.alloc (by omega) (.cells #[.slice (some ⟨w.heap.size + 1 + 1 + 1, 0, none⟩) n n] 22)
    rw [← e5] at h
    have h := h.alloc (by omega) (.cells (madeCells #[.int .i32 0] n) 21)
    rw [← e6] at h
    have h := h.alloc (by omega) (.cells (madeCells #[.bool false] n) 4)
    rw [← e7] at h
    have h := h.alloc (by omega) (.cells #[.slice (some ⟨w.heap.size + 1 + 1 + 1 + 1 + 1 + 1, 0, none⟩) n n] 35)
    rw [← e8] at h
    have h := h.alloc (by omega) (.cells #[.slice none 0 0] 22)
    rw [← e9] at h
    have h := h.alloc (by omega) (.cells #[.slice none 0 0] 58)
    rw [← e10] at h
    have h := h.alloc (by omega) (.cells #[.int .i32 0] 21)
    rw [← e11] at h
    exact h
  have B1 : Below w1.heap.size w1 w11 := by
    have h := Below.refl w1.heap.size w1
    have h := h.alloc (by omega) (.cells (madeCells #[.int .i32 0] n) 21)
    rw [← e2] at h
    have h := h.alloc (by omega) (.cells #[.slice (some ⟨w.heap.size + 1, 0, none⟩) n n] 22)
    rw [← e3] at h
    have h := h.alloc (by omega) (.cells (madeCells #[.int .i32 0] n) 21)
    rw [← e4] at h
    have h := h.alloc (by omega) (.cells #[.slice (some ⟨w.heap.size + 1 + 1 + 1, 0, none⟩) n n] 22)
    rw [← e5] at h
    have h := h.alloc (by omega) (.cells (madeCells #[.int .i32 0] n) 21)
    rw [← e6] at h
    have h := h.alloc (by omega) (.cells (madeCells #[.bool false] n) 4)
    rw [← e7] at h
    have h := h.alloc (by omega) (.cells #[.slice (some ⟨w.heap.size + 1 + 1 + 1 + 1 + 1 + 1, 0, none⟩) n n] 35)
    rw [← e8] at h
    have h := h.alloc (by omega) (.cells #[.slice none 0 0] 22)
    rw [← e9] at h
    have h := h.alloc (by omega) (.cells #[.slice none 0 0] 58)
    rw [← e10] at h
    have h := h.alloc (by omega) (.cells #[.int .i32 0] 21)
    rw [← e11] at h
    exact h
  have B2 : Below w2.heap.size w2 w11 := by
    have h := Below.refl w2.heap.size w2
    have h := h.alloc (by omega) (.cells #[.slice (some ⟨w.heap.size + 1, 0, none⟩) n n] 22)
    rw [← e3] at h
    have h := h.alloc (by omega) (.cells (madeCells #[.int .i32 0] n) 21)
    rw [← e4] at h
    have h := h.alloc (by omega) (.cells #[.slice (some ⟨w.heap.size + 1 + 1 + 1, 0, none⟩) n n] 22)
    rw [← e5] at h
    have h := h.alloc (by omega) (.cells (madeCells #[.int .i32 0] n) 21)
    rw [← e6] at h
    have h := h.alloc (by omega) (.cells (madeCells #[.bool false] n) 4)
    rw [← e7] at h
    have h := h.alloc (by omega) (.cells #[.slice (some ⟨w.heap.size + 1 + 1 + 1 + 1 + 1 + 1, 0, none⟩) n n] 35)
    rw [← e8] at h
    have h := h.alloc (by omega) (.cells #[.slice none 0 0] 22)
    rw [← e9] at h
    have h := h.alloc (by omega) (.cells #[.slice none 0 0] 58)
    rw [← e10] at h
    have h := h.alloc (by omega) (.cells #[.int .i32 0] 21)
    rw [← e11] at h
    exact h
  have B3 : Below w3.heap.size w3 w11 := by
    have h := Below.refl w3.heap.size w3
    have h := h.alloc (by omega) (.cells (madeCells #[.int .i32 0] n) 21)
    rw [← e4] at h
    have h := h.alloc (by omega) (.cells #[.slice (some ⟨w.heap.size + 1 + 1 + 1, 0, none⟩) n n] 22)
    rw [← e5] at h
    have h := h.alloc (by omega) (.cells (madeCells #[.int .i32 0] n) 21)
    rw [← e6] at h
    have h := h.alloc (by omega) (.cells (madeCells #[.bool false] n) 4)
    rw [← e7] at h
    have h := h.alloc (by omega) (.cells #[.slice (some ⟨w.heap.size + 1 + 1 + 1 + 1 + 1 + 1, 0, none⟩) n n] 35)
    rw [← e8] at h
    have h := h.alloc (by omega) (.cells #[.slice none 0 0] 22)
    rw [← e9] at h
    have h := h.alloc (by omega) (.cells #[.slice none 0 0] 58)
    rw [← e10] at h
    have h := h.alloc (by omega) (.cells #[.int .i32 0] 21)
    rw [← e11] at h
    exact h
  have B4 : Below w4.heap.size w4 w11 := by
    have h := Below.refl w4.heap.size w4
    have h := h.alloc (by omega) (.cells #[.slice (some ⟨w.heap.size + 1 + 1 + 1, 0, none⟩) n n] 22)
    rw [← e5] at h
    have h := h.alloc (by omega) (.cells (madeCells #[.int .i32 0] n) 21)
    rw [← e6] at h
    have h := h.alloc (by omega) (.cells (madeCells #[.bool false] n) 4)
    rw [← e7] at h
    have h := h.alloc (by omega) (.cells #[.slice (some ⟨w.heap.size + 1 + 1 + 1 + 1 + 1 + 1, 0, none⟩) n n] 35)
    rw [← e8] at h
    have h := h.alloc (by omega) (.cells #[.slice none 0 0] 22)
    rw [← e9] at h
    have h := h.alloc (by omega) (.cells #[.slice none 0 0] 58)
    rw [← e10] at h
    have h := h.alloc (by omega) (.cells #[.int .i32 0] 21)
    rw [← e11] at h
    exact h
  have B5 : Below w5.heap.size w5 w11 := by
    have h := Below.refl w5.heap.size w5
    have h := h.alloc (by omega) (.cells (madeCells #[.int .i32 0] n) 21)
    rw [← e6] at h
    have h := h.alloc (by omega) (.cells (madeCells #[.bool false] n) 4)
    rw [← e7] at h
    have h := h.alloc (by omega) (.cells #[.slice (some ⟨w.heap.size + 1 + 1 + 1 + 1 + 1 + 1, 0, none⟩) n n] 35)
    rw [← e8] at h
    have h := h.alloc (by omega) (.cells #[.slice none 0 0] 22)
    rw [← e9] at h
    have h := h.alloc (by omega) (.cells #[.slice none 0 0] 58)
    rw [← e10] at h
    have h := h.alloc (by omega) (.cells #[.int .i32 0] 21)
    rw [← e11] at h
    exact h
  have B6 : Below w6.heap.size w6 w11 := by
    have h := Below.refl w6.heap.size w6
    have h := h.alloc (by omega) (.cells (madeCells #[.bool false] n) 4)
    rw [← e7] at h
    have h := h.alloc (by omega) (.cells #[.slice (some ⟨w.heap.size + 1 + 1 + 1 + 1 + 1 + 1, 0, none⟩) n n] 35)
    rw [← e8] at h
    have h := h.alloc (by omega) (.cells #[.slice none 0 0] 22)
    rw [← e9] at h
    have h := h.alloc (by omega) (.cells #[.slice none 0 0] 58)
    rw [← e10] at h
    have h := h.alloc (by omega) (.cells #[.int .i32 0] 21)
    rw [← e11] at h
    exact h
  have B7 : Below w7.heap.size w7 w11 := by
    have h := Below.refl w7.heap.size w7
    have h := h.alloc (by omega) (.cells #[.slice (some ⟨w.heap.size + 1 + 1 + 1 + 1 + 1 + 1, 0, none⟩) n n] 35)
    rw [← e8] at h
    have h := h.alloc (by omega) (.cells #[.slice none 0 0] 22)
    rw [← e9] at h
    have h := h.alloc (by omega) (.cells #[.slice none 0 0] 58)
    rw [← e10] at h
    have h := h.alloc (by omega) (.cells #[.int .i32 0] 21)
    rw [← e11] at h
    exact h
  have B8 : Below w8.heap.size w8 w11 := by
    have h := Below.refl w8.heap.size w8
    have h := h.alloc (by omega) (.cells #[.slice none 0 0] 22)
    rw [← e9] at h
    have h := h.alloc (by omega) (.cells #[.slice none 0 0] 58)
    rw [← e10] at h
    have h := h.alloc (by omega) (.cells #[.int .i32 0] 21)
    rw [← e11] at h
    exact h
  have B9 : Below w9.heap.size w9 w11 := by
    have h := Below.refl w9.heap.size w9
    have h := h.alloc (by omega) (.cells #[.slice none 0 0] 58)
    rw [← e10] at h
    have h := h.alloc (by omega) (.cells #[.int .i32 0] 21)
    rw [← e11] at h
    exact h
  have B10 : Below w10.heap.size w10 w11 := by
    have h := Below.refl w10.heap.size w10
    have h := h.alloc (by omega) (.cells #[.int .i32 0] 21)
    rw [← e11] at h
    exact h
  have B11 : Below w11.heap.size w11 w11 := by
    have h := Below.refl w11.heap.size w11
    exact h
  have c0 : w11.cell? ⟨w.heap.size + 0, 0, none⟩ = some (.pointer (some ⟨gb, 0, none⟩)) := by
    refine cell_later B1 ?_
    rw [e1, ← (show w.heap.size = w.heap.size + 0 from rfl)]
    simp
  have c2 : w11.cell? ⟨w.heap.size + 2, 0, none⟩ = some (.slice (some ⟨w.heap.size + 1, 0, none⟩) n n) := by
    refine cell_later B3 ?_
    rw [e3, ← (show w2.heap.size = w.heap.size + 2 from s2)]
    simp
  have c4 : w11.cell? ⟨w.heap.size + 4, 0, none⟩ = some (.slice (some ⟨w.heap.size + 3, 0, none⟩) n n) := by
    refine cell_later B5 ?_
    rw [e5, ← (show w4.heap.size = w.heap.size + 4 from s4)]
    simp
  have c7 : w11.cell? ⟨w.heap.size + 7, 0, none⟩ = some (.slice (some ⟨w.heap.size + 6, 0, none⟩) n n) := by
    refine cell_later B8 ?_
    rw [e8, ← (show w7.heap.size = w.heap.size + 7 from s7)]
    simp
  have c8 : w11.cell? ⟨w.heap.size + 8, 0, none⟩ = some (.slice none 0 0) := by
    refine cell_later B9 ?_
    rw [e9, ← (show w8.heap.size = w.heap.size + 8 from s8)]
    simp
  have c9 : w11.cell? ⟨w.heap.size + 9, 0, none⟩ = some (.slice none 0 0) := by
    refine cell_later B10 ?_
    rw [e10, ← (show w9.heap.size = w.heap.size + 9 from s9)]
    simp
  have c10 : w11.cell? ⟨w.heap.size + 10, 0, none⟩ = some (.int .i32 0) := by
    refine cell_later B11 ?_
    rw [e11, ← (show w10.heap.size = w.heap.size + 10 from s10)]
    simp
  have z8 : w11.frozen? ⟨w.heap.size + 8, 0, none⟩ = false := by
    rw [B9.frozen (show w.heap.size + 8 < w9.heap.size from by omega), e9, ← s8]
    simp
  have z9 : w11.frozen? ⟨w.heap.size + 9, 0, none⟩ = false := by
    rw [B10.frozen (show w.heap.size + 9 < w10.heap.size from by omega), e10, ← s9]
    simp
  have z10 : w11.frozen? ⟨w.heap.size + 10, 0, none⟩ = false := by
    rw [B11.frozen (show w.heap.size + 10 < w11.heap.size from by omega), e11, ← s10]
    simp
  have r1 : w11.rowIs (w.heap.size + 1) 21 n (fun _ => .int .i32 0) := by
    have h := World.rowIs_made w1 (.int .i32 0) n 21
    rw [← e2, s1] at h
    exact h.of_block (B2.block _ h.lt)
  have r3 : w11.rowIs (w.heap.size + 3) 21 n (fun _ => .int .i32 0) := by
    have h := World.rowIs_made w3 (.int .i32 0) n 21
    rw [← e4, s3] at h
    exact h.of_block (B4.block _ h.lt)
  have r5 : w11.rowIs (w.heap.size + 5) 21 n (fun _ => .int .i32 0) := by
    have h := World.rowIs_made w5 (.int .i32 0) n 21
    rw [← e6, s5] at h
    exact h.of_block (B6.block _ h.lt)
  have r6 : w11.rowIs (w.heap.size + 6) 4 n (fun _ => .bool false) := by
    have h := World.rowIs_made w6 (.bool false) n 4
    rw [← e7, s6] at h
    exact h.of_block (B7.block _ h.lt)
  rw [← e1, ← e2, ← e3, ← e4, ← e5, ← e6, ← e7, ← e8, ← e9, ← e10, ← e11]
  exact ⟨B0, by omega, c0, c2, c4, c7, c8, c9, c10, z8, z9, z10, r1, r3, r5, r6, World.ownsRow_nil _ _ _ _, World.ownsRow_nil _ _ _ _⟩

set_option maxHeartbeats 4000000 in
set_option maxRecDepth 100000 in
theorem comps_any (gb n nt nk oc tc kc : Nat) (m : Int) (oa ta ka : Option Addr) (off T : Nat → Nat) (tz kz : Nat → Int) (w : World)
    (hG : Gr w gb n (n + 1) nt nk oc tc kc oa ta ka off tz kz) (hF : GF n nt nk off tz T) :
    Calls Try.prog 27 #[.pointer (some ⟨gb, 0, none⟩), .int .u8 m] w (CompOut n off T (kmB kz m) w) := by
  have hmf : ∀ (fn : Fn) (first cap : Array Value) (w : World), (Instr.makeFunc fn first cap).run Try.prog w = .ok (.func fn first cap) w := fun _ _ _ _ => rfl
  have c1 := hG.c1
  have hn : n ≤ 65536 := hF.small
  have lgb : gb < w.heap.size := World.block_lt_of_cell? _ _ c1
  have mk := fun z => run_make_row' (P := Try.prog) 22 21 (.int .i32 0) 4 Try.underlying22 Try.info21 rfl .i64 .i64 n (by omega) (by omega) z
  have mkb := fun z => run_make_row' (P := Try.prog) 35 4 (.bool false) 1 Try.underlying35 Try.info4 rfl .i64 .i64 n (by omega) (by omega) z
  have HG := hid hG
  have HF := hid hF
  have HT := hid (TS.start w gb n)
  clear hG hF
  have d0 : ¬ gb = w.heap.size := by omega
  have f0 : gb < w.heap.size + 1 := by omega
  have d1 : ¬ gb = w.heap.size + 1 := by omega
  have f1 : gb < w.heap.size + 1 + 1 := by omega
  have d2 : ¬ gb = w.heap.size + 1 + 1 := by omega
  have f2 : gb < w.heap.size + 1 + 1 + 1 := by omega
  have d3 : ¬ gb = w.heap.size + 1 + 1 + 1 := by omega
  have f3 : gb < w.heap.size + 1 + 1 + 1 + 1 := by omega
  have d4 : ¬ gb = w.heap.size + 1 + 1 + 1 + 1 := by omega
  have f4 : gb < w.heap.size + 1 + 1 + 1 + 1 + 1 := by omega
  have d5 : ¬ gb = w.heap.size + 1 + 1 + 1 + 1 + 1 := by omega
  have f5 : gb < w.heap.size + 1 + 1 + 1 + 1 + 1 + 1 := by omega
  have d6 : ¬ gb = w.heap.size + 1 + 1 + 1 + 1 + 1 + 1 := by omega
  have f6 : gb < w.heap.size + 1 + 1 + 1 + 1 + 1 + 1 + 1 := by omega
  have d7 : ¬ gb = w.heap.size + 1 + 1 + 1 + 1 + 1 + 1 + 1 := by omega
  have f7 : gb < w.heap.size + 1 + 1 + 1 + 1 + 1 + 1 + 1 + 1 := by omega
  have d8 : ¬ gb = w.heap.size + 1 + 1 + 1 + 1 + 1 + 1 + 1 + 1 := by omega
  have f8 : gb < w.heap.size + 1 + 1 + 1 + 1 + 1 + 1 + 1 + 1 + 1 := by omega
  have d9 : ¬ gb = w.heap.size + 1 + 1 + 1 + 1 + 1 + 1 + 1 + 1 + 1 := by omega
  have f9 : gb < w.heap.size + 1 + 1 + 1 + 1 + 1 + 1 + 1 + 1 + 1 + 1 := by omega
  have d10 : ¬ gb = w.heap.size + 1 + 1 + 1 + 1 + 1 + 1 + 1 + 1 + 1 + 1 := by omega
  have f10 : gb < w.heap.size + 1 + 1 + 1 + 1 + 1 + 1 + 1 + 1 + 1 + 1 + 1 := by omega
  have d11 : ¬ gb = w.heap.size + 1 + 1 + 1 + 1 + 1 + 1 + 1 + 1 + 1 + 1 + 1 := by omega
  have f11 : gb < w.heap.size + 1 + 1 + 1 + 1 + 1 + 1 + 1 + 1 + 1 + 1 + 1 + 1 := by omega
  go_enter Try.func27, Try.ntmps27
  go_wp2
  refine r1_loop w.heap.size gb n nt nk oc tc kc m oa ta ka off T tz kz w _ HG.out HF.out rfl n _ _ ⟨0, _, 0, _, _, _, _, _, _, _, _, by omega, by omega, rfl, HT.out, Iv.start off T (kmB kz m) n _⟩ ?_
  rintro a' w' ⟨k2, c2, ord2, low2, comp2, on2, sv2, fv2, S2, r2, hfit, T3, I3⟩
  obtain ⟨g', rfl⟩ : ∃ g', a' = FR w.heap.size gb n m (.int .i32 (c2 : Int)) (.int .i32 (n : Int)) g' := ⟨_, hfit⟩
  have HT3 := hid T3
  have HI3 := hid I3
  clear hfit T3 I3
  unfold FR
  dsimp only
  go_wp2
  go_ret
  refine ⟨w.heap.size + 5, comp2, rfl, HT3.out.bel, by omega, HT3.out.rC, fun x y hx hy => HI3.out.tj.final HF.out.wf (fun x hx => HI3.out.rt x hx) hx hy⟩

end Go.Proofs.Qxb6602859a
