/-
  Strong components by one depth-first search (Tarjan), told without Go: what holds between the steps, and that each step keeps it.
-/
namespace Go.Proofs.Qxb6602859a
set_option linter.unusedVariables false
set_option linter.unusedSimpArgs false

/-- a walk of k steps -/
def Wk (E : Nat → Nat → Prop) : Nat → Nat → Nat → Prop
  | 0, x, y => x = y
  | k + 1, x, y => ∃ z, Wk E k x z ∧ E z y
def Reach (E : Nat → Nat → Prop) (x y : Nat) : Prop := ∃ k, Wk E k x y

theorem Wk.trans {E : Nat → Nat → Prop} {a : Nat} {x y : Nat} (h : Wk E a x y) : ∀ {b z : Nat}, Wk E b y z → Wk E (a + b) x z
  | 0, z, e => by cases e; exact h
  | b + 1, z, ⟨u, hu, e⟩ => ⟨u, Wk.trans h hu, e⟩
theorem Wk.one {E : Nat → Nat → Prop} {x y : Nat} (h : E x y) : Wk E 1 x y := ⟨x, rfl, h⟩
theorem Reach.refl (E : Nat → Nat → Prop) (x : Nat) : Reach E x x := ⟨0, rfl⟩
theorem Reach.trans {E : Nat → Nat → Prop} {x y z : Nat} (h : Reach E x y) (k : Reach E y z) : Reach E x z := by
  obtain ⟨a, h⟩ := h
  obtain ⟨b, k⟩ := k
  exact ⟨a + b, h.trans k⟩
theorem Reach.one {E : Nat → Nat → Prop} {x y : Nat} (h : E x y) : Reach E x y := ⟨1, Wk.one h⟩

/-- an edge that counts -/
def Ed (n : Nat) (off to : Nat → Nat) (km : Nat → Bool) (x y : Nat) : Prop := x < n ∧ ∃ e, off x ≤ e ∧ e < off (x + 1) ∧ km e = true ∧ to e = y

/-- the graph is well formed -/
structure WF (n : Nat) (off to : Nat → Nat) : Prop where
  mono : ∀ x, x < n → off x ≤ off (x + 1)
  tgt : ∀ x, x < n → ∀ e, off x ≤ e → e < off (x + 1) → to e < n

def up {α : Type} (f : Nat → α) (x : Nat) (a : α) (y : Nat) : α := if y = x then a else f y
theorem up_same {α : Type} (f : Nat → α) (x : Nat) (a : α) : up f x a x = a := by simp [up]
theorem up_ne {α : Type} (f : Nat → α) {x y : Nat} (a : α) (h : y ≠ x) : up f x a y = f y := by simp [up, h]

/-- the edges of x that have been followed -/
def Pr (off : Nat → Nat) (F : List (Nat × Nat)) (x e : Nat) : Prop := off x ≤ e ∧ e < off (x + 1) ∧ ∀ f, f ∈ F → f.1 = x → e < f.2

structure Tj (n : Nat) (off to : Nat → Nat) (km : Nat → Bool) (ord low comp : Nat → Nat) (on : Nat → Bool) (S : List Nat) (F : List (Nat × Nat)) (r c : Nat) : Prop where
  sN : ∀ x, x ∈ S → x < n
  sOrd : ∀ x, x ∈ S → ord x ≠ 0
  ordLe : ∀ x, x < n → ord x ≤ r
  sInc : S.Pairwise (fun a b => ord a < ord b)
  on_iff : ∀ x, x < n → (on x = true ↔ x ∈ S)
  fS : ∀ f, f ∈ F → f.1 ∈ S
  fInc : F.Pairwise (fun a b => ord a.1 < ord b.1)
  fNext : ∀ f, f ∈ F → off f.1 ≤ f.2 ∧ f.2 ≤ off (f.1 + 1)
  sReach : ∀ x, x ∈ S → ∀ y, y ∈ S → ord x ≤ ord y → Reach (Ed n off to km) x y
  sGray : ∀ x, x ∈ S → ∃ f, f ∈ F ∧ ord f.1 ≤ ord x ∧ Reach (Ed n off to km) x f.1
  lowLe : ∀ f, f ∈ F → low f.1 ≤ ord f.1
  lowW : ∀ f, f ∈ F → ∃ z, z ∈ S ∧ ord z = low f.1 ∧ Reach (Ed n off to km) f.1 z
  seg : ∀ f, f ∈ F → ∀ x, x ∈ S → ord f.1 ≤ ord x → (∀ g, g ∈ F → ord g.1 ≤ ord x → ord g.1 ≤ ord f.1) → ∀ e, Pr off F x e → km e = true → to e ∈ S → low f.1 ≤ ord (to e)
  vis : ∀ x, x < n → ord x ≠ 0 → ∀ e, Pr off F x e → km e = true → ord (to e) ≠ 0
  done : ∀ x, x < n → ord x ≠ 0 → x ∉ S → comp x < c ∧ ∀ y, Ed n off to km x y → ord y ≠ 0 ∧ y ∉ S ∧ comp y ≤ comp x
  same : ∀ x, x < n → ord x ≠ 0 → x ∉ S → ∀ y, y < n → ord y ≠ 0 → y ∉ S → comp x = comp y → Reach (Ed n off to km) x y

theorem Tj.start (n : Nat) (off to : Nat → Nat) (km : Nat → Bool) (comp : Nat → Nat) : Tj n off to km (fun _ => 0) (fun _ => 0) comp (fun _ => false) [] [] 0 0 := by
  constructor <;> simp

section
variable {n : Nat} {off to : Nat → Nat} {km : Nat → Bool} {ord low comp : Nat → Nat} {on : Nat → Bool} {S : List Nat} {F : List (Nat × Nat)} {r c : Nat}

theorem Tj.empty (h : Tj n off to km ord low comp on S [] r c) : S = [] := by
  cases S with
  | nil => rfl
  | cons a S =>
    obtain ⟨f, hf, _⟩ := h.sGray a (by simp)
    simp at hf

/-- the top frame has the greatest number of all frames -/
theorem Tj.top {A : List (Nat × Nat)} {v e : Nat} (h : Tj n off to km ord low comp on S (A ++ [(v, e)]) r c) {f : Nat × Nat} (hf : f ∈ A) : ord f.1 < ord v := by
  have := List.pairwise_append.1 h.fInc
  exact this.2.2 f hf (v, e) (by simp)

theorem Tj.topLe {A : List (Nat × Nat)} {v e : Nat} (h : Tj n off to km ord low comp on S (A ++ [(v, e)]) r c) {f : Nat × Nat} (hf : f ∈ A ++ [(v, e)]) : ord f.1 ≤ ord v := by
  rcases List.mem_append.1 hf with hf | hf
  · exact Nat.le_of_lt (h.top hf)
  · simp at hf; subst hf; exact Nat.le_refl _

/-- everything on the stack reaches the top frame -/
theorem Tj.toTop {A : List (Nat × Nat)} {v e : Nat} (h : Tj n off to km ord low comp on S (A ++ [(v, e)]) r c) {x : Nat} (hx : x ∈ S) : Reach (Ed n off to km) x v := by
  obtain ⟨f, hf, _, hr⟩ := h.sGray x hx
  exact hr.trans (h.sReach _ (h.fS f hf) _ (h.fS (v, e) (by simp)) (h.topLe hf))

theorem mem_snoc {α : Type} {A : List α} {a x : α} : x ∈ A ++ [a] ↔ x ∈ A ∨ x = a := by simp

/-- the top frame goes on by an edge; what is 'processed' grows by this edge alone -/
theorem Pr_next {A : List (Nat × Nat)} {v e x e' : Nat} (hA : ∀ f, f ∈ A → f.1 ≠ v) (h : Pr off (A ++ [(v, e + 1)]) x e') : Pr off (A ++ [(v, e)]) x e' ∨ (x = v ∧ e' = e) := by
  obtain ⟨h1, h2, h3⟩ := h
  by_cases hx : x = v ∧ e' = e
  · exact .inr hx
  · refine .inl ⟨h1, h2, fun f hf hfx => ?_⟩
    rcases mem_snoc.1 hf with hf | rfl
    · exact h3 f (by simp [hf]) hfx
    · have := h3 (v, e + 1) (by simp) hfx
      simp at this hfx ⊢
      omega

theorem Tj.aNe {A : List (Nat × Nat)} {v e : Nat} (h : Tj n off to km ord low comp on S (A ++ [(v, e)]) r c) : ∀ f, f ∈ A → f.1 ≠ v := fun f hf e' => by
  have := h.top hf
  rw [e'] at this
  omega

/-- skip: the edge does not count, or leads to a node that is done; or low goes down -/
theorem Tj.next {A : List (Nat × Nat)} {v e : Nat} (h : Tj n off to km ord low comp on S (A ++ [(v, e)]) r c) (he : e < off (v + 1)) {lo : Nat}
    (hlo : lo ≤ low v) (hw : lo = low v ∨ ∃ z, z ∈ S ∧ ord z = lo ∧ Ed n off to km v z)
    (hk : km e = true → ord (to e) ≠ 0) (hs : km e = true → to e ∈ S → lo ≤ ord (to e)) :
    Tj n off to km ord (up low v lo) comp on S (A ++ [(v, e + 1)]) r c := by
  have hv := h.fS (v, e) (by simp)
  have hA := h.aNe
  have hlow : ∀ f, f ∈ A → up low v lo f.1 = low f.1 := fun f hf => up_ne _ _ (hA f hf)
  refine { sN := h.sN, sOrd := h.sOrd, ordLe := h.ordLe, sInc := h.sInc, on_iff := h.on_iff, sReach := h.sReach, done := h.done, same := h.same, fS := ?_, fInc := ?_, fNext := ?_, sGray := ?_, lowLe := ?_, lowW := ?_, seg := ?_, vis := ?_ }
  · intro f hf
    rcases mem_snoc.1 hf with hf | rfl
    · exact h.fS f (by simp [hf])
    · exact hv
  · have := List.pairwise_append.1 h.fInc
    refine List.pairwise_append.2 ⟨this.1, by simp, fun a ha b hb => ?_⟩
    simp at hb
    subst hb
    exact h.top ha
  · intro f hf
    rcases mem_snoc.1 hf with hf | rfl
    · exact h.fNext f (by simp [hf])
    · have := h.fNext (v, e) (by simp)
      simp at this ⊢
      omega
  · intro x hx
    obtain ⟨f, hf, h1, h2⟩ := h.sGray x hx
    rcases mem_snoc.1 hf with hf | rfl
    · exact ⟨f, by simp [hf], h1, h2⟩
    · exact ⟨(v, e + 1), by simp, h1, h2⟩
  · intro f hf
    rcases mem_snoc.1 hf with hf | rfl
    · rw [hlow f hf]; exact h.lowLe f (by simp [hf])
    · have := h.lowLe (v, e) (by simp)
      simp only [up_same] at this ⊢
      omega
  · intro f hf
    rcases mem_snoc.1 hf with hf | rfl
    · rw [hlow f hf]; exact h.lowW f (by simp [hf])
    · simp only [up_same]
      rcases hw with rfl | ⟨z, hz, h1, h2⟩
      · exact h.lowW (v, e) (by simp)
      · exact ⟨z, hz, h1, Reach.one h2⟩
  · intro f hf x hx h1 h2 e' he' hke hte
    have h2' : ∀ g, g ∈ A ++ [(v, e)] → ord g.1 ≤ ord x → ord g.1 ≤ ord f.1 := by
      intro g hg hgx
      rcases mem_snoc.1 hg with hg | rfl
      · exact h2 g (by simp [hg]) hgx
      · exact h2 (v, e + 1) (by simp) hgx
    rcases Pr_next hA he' with hp | ⟨rfl, rfl⟩
    · rcases mem_snoc.1 hf with hf | rfl
      · rw [hlow f hf]
        exact h.seg f (by simp [hf]) x hx h1 h2' e' hp hke hte
      · simp only [up_same]
        exact Nat.le_trans hlo (h.seg (v, e) (by simp) x hx h1 h2' e' hp hke hte)
    · rcases mem_snoc.1 hf with hf | rfl
      · have := h2 (x, e' + 1) (by simp) (Nat.le_refl _)
        have := h.top hf
        simp at *
        omega
      · simp only [up_same]
        exact hs hke hte
  · intro x hx hox e' he' hke
    rcases Pr_next hA he' with hp | ⟨rfl, rfl⟩
    · exact h.vis x hx hox e' hp hke
    · exact hk hke

/-- a node that was not met is put on the stack and on the frames -/
theorem Tj.push (hwf : WF n off to) (h : Tj n off to km ord low comp on S F r c) {w : Nat} (hw : w < n) (hw0 : ord w = 0)
    (hto : ∀ x, x ∈ S → Reach (Ed n off to km) x w) :
    Tj n off to km (up ord w (r + 1)) (up low w (r + 1)) comp (up on w true) (S ++ [w]) (F ++ [(w, off w)]) (r + 1) c := by
  have hwS : w ∉ S := fun e => h.sOrd w e hw0
  have ne : ∀ x, x ∈ S → x ≠ w := fun x hx e => hwS (e ▸ hx)
  have oS : ∀ x, x ∈ S → up ord w (r + 1) x = ord x := fun x hx => up_ne _ _ (ne x hx)
  have leS : ∀ x, x ∈ S → ord x ≤ r := fun x hx => h.ordLe x (h.sN x hx)
  have oF : ∀ f, f ∈ F → up ord w (r + 1) f.1 = ord f.1 := fun f hf => oS _ (h.fS f hf)
  have lF : ∀ f, f ∈ F → up low w (r + 1) f.1 = low f.1 := fun f hf => up_ne _ _ (ne _ (h.fS f hf))
  have wF : ∀ f, f ∈ F → f.1 ≠ w := fun f hf => ne _ (h.fS f hf)
  have pS : ∀ x e, x ≠ w → Pr off (F ++ [(w, off w)]) x e → Pr off F x e := fun x e hx ⟨h1, h2, h3⟩ => ⟨h1, h2, fun f hf => h3 f (by simp [hf])⟩
  have pw : ∀ e, ¬ Pr off (F ++ [(w, off w)]) w e := fun e ⟨h1, h2, h3⟩ => by
    have := h3 (w, off w) (by simp) rfl
    simp at this
    omega
  refine { sN := ?_, sOrd := ?_, ordLe := ?_, sInc := ?_, on_iff := ?_, sReach := ?_, done := ?_, same := ?_, fS := ?_, fInc := ?_, fNext := ?_, sGray := ?_, lowLe := ?_, lowW := ?_, seg := ?_, vis := ?_ }
  · intro x hx
    rcases mem_snoc.1 hx with hx | rfl
    · exact h.sN x hx
    · exact hw
  · intro x hx
    rcases mem_snoc.1 hx with hx | rfl
    · rw [oS x hx]; exact h.sOrd x hx
    · rw [up_same]; omega
  · intro x hx
    by_cases e : x = w
    · subst e; rw [up_same]; omega
    · rw [up_ne _ _ e]; have := h.ordLe x hx; omega
  · refine List.pairwise_append.2 ⟨?_, by simp, ?_⟩
    · refine List.Pairwise.imp_of_mem ?_ h.sInc
      intro a b ha hb hab
      rw [oS a ha, oS b hb]; exact hab
    · intro a ha b hb
      simp at hb
      subst hb
      rw [oS a ha, up_same]
      have := leS a ha
      omega
  · intro x hx
    by_cases e : x = w
    · subst e; simp [up_same]
    · rw [up_ne _ _ e, h.on_iff x hx]; simp [e]
  · intro f hf
    rcases mem_snoc.1 hf with hf | rfl
    · simp [h.fS f hf]
    · simp
  · refine List.pairwise_append.2 ⟨?_, by simp, ?_⟩
    · refine List.Pairwise.imp_of_mem ?_ h.fInc
      intro a b ha hb hab
      rw [oF a ha, oF b hb]; exact hab
    · intro a ha b hb
      simp at hb
      subst hb
      rw [oF a ha, up_same]
      have := leS _ (h.fS a ha)
      omega
  · intro f hf
    rcases mem_snoc.1 hf with hf | rfl
    · exact h.fNext f hf
    · exact ⟨Nat.le_refl _, hwf.mono w hw⟩
  · intro x hx y hy hxy
    rcases mem_snoc.1 hx with hx1 | ex
    · rcases mem_snoc.1 hy with hy1 | ey
      · rw [oS x hx1, oS y hy1] at hxy
        exact h.sReach x hx1 y hy1 hxy
      · rw [ey]; exact hto x hx1
    · rcases mem_snoc.1 hy with hy1 | ey
      · rw [ex, oS y hy1, up_same] at hxy
        have := leS y hy1
        omega
      · rw [ex, ey]; exact Reach.refl _ _
  · intro x hx
    rcases mem_snoc.1 hx with hx | rfl
    · obtain ⟨f, hf, h1, h2⟩ := h.sGray x hx
      exact ⟨f, by simp [hf], by rw [oF f hf, oS x hx]; exact h1, h2⟩
    · exact ⟨(x, off x), by simp, Nat.le_refl _, Reach.refl _ _⟩
  · intro f hf
    rcases mem_snoc.1 hf with hf | rfl
    · rw [lF f hf, oF f hf]; exact h.lowLe f hf
    · simp [up_same]
  · intro f hf
    rcases mem_snoc.1 hf with hf | rfl
    · obtain ⟨z, hz, h1, h2⟩ := h.lowW f hf
      exact ⟨z, by simp [hz], by rw [oS z hz, lF f hf]; exact h1, h2⟩
    · exact ⟨w, by simp, by simp [up_same], Reach.refl _ _⟩
  · intro f hf x hx h1 h2 e he hke hte
    rcases mem_snoc.1 hx with hx | rfl
    · have hp := pS x e (ne x hx) he
      rcases mem_snoc.1 hf with hf | rfl
      · rw [oF f hf, oS x hx] at h1
        rw [lF f hf]
        have key : to e ∈ S → low f.1 ≤ ord (to e) := fun ht => h.seg f hf x hx h1 (fun g hg hgx => by
          have := h2 g (by simp [hg]) (by rw [oF g hg, oS x hx]; exact hgx)
          rwa [oF g hg, oF f hf] at this) e hp hke ht
        rcases mem_snoc.1 hte with ht | ht
        · rw [oS _ ht]; exact key ht
        · rw [ht, up_same]
          have := h.lowLe f hf
          have := leS _ (h.fS f hf)
          omega
      · rw [oS x hx, up_same] at h1
        have := leS x hx
        omega
    · exact absurd he (pw e)
  · intro x hx hox e he hke
    by_cases ex : x = w
    · subst ex; exact absurd he (pw e)
    · rw [up_ne _ _ ex] at hox
      have := h.vis x hx hox e (pS x e ex he) hke
      by_cases et : to e = w
      · rw [et, up_same]; omega
      · rw [up_ne _ _ et]; exact this
  · intro x hx hox hxS
    have ex : x ≠ w := fun e => hxS (by simp [e])
    rw [up_ne _ _ ex] at hox
    obtain ⟨h1, h2⟩ := h.done x hx hox (fun e => hxS (by simp [e]))
    refine ⟨h1, fun y hy => ?_⟩
    obtain ⟨h3, h4, h5⟩ := h2 y hy
    have ey : y ≠ w := fun e => h3 (e ▸ hw0)
    exact ⟨by rw [up_ne _ _ ey]; exact h3, by simp [h4, ey], h5⟩
  · intro x hx hox hxS y hy hoy hyS hc
    have ex : x ≠ w := fun e => hxS (by simp [e])
    have ey : y ≠ w := fun e => hyS (by simp [e])
    rw [up_ne _ _ ex] at hox
    rw [up_ne _ _ ey] at hoy
    exact h.same x hx hox (fun e => hxS (by simp [e])) y hy hoy (fun e => hyS (by simp [e])) hc

/-- what counts as followed does not turn when a frame that is through goes -/
theorem Pr_pop {A : List (Nat × Nat)} {v x e' : Nat} (h : Pr off A x e') : Pr off (A ++ [(v, off (v + 1))]) x e' := by
  obtain ⟨h1, h2, h3⟩ := h
  refine ⟨h1, h2, fun f hf hx => ?_⟩
  rcases mem_snoc.1 hf with hf | rfl
  · exact h3 f hf hx
  · simp at hx ⊢; subst hx; exact h2

/-- the top frame is through and reaches below itself: its low goes to the frame beneath -/
theorem Tj.popLow {B : List (Nat × Nat)} {u eu v : Nat} (h : Tj n off to km ord low comp on S ((B ++ [(u, eu)]) ++ [(v, off (v + 1))]) r c) (hne : low v ≠ ord v) :
    Tj n off to km ord (up low u (min (low u) (low v))) comp on S (B ++ [(u, eu)]) r c := by
  have hv := h.fS (v, off (v + 1)) (by simp)
  have hu := h.fS (u, eu) (by simp)
  have huv : ord u < ord v := h.top (f := (u, eu)) (by simp)
  have hlv := h.lowLe (v, off (v + 1)) (by simp)
  have hA : ∀ f, f ∈ B → f.1 ≠ u := fun f hf e => by
    have := (List.pairwise_append.1 (List.pairwise_append.1 h.fInc).1).2.2 f hf (u, eu) (by simp)
    simp [e] at this
  have hBu : ∀ f, f ∈ B → ord f.1 < ord u := fun f hf => (List.pairwise_append.1 (List.pairwise_append.1 h.fInc).1).2.2 f hf (u, eu) (by simp)
  have hlow : ∀ f, f ∈ B → up low u (min (low u) (low v)) f.1 = low f.1 := fun f hf => up_ne _ _ (hA f hf)
  obtain ⟨z, hz, hz1, hz2⟩ := h.lowW (v, off (v + 1)) (by simp)
  have ruv : Reach (Ed n off to km) u v := h.sReach u hu v hv (Nat.le_of_lt huv)
  simp only at hz1 hz2 hlv huv
  refine { sN := h.sN, sOrd := h.sOrd, ordLe := h.ordLe, sInc := h.sInc, on_iff := h.on_iff, sReach := h.sReach, done := h.done, same := h.same, fS := ?_, fInc := ?_, fNext := ?_, sGray := ?_, lowLe := ?_, lowW := ?_, seg := ?_, vis := ?_ }
  · exact fun f hf => h.fS f (List.mem_append_left _ hf)
  · exact (List.pairwise_append.1 h.fInc).1
  · exact fun f hf => h.fNext f (List.mem_append_left _ hf)
  · intro x hx
    obtain ⟨f, hf, h1, h2⟩ := h.sGray x hx
    rcases mem_snoc.1 hf with hf | rfl
    · exact ⟨f, hf, h1, h2⟩
    · obtain ⟨g, hg, h3, h4⟩ := h.sGray z hz
      simp only at h1 h2
      rcases mem_snoc.1 hg with hg | rfl
      · exact ⟨g, hg, by omega, h2.trans (hz2.trans h4)⟩
      · simp only at h3; omega
  · intro f hf
    rcases mem_snoc.1 hf with hf | rfl
    · rw [hlow f hf]; exact h.lowLe f (by simp [hf])
    · have := h.lowLe (u, eu) (by simp)
      simp only [up_same] at this ⊢
      omega
  · intro f hf
    rcases mem_snoc.1 hf with hf | rfl
    · rw [hlow f hf]; exact h.lowW f (by simp [hf])
    · simp only [up_same]
      rcases Nat.le_total (low u) (low v) with hm | hm
      · rw [Nat.min_eq_left hm]; exact h.lowW (u, eu) (by simp)
      · rw [Nat.min_eq_right hm]; exact ⟨z, hz, hz1, ruv.trans hz2⟩
  · intro f hf x hx h1 h2 e he hke hte
    have hp := Pr_pop (v := v) he
    by_cases hxv : ord v ≤ ord x
    · have hs := h.seg (v, off (v + 1)) (by simp) x hx hxv (fun g hg hgx => h.topLe hg) e hp hke hte
      simp only at hs
      rcases mem_snoc.1 hf with hf | rfl
      · have := h2 (u, eu) (by simp) (by simp only; omega)
        have := hBu f hf
        simp only at *
        omega
      · simp only [up_same]; omega
    · have hs := h.seg f (List.mem_append_left _ hf) x hx h1 (fun g hg hgx => by
        rcases mem_snoc.1 hg with hg | rfl
        · exact h2 g hg hgx
        · simp only at hgx; omega) e hp hke hte
      rcases mem_snoc.1 hf with hf | rfl
      · rw [hlow f hf]; exact hs
      · simp only [up_same] at hs ⊢; omega
  · intro x hx hox e he hke
    exact h.vis x hx hox e (Pr_pop (v := v) he) hke

/-- a frame that reaches below itself is not the only one -/
theorem Tj.popNe {A : List (Nat × Nat)} {v e : Nat} (h : Tj n off to km ord low comp on S (A ++ [(v, e)]) r c) (hne : low v ≠ ord v) : A ≠ [] := by
  rintro rfl
  obtain ⟨z, hz, hz1, hz2⟩ := h.lowW (v, e) (by simp)
  obtain ⟨g, hg, h3, h4⟩ := h.sGray z hz
  have hlv := h.lowLe (v, e) (by simp)
  simp at hg
  subst hg
  simp only at *
  omega

/-- the top frame is through and is the root of a component: all from it on leave the stack -/
theorem Tj.popRoot (hwf : WF n off to) {A : List (Nat × Nat)} {v : Nat} {S1 S2 : List Nat} (h : Tj n off to km ord low comp on (S1 ++ v :: S2) (A ++ [(v, off (v + 1))]) r c) (heq : low v = ord v)
    {on' : Nat → Bool} {comp' : Nat → Nat} (hon : ∀ x, x < n → (on' x = true ↔ x ∈ S1)) (hc : ∀ x, comp' x = if x ∈ v :: S2 then c else comp x) :
    Tj n off to km ord low comp' on' S1 A r (c + 1) := by
  have hv := h.fS (v, off (v + 1)) (by simp)
  have hp := List.pairwise_append.1 h.sInc
  have lt1 : ∀ x, x ∈ S1 → ord x < ord v := fun x hx => hp.2.2 x hx v (by simp)
  have ge2 : ∀ x, x ∈ v :: S2 → ord v ≤ ord x := by
    intro x hx
    rcases List.mem_cons.1 hx with rfl | hx
    · exact Nat.le_refl _
    · exact Nat.le_of_lt ((List.pairwise_cons.1 hp.2.1).1 x hx)
  have in1 : ∀ x, x ∈ S1 ++ v :: S2 → ord x < ord v → x ∈ S1 := fun x hx hlt => by
    rcases List.mem_append.1 hx with hx | hx
    · exact hx
    · have := ge2 x hx; omega
  have inP : ∀ x, x ∈ v :: S2 → x ∈ S1 ++ v :: S2 := fun x hx => List.mem_append_right _ hx
  have in1' : ∀ x, x ∈ S1 → x ∈ S1 ++ v :: S2 := fun x hx => List.mem_append_left _ hx
  have fA : ∀ f, f ∈ A → f.1 ∈ S1 := fun f hf => in1 _ (h.fS f (List.mem_append_left _ hf)) (h.top hf)
  have hvn := h.sN v hv
  -- what is popped leads only to what is done or popped
  have closed : ∀ x, x ∈ v :: S2 → ∀ y, Ed n off to km x y → ord y ≠ 0 ∧ (y ∈ S1 ++ v :: S2 → y ∈ v :: S2) := by
    rintro x hx y ⟨hxn, e, h1, h2, hke, rfl⟩
    have hpr : Pr off (A ++ [(v, off (v + 1))]) x e := by
      refine ⟨h1, h2, fun f hf hfx => ?_⟩
      rcases mem_snoc.1 hf with hf | rfl
      · have := lt1 _ (fA f hf); have := ge2 x hx; rw [hfx] at *; omega
      · simp at hfx ⊢; subst hfx; exact h2
    refine ⟨h.vis x hxn (h.sOrd x (inP x hx)) e hpr hke, fun hy => ?_⟩
    have hs := h.seg (v, off (v + 1)) (by simp) x (inP x hx) (ge2 x hx) (fun g hg _ => h.topLe hg) e hpr hke hy
    simp only at hs
    rcases List.mem_append.1 hy with hy1 | hy1
    · have := lt1 _ hy1; omega
    · exact hy1
  have popped : ∀ x, x < n → ord x ≠ 0 → x ∉ S1 → x ∈ v :: S2 ∨ x ∉ S1 ++ v :: S2 := fun x _ _ hx => by
    by_cases hm : x ∈ v :: S2
    · exact .inl hm
    · exact .inr (fun e => (List.mem_append.1 e).elim hx hm)
  have not2 : ∀ x, x ∈ S1 → x ∉ v :: S2 := fun x hx e => by have := lt1 x hx; have := ge2 x e; omega
  refine { sN := fun x hx => h.sN x (in1' x hx), sOrd := fun x hx => h.sOrd x (in1' x hx), ordLe := h.ordLe, sInc := hp.1, on_iff := hon, sReach := fun x hx y hy => h.sReach x (in1' x hx) y (in1' y hy), done := ?_, same := ?_, fS := fA, fInc := (List.pairwise_append.1 h.fInc).1, fNext := fun f hf => h.fNext f (List.mem_append_left _ hf), sGray := ?_, lowLe := fun f hf => h.lowLe f (List.mem_append_left _ hf), lowW := ?_, seg := ?_, vis := ?_ }
  · intro x hx
    obtain ⟨f, hf, h1, h2⟩ := h.sGray x (in1' x hx)
    rcases mem_snoc.1 hf with hf | rfl
    · exact ⟨f, hf, h1, h2⟩
    · have := lt1 x hx; simp only at h1; omega
  · intro f hf
    obtain ⟨z, hz, h1, h2⟩ := h.lowW f (List.mem_append_left _ hf)
    have := h.lowLe f (List.mem_append_left _ hf)
    have := h.top hf
    exact ⟨z, in1 z hz (by omega), h1, h2⟩
  · intro f hf x hx h1 h2 e he hke hte
    refine h.seg f (List.mem_append_left _ hf) x (in1' x hx) h1 (fun g hg hgx => ?_) e (Pr_pop he) hke (in1' _ hte)
    rcases mem_snoc.1 hg with hg | rfl
    · exact h2 g hg hgx
    · have := lt1 x hx; simp only at hgx; omega
  · intro x hx hox e he hke
    exact h.vis x hx hox e (Pr_pop he) hke
  · intro x hx hox hxS
    rcases popped x hx hox hxS with hm | hm
    · rw [hc x, if_pos hm]
      refine ⟨by omega, fun y hy => ?_⟩
      obtain ⟨h1, h2⟩ := closed x hm y hy
      by_cases hyS : y ∈ S1 ++ v :: S2
      · have h3 := h2 hyS
        exact ⟨h1, fun e => not2 y e h3, by rw [hc y, if_pos h3]; exact Nat.le_refl _⟩
      · have hyn : y < n := by
          refine Classical.byContradiction fun hyn => ?_
          obtain ⟨hxn, e, a1, a2, a3, rfl⟩ := hy
          exact hyn (hwf.tgt x hxn e a1 a2)
        have := h.done y hyn h1 hyS
        refine ⟨h1, fun e => hyS (in1' y e), ?_⟩
        rw [hc y, if_neg (fun e => hyS (inP y e))]
        omega
    · obtain ⟨h1, h2⟩ := h.done x hx hox hm
      rw [hc x, if_neg (fun e => hm (inP x e))]
      refine ⟨by omega, fun y hy => ?_⟩
      obtain ⟨h3, h4, h5⟩ := h2 y hy
      refine ⟨h3, fun e => h4 (in1' y e), ?_⟩
      rw [hc y, if_neg (fun e => h4 (inP y e))]
      exact h5
  · intro x hx hox hxS y hy hoy hyS hxy
    rw [hc x, hc y] at hxy
    rcases popped x hx hox hxS with hm | hm
    · rcases popped y hy hoy hyS with hm' | hm'
      · exact (h.toTop (inP x hm)).trans (h.sReach v hv y (inP y hm') (ge2 y hm'))
      · rw [if_pos hm, if_neg (fun e => hm' (inP y e))] at hxy
        have := (h.done y hy hoy hm').1
        omega
    · rcases popped y hy hoy hyS with hm' | hm'
      · rw [if_pos hm', if_neg (fun e => hm (inP x e))] at hxy
        have := (h.done x hx hox hm).1
        omega
      · rw [if_neg (fun e => hm (inP x e)), if_neg (fun e => hm' (inP y e))] at hxy
        exact h.same x hx hox hm y hy hoy hm' hxy

theorem Ed.lt (hwf : WF n off to) {x y : Nat} (h : Ed n off to km x y) : x < n ∧ y < n := by
  obtain ⟨hx, e, h1, h2, _, rfl⟩ := h
  exact ⟨hx, hwf.tgt x hx e h1 h2⟩

/-- at the end: one component is one set of nodes that reach one another -/
theorem Tj.final (hwf : WF n off to) (h : Tj n off to km ord low comp on S [] r c) (hall : ∀ x, x < n → ord x ≠ 0) {x y : Nat} (hx : x < n) (hy : y < n) :
    comp x = comp y ↔ Reach (Ed n off to km) x y ∧ Reach (Ed n off to km) y x := by
  obtain rfl := h.empty
  have down : ∀ k a b, a < n → Wk (Ed n off to km) k a b → b < n ∧ comp b ≤ comp a := by
    intro k
    induction k with
    | zero => rintro a b ha rfl; exact ⟨ha, Nat.le_refl _⟩
    | succ k ih =>
      rintro a b ha ⟨z, hz, he⟩
      obtain ⟨h1, h2⟩ := ih a z ha hz
      have h3 := ((h.done z h1 (hall z h1) (by simp)).2 b he).2.2
      exact ⟨(he.lt hwf).2, by omega⟩
  constructor
  · intro e
    exact ⟨h.same x hx (hall x hx) (by simp) y hy (hall y hy) (by simp) e, h.same y hy (hall y hy) (by simp) x hx (hall x hx) (by simp) e.symm⟩
  · rintro ⟨⟨a, h1⟩, ⟨b, h2⟩⟩
    have := (down a x y hx h1).2
    have := (down b y x hy h2).2
    omega

end
end Go.Proofs.Qxb6602859a
