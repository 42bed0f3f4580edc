/-
  The search for components without Go: a step of a frame that need not be the top one; the counts; what holds at each round's head.
-/
import Derived.Test.Qxb6602859aR2
namespace Go.Proofs.Qxb6602859a
set_option linter.unusedVariables false
set_option linter.unusedSimpArgs false

section
variable {n : Nat} {off to : Nat → Nat} {km : Nat → Bool} {ord low comp : Nat → Nat} {on : Nat → Bool} {S : List Nat} {F : List (Nat × Nat)} {r c : Nat}

theorem mem_mid {α : Type} {A B : List α} {a x : α} : x ∈ A ++ a :: B ↔ x ∈ A ∨ x = a ∨ x ∈ B := by simp

theorem Pr_mid {A B : List (Nat × Nat)} {v e x e' : Nat} (h : Pr off (A ++ (v, e + 1) :: B) x e') : Pr off (A ++ (v, e) :: B) x e' ∨ (x = v ∧ e' = e) := by
  obtain ⟨h1, h2, h3⟩ := h
  by_cases hx : x = v ∧ e' = e
  · exact .inr hx
  · refine .inl ⟨h1, h2, fun f hf hfx => ?_⟩
    rcases mem_mid.1 hf with hf | rfl | hf
    · exact h3 f (by simp [hf]) hfx
    · have := h3 (v, e + 1) (by simp) hfx
      simp at this hfx ⊢
      omega
    · exact h3 f (by simp [hf]) hfx

theorem Tj.nextMid {A B : List (Nat × Nat)} {v e : Nat} (h : Tj n off to km ord low comp on S (A ++ (v, e) :: B) r c) (he : e < off (v + 1)) {lo : Nat}
    (hlo : lo ≤ low v) (hw : lo = low v ∨ ∃ z, z ∈ S ∧ ord z = lo ∧ Ed n off to km v z)
    (hk : km e = true → ord (to e) ≠ 0) (hs : km e = true → to e ∈ S → lo ≤ ord (to e)) :
    Tj n off to km ord (up low v lo) comp on S (A ++ (v, e + 1) :: B) r c := by
  have hv := h.fS (v, e) (by simp)
  have hp := List.pairwise_append.1 h.fInc
  have hp2 := List.pairwise_cons.1 hp.2.1
  have ltA : ∀ f, f ∈ A → ord f.1 < ord v := fun f hf => hp.2.2 f hf (v, e) (by simp)
  have ltB : ∀ f, f ∈ B → ord v < ord f.1 := fun f hf => hp2.1 f hf
  have hA : ∀ f, f ∈ A ∨ f ∈ B → f.1 ≠ v := fun f hf q => by
    rcases hf with hf | hf
    · have := ltA f hf; rw [q] at this; omega
    · have := ltB f hf; rw [q] at this; omega
  have hlow : ∀ f, f ∈ A ∨ f ∈ B → up low v lo f.1 = low f.1 := fun f hf => up_ne _ _ (hA f hf)
  have old : ∀ f, f ∈ A ∨ f ∈ B → f ∈ A ++ (v, e) :: B := fun f hf => mem_mid.2 (hf.elim .inl (fun h => .inr (.inr h)))
  have new : ∀ f, f ∈ A ∨ f ∈ B → f ∈ A ++ (v, e + 1) :: B := fun f hf => mem_mid.2 (hf.elim .inl (fun h => .inr (.inr h)))
  have split : ∀ f, f ∈ A ++ (v, e + 1) :: B → (f ∈ A ∨ f ∈ B) ∨ f = (v, e + 1) := fun f hf => by
    rcases mem_mid.1 hf with hf | hf | hf
    · exact .inl (.inl hf)
    · exact .inr hf
    · exact .inl (.inr hf)
  have split' : ∀ f, f ∈ A ++ (v, e) :: B → (f ∈ A ∨ f ∈ B) ∨ f = (v, e) := fun f hf => by
    rcases mem_mid.1 hf with hf | hf | hf
    · exact .inl (.inl hf)
    · exact .inr hf
    · exact .inl (.inr hf)
  refine { sN := h.sN, sOrd := h.sOrd, ordLe := h.ordLe, sInc := h.sInc, on_iff := h.on_iff, sReach := h.sReach, done := h.done, same := h.same, fS := ?_, fInc := ?_, fNext := ?_, sGray := ?_, lowLe := ?_, lowW := ?_, seg := ?_, vis := ?_ }
  · intro f hf
    rcases split f hf with hf | rfl
    · exact h.fS f (old f hf)
    · exact hv
  · refine List.pairwise_append.2 ⟨hp.1, List.pairwise_cons.2 ⟨fun b hb => hp2.1 b hb, hp2.2⟩, fun a ha b hb => ?_⟩
    rcases List.mem_cons.1 hb with rfl | hb
    · exact ltA a ha
    · exact hp.2.2 a ha b (List.mem_cons_of_mem _ hb)
  · intro f hf
    rcases split f hf with hf | rfl
    · exact h.fNext f (old f hf)
    · have := h.fNext (v, e) (by simp)
      simp at this ⊢
      omega
  · intro x hx
    obtain ⟨f, hf, h1, h2⟩ := h.sGray x hx
    rcases split' f hf with hf | rfl
    · exact ⟨f, new f hf, h1, h2⟩
    · exact ⟨(v, e + 1), by simp, h1, h2⟩
  · intro f hf
    rcases split f hf with hf | rfl
    · rw [hlow f hf]; exact h.lowLe f (old f hf)
    · have := h.lowLe (v, e) (by simp)
      simp only [up_same] at this ⊢
      omega
  · intro f hf
    rcases split f hf with hf | rfl
    · rw [hlow f hf]; exact h.lowW f (old f hf)
    · simp only [up_same]
      rcases hw with rfl | ⟨z, hz, h1, h2⟩
      · exact h.lowW (v, e) (by simp)
      · exact ⟨z, hz, h1, Reach.one h2⟩
  · intro f hf x hx h1 h2 e' he' hke hte
    have h2' : ∀ g, g ∈ A ++ (v, e) :: B → ord g.1 ≤ ord x → ord g.1 ≤ ord f.1 := by
      intro g hg hgx
      rcases split' g hg with hg | rfl
      · exact h2 g (new g hg) hgx
      · exact h2 (v, e + 1) (by simp) hgx
    rcases Pr_mid he' with hp' | ⟨rfl, rfl⟩
    · rcases split f hf with hf | rfl
      · rw [hlow f hf]
        exact h.seg f (old f hf) x hx h1 h2' e' hp' hke hte
      · simp only [up_same]
        exact Nat.le_trans hlo (h.seg (v, e) (by simp) x hx h1 h2' e' hp' hke hte)
    · rcases split f hf with hf | rfl
      · have q1 := h2 (x, e' + 1) (by simp) (Nat.le_refl _)
        rcases hf with hf | hf
        · have := ltA f hf; simp at *; omega
        · have := ltB f hf; simp at *; omega
      · simp only [up_same]
        exact hs hke hte
  · intro x hx hox e' he' hke
    rcases Pr_mid he' with hp' | ⟨rfl, rfl⟩
    · exact h.vis x hx hox e' hp' hke
    · exact hk hke

theorem up_id {α : Type} (f : Nat → α) (x : Nat) : up f x (f x) = f := by
  funext y
  by_cases q : y = x
  · subst q; rw [up_same]
  · rw [up_ne _ _ q]

/-- an edge to a node that was not met -/
theorem Tj.visit (hwf : WF n off to) {A : List (Nat × Nat)} {v e : Nat} (h : Tj n off to km ord low comp on S (A ++ [(v, e)]) r c) (hlt : e < off (v + 1)) (hke : km e = true) {w : Nat} (hto : to e = w) (hw0 : ord w = 0) :
    Tj n off to km (up ord w (r + 1)) (up low w (r + 1)) comp (up on w true) (S ++ [w]) ((A ++ [(v, e + 1)]) ++ [(w, off w)]) (r + 1) c := by
  have hv := h.fS (v, e) (by simp)
  have hvn := h.sN v hv
  have hne := (h.fNext (v, e) (by simp)).1
  have hed : Ed n off to km v w := ⟨hvn, e, hne, hlt, hke, hto⟩
  have hwn := (hed.lt hwf).2
  have hvw : v ≠ w := fun q => h.sOrd v hv (by rw [q]; exact hw0)
  have h1 := h.push hwf hwn hw0 (fun x hx => (h.toTop hx).trans (Reach.one hed))
  have h2 : Tj n off to km (up ord w (r + 1)) (up low w (r + 1)) comp (up on w true) (S ++ [w]) (A ++ (v, e) :: [(w, off w)]) (r + 1) c := by simpa using h1
  have hlv := h.lowLe (v, e) (by simp)
  have hov := h.ordLe v hvn
  have h3 := h2.nextMid hlt (lo := up low w (r + 1) v) (Nat.le_refl _) (.inl rfl) (fun _ => by rw [hto, up_same]; omega) (fun _ _ => by
    rw [hto, up_same, up_ne _ _ hvw]; simp only at hlv; omega)
  rw [up_id] at h3
  simpa using h3

/-- the sum of g over the nodes that were not met -/
def sumU (g : Nat → Nat) (ord : Nat → Nat) : Nat → Nat
  | 0 => 0
  | k + 1 => sumU g ord k + (if ord k = 0 then g k else 0)

theorem sumU_up (g ord : Nat → Nat) {w q : Nat} (hw : ord w = 0) (hq : q ≠ 0) : ∀ k, (w < k → sumU g (up ord w q) k + g w = sumU g ord k) ∧ (k ≤ w → sumU g (up ord w q) k = sumU g ord k)
  | 0 => ⟨fun h => by omega, fun _ => rfl⟩
  | k + 1 => by
    obtain ⟨h1, h2⟩ := sumU_up g ord hw hq k
    refine ⟨fun h => ?_, fun h => ?_⟩
    · simp only [sumU]
      by_cases e : k = w
      · subst e
        rw [up_same, if_neg hq, if_pos hw, h2 (Nat.le_refl _)]
        omega
      · rw [up_ne _ _ e]
        have := h1 (by omega)
        omega
    · simp only [sumU]
      rw [up_ne _ _ (by omega), h2 (by omega)]

theorem sumU_one (ord : Nat → Nat) : ∀ k, sumU (fun _ => 1) ord k ≤ k
  | 0 => Nat.le_refl _
  | k + 1 => by have := sumU_one ord k; simp only [sumU]; split <;> omega

def potF (off : Nat → Nat) : List (Nat × Nat) → Nat
  | [] => 0
  | f :: F => (off (f.1 + 1) - f.2 + 1) + potF off F

theorem potF_snoc (off : Nat → Nat) (f : Nat × Nat) : ∀ F, potF off (F ++ [f]) = potF off F + (off (f.1 + 1) - f.2 + 1)
  | [] => by simp [potF]
  | a :: F => by simp only [List.cons_append, potF, potF_snoc off f F]; omega

def deg2 (off : Nat → Nat) (x : Nat) : Nat := off (x + 1) - off x + 2

/-- what holds at a round's head -/
structure Iv (n : Nat) (off to : Nat → Nat) (km : Nat → Bool) (root k : Nat) (ord low comp : Nat → Nat) (on : Nat → Bool) (S : List Nat) (F : List (Nat × Nat)) (r c : Nat) : Prop where
  tj : Tj n off to km ord low comp on S F r c
  cnt : r + sumU (fun _ => 1) ord n = n
  cS : c + S.length ≤ r
  rt : ∀ x, x < root → ord x ≠ 0
  pot : sumU (deg2 off) ord n + potF off F ≤ k

theorem Iv.rLe {root k : Nat} (h : Iv n off to km root k ord low comp on S F r c) : r ≤ n := by have := h.cnt; omega

theorem Iv.lenF {root k : Nat} (h : Iv n off to km root k ord low comp on S F r c) : F.length ≤ n := by
  have h1 := len_le_of_nodup n (F.map Prod.fst) (by
    refine List.pairwise_map.2 (List.Pairwise.imp_of_mem ?_ h.tj.fInc)
    intro a b _ _ hab q
    rw [q] at hab
    exact Nat.lt_irrefl _ hab) (fun x hx => by
    obtain ⟨f, hf, rfl⟩ := List.mem_map.1 hx
    exact h.tj.sN _ (h.tj.fS f hf))
  simpa using h1

theorem Iv.start (off to : Nat → Nat) (km : Nat → Bool) (n : Nat) (comp : Nat → Nat) : Iv n off to km 0 (sumU (deg2 off) (fun _ => 0) n) (fun _ => 0) (fun _ => 0) comp (fun _ => false) [] [] 0 0 := by
  refine ⟨Tj.start n off to km comp, ?_, by simp, fun x hx => by omega, by simp [potF]⟩
  have : ∀ k, sumU (fun _ => 1) (fun _ => 0) k = k := by
    intro k
    induction k with
    | zero => rfl
    | succ k ih => simp [sumU, ih]
  rw [this]; simp

theorem Iv.skip {root k : Nat} {A : List (Nat × Nat)} {v e : Nat} (h : Iv n off to km root k ord low comp on S (A ++ [(v, e)]) r c) (he : e < off (v + 1)) {lo : Nat}
    (hlo : lo ≤ low v) (hw : lo = low v ∨ ∃ z, z ∈ S ∧ ord z = lo ∧ Ed n off to km v z)
    (hk : km e = true → ord (to e) ≠ 0) (hs : km e = true → to e ∈ S → lo ≤ ord (to e)) :
    1 ≤ k ∧ Iv n off to km root (k - 1) ord (up low v lo) comp on S (A ++ [(v, e + 1)]) r c := by
  have hp := h.pot
  rw [potF_snoc] at hp
  simp only at hp
  refine ⟨by omega, h.tj.next he hlo hw hk hs, h.cnt, h.cS, h.rt, ?_⟩
  rw [potF_snoc]
  simp only
  omega

theorem Iv.visit (hwf : WF n off to) {root k : Nat} {A : List (Nat × Nat)} {v e : Nat} (h : Iv n off to km root k ord low comp on S (A ++ [(v, e)]) r c) (hlt : e < off (v + 1)) (hke : km e = true) {w : Nat} (hto : to e = w) (hw0 : ord w = 0) :
    1 ≤ k ∧ Iv n off to km root (k - 1) (up ord w (r + 1)) (up low w (r + 1)) comp (up on w true) (S ++ [w]) ((A ++ [(v, e + 1)]) ++ [(w, off w)]) (r + 1) c := by
  have hp := h.pot
  have hv := h.tj.fS (v, e) (by simp)
  have hvn := h.tj.sN v hv
  have hwn : w < n := by rw [← hto]; exact hwf.tgt v hvn e (h.tj.fNext (v, e) (by simp)).1 hlt
  have s1 := (sumU_up (fun _ => 1) ord hw0 (q := r + 1) (by omega) n).1 hwn
  have s2 := (sumU_up (deg2 off) ord hw0 (q := r + 1) (by omega) n).1 hwn
  have hc := h.cnt
  have hcs := h.cS
  rw [potF_snoc] at hp
  simp only [deg2] at hp s1 s2
  refine ⟨by omega, h.tj.visit hwf hlt hke hto hw0, by omega, by simp; omega, fun x hx => ?_, ?_⟩
  · by_cases q : x = w
    · rw [q, up_same]; omega
    · rw [up_ne _ _ q]; exact h.rt x hx
  · rw [potF_snoc, potF_snoc]
    simp only [deg2]
    omega

/-- a new root -/
theorem Iv.root (hwf : WF n off to) {root k : Nat} (h : Iv n off to km root k ord low comp on S [] r c) (hw : root < n) (hw0 : ord root = 0) :
    Iv n off to km (root + 1) k (up ord root (r + 1)) (up low root (r + 1)) comp (up on root true) [root] [(root, off root)] (r + 1) c := by
  obtain rfl := h.tj.empty
  have hp := h.pot
  have s1 := (sumU_up (fun _ => 1) ord hw0 (q := r + 1) (by omega) n).1 hw
  have s2 := (sumU_up (deg2 off) ord hw0 (q := r + 1) (by omega) n).1 hw
  have hc := h.cnt
  have hcs := h.cS
  have ht := h.tj.push hwf hw hw0 (fun x hx => by simp at hx)
  simp only [potF] at hp
  refine ⟨by simpa using ht, by omega, by simp at hcs ⊢; omega, fun x hx => ?_, ?_⟩
  · by_cases q : x = root
    · rw [q, up_same]; omega
    · rw [up_ne _ _ q]; exact h.rt x (by omega)
  · simp only [potF, deg2] at s2 ⊢
    omega

theorem Iv.popLow {root k : Nat} {B : List (Nat × Nat)} {u eu v : Nat} (h : Iv n off to km root k ord low comp on S ((B ++ [(u, eu)]) ++ [(v, off (v + 1))]) r c) (hne : low v ≠ ord v) :
    1 ≤ k ∧ Iv n off to km root (k - 1) ord (up low u (min (low u) (low v))) comp on S (B ++ [(u, eu)]) r c := by
  have hp := h.pot
  rw [potF_snoc] at hp
  refine ⟨by omega, h.tj.popLow hne, h.cnt, h.cS, h.rt, by omega⟩

theorem Iv.popRoot (hwf : WF n off to) {root k : Nat} {A : List (Nat × Nat)} {v : Nat} {S1 S2 : List Nat} (h : Iv n off to km root k ord low comp on (S1 ++ v :: S2) (A ++ [(v, off (v + 1))]) r c) (heq : low v = ord v)
    {on' : Nat → Bool} {comp' : Nat → Nat} (hon : ∀ x, x < n → (on' x = true ↔ x ∈ S1)) (hc : ∀ x, comp' x = if x ∈ v :: S2 then c else comp x) :
    1 ≤ k ∧ Iv n off to km root (k - 1) ord low comp' on' S1 A r (c + 1) := by
  have hp := h.pot
  have hcs := h.cS
  rw [potF_snoc] at hp
  simp at hcs
  refine ⟨by omega, h.tj.popRoot hwf heq hon hc, h.cnt, by omega, h.rt, by omega⟩

/-- behind a root's pop the frame beneath keeps its low -/
theorem Tj.lowKeeps {A : List (Nat × Nat)} {u eu v e : Nat} (h : Tj n off to km ord low comp on S ((A ++ [(u, eu)]) ++ [(v, e)]) r c) (heq : low v = ord v) : min (low u) (low v) = low u := by
  have h1 := h.lowLe (u, eu) (by simp)
  have h2 := h.top (f := (u, eu)) (by simp)
  simp only at h1 h2
  omega

end
end Go.Proofs.Qxb6602859a
