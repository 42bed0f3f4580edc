import Derived.Test.Qxb6602859aQ8
namespace Go.Proofs.Qxb6602859a
open Go.RowKit Kit
set_option linter.unusedVariables false

/-- an edge between slots -/
def Ed (C : Nat → Bool) (r : Nat → Nat) (n nr N : Nat) (bo ot : List Nat) (a b : Nat) : Prop := ∃ u v, PrSpec r nr bo ot N u v ∧ good C n u v ∧ slotN n u = a ∧ slotN n v = b

theorem slotN_lt {n u : Nat} (h : u < n) : slotN n u = u := if_pos h
theorem slotN_ge {n u : Nat} (h : n ≤ u) : slotN n u = n := if_neg (by omega)

theorem tg_first {α : Type} {E : α → α → Prop} {x y : α} (h : Relation.TransGen E x y) : ∃ b, E x b := by
  induction h with
  | single h => exact ⟨_, h⟩
  | tail _ _ ih => exact ih

theorem tg_last {α : Type} {E : α → α → Prop} {x y : α} (h : Relation.TransGen E x y) : ∃ b, E b y := by
  cases h with
  | single h => exact ⟨_, h⟩
  | tail _ h => exact ⟨_, h⟩

theorem tg_trans {α : Type} {E : α → α → Prop} {x y z : α} (h : Relation.TransGen E x y) (k : Relation.TransGen E y z) : Relation.TransGen E x z := by
  induction k with
  | single k => exact .tail h k
  | tail _ k ih => exact .tail ih k

section
variable {C : Nat → Bool} {r a : Nat → Nat} {n nr na N : Nat}

theorem bo_mem (hr : ∀ i, i < nr → r i < n) (ha : ∀ i, i < na → a i < n) {x : Nat} (h : x ∈ pick true r nr a na) : x < n ∧ memI r nr (x : Int) = true ∧ memI a na (x : Int) = true := by
  obtain ⟨⟨i, hi, rfl⟩, h2⟩ := pick_mem.1 h
  exact ⟨ha i hi, h2, (memI_iff a _ na).2 ⟨i, hi, rfl⟩⟩

theorem ot_mem (ha : ∀ i, i < na → a i < n) {x : Nat} (h : x ∈ oth r nr a na) : x < n ∧ memI r nr (x : Int) = false ∧ memI a na (x : Int) = true ∧ 0 < nr := by
  unfold oth at h
  split at h
  · cases h
  · obtain ⟨⟨i, hi, rfl⟩, h2⟩ := pick_mem.1 h
    exact ⟨ha i hi, h2, (memI_iff a _ na).2 ⟨i, hi, rfl⟩, by omega⟩

/-- where a new edge may end -/
theorem pr_ends (hr : ∀ i, i < nr → r i < n) (ha : ∀ i, i < na → a i < n) (hn : n ≤ N) {u v : Nat} (h : PrSpec r nr (pick true r nr a na) (oth r nr a na) N u v) :
    ((u < n ∧ memI r nr (u : Int) = true) ∨ (u = N ∧ oth r nr a na ≠ [])) ∧ ((v < n ∧ memI a na (v : Int) = true) ∨ (v = N ∧ oth r nr a na ≠ [])) := by
  have hb : ∀ i, i < (pick true r nr a na).length → (pick true r nr a na).getD i 0 ∈ pick true r nr a na := fun i hi => getD_mem hi
  rcases h with ⟨h1, h2⟩ | ⟨i, hi, h1, h2⟩ | ⟨i, hi, ⟨h0, h1, h2⟩ | ⟨h0, h3, h1, h2⟩⟩
  · have := ot_mem ha h2
    exact ⟨.inr ⟨h1, fun e => by rw [e] at h2; cases h2⟩, .inl ⟨this.1, this.2.2.1⟩⟩
  · have m1 := bo_mem hr ha (hb i hi)
    have m2 := bo_mem hr ha (hb ((i + 1) % (pick true r nr a na).length) (Nat.mod_lt _ (by omega)))
    rw [← h1] at m1
    rw [← h2] at m2
    exact ⟨.inl ⟨m1.1, m1.2.1⟩, .inl ⟨m2.1, m2.2.2⟩⟩
  · exact ⟨.inl ⟨by rw [h1]; exact hr i hi, by rw [h1]; exact (memI_iff r _ nr).2 ⟨i, hi, rfl⟩⟩, .inr ⟨h2, h0⟩⟩
  · have m2 := bo_mem hr ha (hb 0 (List.length_pos_iff.2 h3))
    rw [← h2] at m2
    exact ⟨.inl ⟨by rw [h1]; exact hr i hi, by rw [h1]; exact (memI_iff r _ nr).2 ⟨i, hi, rfl⟩⟩, .inl ⟨m2.1, m2.2.2⟩⟩

/-- along the ring -/
theorem ring (hr : ∀ i, i < nr → r i < n) (ha : ∀ i, i < na → a i < n) (hboth : ∀ x, x < n → memI r nr (x : Int) = true → memI a na (x : Int) = true → C x = true) (i : Nat) (hi : i < (pick true r nr a na).length) : ∀ k,
    (pick true r nr a na).getD i 0 = (pick true r nr a na).getD ((i + k) % (pick true r nr a na).length) 0 ∨
    Relation.TransGen (Ed C r n nr N (pick true r nr a na) (oth r nr a na)) ((pick true r nr a na).getD i 0) ((pick true r nr a na).getD ((i + k) % (pick true r nr a na).length) 0)
  | 0 => .inl (by rw [Nat.add_zero, Nat.mod_eq_of_lt hi])
  | k + 1 => by
    have ih := ring hr ha hboth i hi k
    have hlp : 0 < (pick true r nr a na).length := by omega
    have hj : (i + k) % (pick true r nr a na).length < (pick true r nr a na).length := Nat.mod_lt _ hlp
    have hj' : (i + (k + 1)) % (pick true r nr a na).length < (pick true r nr a na).length := Nat.mod_lt _ hlp
    have e : (i + (k + 1)) % (pick true r nr a na).length = ((i + k) % (pick true r nr a na).length + 1) % (pick true r nr a na).length := by
      rw [Nat.mod_add_mod]; congr 1
    have m1 := bo_mem hr ha (getD_mem hj)
    have m2 := bo_mem hr ha (getD_mem hj')
    by_cases hs : (pick true r nr a na).getD ((i + k) % (pick true r nr a na).length) 0 = (pick true r nr a na).getD ((i + (k + 1)) % (pick true r nr a na).length) 0
    · rw [← hs]; exact ih
    · have st : Ed C r n nr N (pick true r nr a na) (oth r nr a na) ((pick true r nr a na).getD ((i + k) % (pick true r nr a na).length) 0) ((pick true r nr a na).getD ((i + (k + 1)) % (pick true r nr a na).length) 0) :=
        ⟨_, _, .inr (.inl ⟨_, hj, rfl, by rw [e]⟩), ⟨hs, fun _ => hboth _ m1.1 m1.2.1 m1.2.2, fun _ => hboth _ m2.1 m2.2.1 m2.2.2⟩, slotN_lt m1.1, slotN_lt m2.1⟩
      rcases ih with ih | ih
      · exact .inr (.single (by rw [ih]; exact st))
      · exact .inr (.tail ih st)

theorem ring_to (hr : ∀ i, i < nr → r i < n) (ha : ∀ i, i < na → a i < n) (hboth : ∀ x, x < n → memI r nr (x : Int) = true → memI a na (x : Int) = true → C x = true) {x y : Nat} (hx : x ∈ pick true r nr a na) (hy : y ∈ pick true r nr a na) :
    x = y ∨ Relation.TransGen (Ed C r n nr N (pick true r nr a na) (oth r nr a na)) x y := by
  obtain ⟨i, hi, rfl⟩ := List.getElem_of_mem hx
  obtain ⟨j, hj, rfl⟩ := List.getElem_of_mem hy
  have h := ring (N := N) hr ha hboth i hi (j + ((pick true r nr a na).length - i))
  have e : (i + (j + ((pick true r nr a na).length - i))) % (pick true r nr a na).length = j := by
    rw [show i + (j + ((pick true r nr a na).length - i)) = j + (pick true r nr a na).length by omega, Nat.add_mod_right, Nat.mod_eq_of_lt hj]
  rw [e] at h
  have gi : (pick true r nr a na).getD i 0 = (pick true r nr a na)[i] := by rw [List.getD_eq_getElem?_getD, List.getElem?_eq_getElem hi]; rfl
  have gj : (pick true r nr a na).getD j 0 = (pick true r nr a na)[j] := by rw [List.getD_eq_getElem?_getD, List.getElem?_eq_getElem hj]; rfl
  rw [gi, gj] at h
  exact h

theorem plain_law (hr : ∀ i, i < nr → r i < n) (ha : ∀ i, i < na → a i < n) (hn : n ≤ N) (hboth : ∀ x, x < n → memI r nr (x : Int) = true → memI a na (x : Int) = true → C x = true) {x y : Nat} (hx : x < n) (hy : y < n) (hne : y ≠ x) :
    Relation.TransGen (Ed C r n nr N (pick true r nr a na) (oth r nr a na)) x y ↔ (memI r nr (x : Int) && memI a na (y : Int) && C x && C y) = true := by
  constructor
  · intro h
    obtain ⟨b, u, v, hp, hg, e1, e2⟩ := tg_first h
    obtain ⟨b', u', v', hp', hg', e1', e2'⟩ := tg_last h
    have hu : u = x := by
      rcases Nat.lt_or_ge u n with h1 | h1
      · rw [slotN_lt h1] at e1; exact e1
      · rw [slotN_ge h1] at e1; omega
    have hv : v' = y := by
      rcases Nat.lt_or_ge v' n with h1 | h1
      · rw [slotN_lt h1] at e2'; exact e2'
      · rw [slotN_ge h1] at e2'; omega
    subst hu hv
    have h1 := (pr_ends hr ha hn hp).1
    have h2 := (pr_ends hr ha hn hp').2
    have h3 := hg.2.1 hx
    have h4 := hg'.2.2 hy
    rcases h1 with ⟨_, h1⟩ | ⟨h1, _⟩
    · rcases h2 with ⟨_, h2⟩ | ⟨h2, _⟩
      · simp [h1, h2, h3, h4]
      · omega
    · omega
  · intro h
    simp only [Bool.and_eq_true] at h
    obtain ⟨⟨⟨h1, h2⟩, h3⟩, h4⟩ := h
    obtain ⟨i, hi, ei⟩ := (memI_iff r x nr).1 h1
    obtain ⟨j, hj, ej⟩ := (memI_iff a y na).1 h2
    cases hm : memI r nr (y : Int)
    · have hyo : y ∈ oth r nr a na := by
        unfold oth
        rw [if_neg (by omega)]
        exact pick_mem.2 ⟨⟨j, hj, ej⟩, hm⟩
      have hne0 : oth r nr a na ≠ [] := fun e => by rw [e] at hyo; cases hyo
      refine .tail (b := n) (.single ⟨x, N, .inr (.inr ⟨i, hi, .inl ⟨hne0, ei.symm, rfl⟩⟩), ⟨by omega, fun _ => h3, fun h => by omega⟩, slotN_lt hx, slotN_ge hn⟩)
        ⟨N, y, .inl ⟨rfl, hyo⟩, ⟨by omega, fun h => by omega, fun _ => h4⟩, slotN_ge hn, slotN_lt hy⟩
    · have hyb : y ∈ pick true r nr a na := pick_mem.2 ⟨⟨j, hj, ej⟩, hm⟩
      by_cases hxb : x ∈ pick true r nr a na
      · rcases ring_to (N := N) hr ha hboth hxb hyb with e | e
        · exact absurd e.symm hne
        · exact e
      · have hne0 : pick true r nr a na ≠ [] := fun e => by rw [e] at hyb; cases hyb
        have hl := List.length_pos_iff.2 hne0
        have m0 := bo_mem hr ha (getD_mem hl)
        have st : Ed C r n nr N (pick true r nr a na) (oth r nr a na) x ((pick true r nr a na).getD 0 0) :=
          ⟨x, _, .inr (.inr ⟨i, hi, .inr ⟨by rw [ei]; exact hxb, hne0, ei.symm, rfl⟩⟩), ⟨fun e => hxb (by rw [e]; exact getD_mem hl), fun _ => h3, fun _ => hboth _ m0.1 m0.2.1 m0.2.2⟩, slotN_lt hx, slotN_lt m0.1⟩
        rcases ring_to (N := N) hr ha hboth (getD_mem hl) hyb with e | e
        · exact .single (by rw [← e]; exact st)
        · exact tg_trans (.single st) e
end

end Go.Proofs.Qxb6602859a
