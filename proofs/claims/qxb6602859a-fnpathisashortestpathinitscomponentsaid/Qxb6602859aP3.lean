import Derived.Test.Qxb6602859aP2
namespace Go.Proofs.Qxb6602859a
open Go.RowKit Kit
set_option linter.unusedVariables false

/-- what add may turn -/
def SB (bb : Nat) (ev : Value) (g : Nat) : Prop := g = bb ∨ ev.ownBlock = some g

def Loc (w : World) (ev ev' : Value) : Prop := ev'.ownBlock = ev.ownBlock ∨ ∃ g, ev'.ownBlock = some g ∧ w.heap.size ≤ g

theorem own53_lt {w : World} {B n g : Nat} {v : Value} {xs : List Value} (h : w.ownsRow B 53 3 v n xs) (hg : v.ownBlock = some g) : g < w.heap.size ∧ B ≤ g := by
  obtain ⟨hl, ⟨rfl, _⟩ | ⟨g', cap, cur, rfl, hB, hg', r⟩⟩ := h
  · cases hg
  · cases hg; exact ⟨(Array.getElem?_eq_some_iff.1 hg').1, hB⟩

theorem own53_setCell {w : World} {B n : Nat} {v : Value} {xs : List Value} (h : w.ownsRow B 53 3 v n xs) {a : Addr} (ha : v.ownBlock ≠ some a.block) (u : Value) : (w.setCell a u).ownsRow B 53 3 v n xs := by
  obtain ⟨hl, h | ⟨g, cap, cur, rfl, hB, hg, r⟩⟩ := h
  · exact ⟨hl, .inl h⟩
  · refine ⟨hl, .inr ⟨g, cap, cur, rfl, hB, ?_, r⟩⟩
    rw [Deep.blk_setCell_other _ _ _ _ (fun e => ha (by rw [← e]; rfl))]
    exact hg

theorem add_any (B bb n : Nat) (C : Nat → Bool) (cv ev : Value) (N : Int) (E : List Edge) (u v : Nat) (w : World) (hu63 : u ≤ 2147483647) (hv63 : v ≤ 2147483647) (hlen : E.length ≤ 1048576)
    (hC : Row w 4 cv n (fun i => .bool (C i))) (hbs : BS w B bb cv N ev E) :
    Calls Try.prog 33 #[.pointer (some ⟨bb, 0, none⟩), .int .i64 u, .int .i64 v, .int .u8 4] w fun e w' => e = .returned (.tuple #[]) ∧
      ∃ ev' E', BS w' B bb cv N ev' E' ∧ (good C n u v → E' = E ++ [((u : Int), (v : Int), 4)]) ∧ (¬ good C n u v → E' = E) ∧ Kept (SB bb ev) w w' ∧ Loc w ev ev' := by
  by_cases hg : good C n u v
  · refine (add_push B bb n C cv ev N E u v w hu63 hv63 hlen hC hbs hg).mono ?_
    rintro e w' ⟨rfl, ev', w1, rfl, hown, hgr, hloc⟩
    have hbb : bb < w.heap.size := World.block_lt_of_cell? _ _ hbs.c0
    have hblk : w1.heap[bb]? = w.heap[bb]? := hgr.block bb hbb (fun e => hbs.ne e.symm)
    have hcell : ∀ i, w1.cell? ⟨bb, i, none⟩ = w.cell? ⟨bb, i, none⟩ := fun i => World.cell?_of_block (w := w) (a := ⟨bb, i, none⟩) hblk
    have hfro : ∀ i, w1.frozen? ⟨bb, i, none⟩ = w.frozen? ⟨bb, i, none⟩ := fun i => World.frozen?_of_block (w := w) (a := ⟨bb, i, none⟩) hblk
    have hne' : ev'.ownBlock ≠ some bb := by
      rcases hloc with e | e
      · rw [e]; exact hbs.ne
      · rw [e]; intro h; cases h; omega
    refine ⟨rfl, ev', _, ⟨?_, ?_, ?_, ?_, ?_, ?_, hne', ?_⟩, fun _ => rfl, fun h => absurd hg h, ?_, ?_⟩
    · rw [World.cell?_setCell_other _ _ _ _ (by simp), hcell]; exact hbs.c0
    · rw [World.cell?_setCell_other _ _ _ _ (by simp), hcell]; exact hbs.c1
    · exact World.cell?_setCell_same _ _ _ ((hcell 2).trans hbs.c2)
    · rw [World.frozen?_setCell, hfro]; exact hbs.f1
    · rw [World.frozen?_setCell, hfro]; exact hbs.f2
    · rw [flat_snoc, List.length_append, List.length_singleton]
      exact own53_setCell hown hne' _
    · simp [World.setCell]; exact Nat.le_trans hbs.base hgr.size
    · exact (Kept.grown hgr (fun g hg => .inr hg)).setCell (.inl (.inl rfl)) _
    · rcases hloc with e | e
      · exact .inl e
      · exact .inr ⟨_, e, by omega⟩
  · refine (add_skip bb n C cv u v 4 w hu63 hv63 hbs.c0 hC hg).mono ?_
    rintro e w' ⟨rfl, rfl⟩
    exact ⟨rfl, ev, E, hbs, fun h => absurd h hg, fun _ => rfl, Kept.refl _ _, .inl rfl⟩

/-- the list holds just the pairs of Pr that may be added -/
def NewIs (C : Nat → Bool) (n : Nat) (new : List Edge) (Pr : Nat → Nat → Prop) : Prop :=
  ∀ e, e ∈ new ↔ ∃ u v : Nat, e = ((u : Int), (v : Int), (4 : Int)) ∧ Pr u v ∧ good C n u v

theorem NewIs.nil (C : Nat → Bool) (n : Nat) : NewIs C n [] (fun _ _ => False) := by
  intro e
  constructor
  · intro h; cases h
  · rintro ⟨u, v, _, h, _⟩; exact h.elim

theorem NewIs.congr {C : Nat → Bool} {n : Nat} {new : List Edge} {Pr Pr' : Nat → Nat → Prop} (h : NewIs C n new Pr) (e : ∀ u v, Pr u v ↔ Pr' u v) : NewIs C n new Pr' := by
  intro x
  rw [h x]
  exact ⟨fun ⟨u, v, a, b, c⟩ => ⟨u, v, a, (e u v).1 b, c⟩, fun ⟨u, v, a, b, c⟩ => ⟨u, v, a, (e u v).2 b, c⟩⟩

/-- one call of add -/
theorem NewIs.add {C : Nat → Bool} {n : Nat} {E new E' : List Edge} {Pr : Nat → Nat → Prop} {u v : Nat} (h : NewIs C n new Pr)
    (h1 : good C n u v → E' = (E ++ new) ++ [((u : Int), (v : Int), 4)]) (h2 : ¬ good C n u v → E' = E ++ new) :
    ∃ new', E' = E ++ new' ∧ NewIs C n new' (fun a b => Pr a b ∨ (a = u ∧ b = v)) ∧ new'.length ≤ new.length + 1 := by
  by_cases hg : good C n u v
  · refine ⟨new ++ [((u : Int), (v : Int), 4)], by rw [h1 hg, List.append_assoc], ?_, by simp⟩
    intro e
    rw [List.mem_append, h e, List.mem_singleton]
    constructor
    · rintro (⟨a, b, rfl, hp, hq⟩ | rfl)
      · exact ⟨a, b, rfl, .inl hp, hq⟩
      · exact ⟨u, v, rfl, .inr ⟨rfl, rfl⟩, hg⟩
    · rintro ⟨a, b, rfl, hp | ⟨rfl, rfl⟩, hq⟩
      · exact .inl ⟨a, b, rfl, hp, hq⟩
      · exact .inr rfl
  · refine ⟨new, h2 hg, ?_, by omega⟩
    intro e
    rw [h e]
    constructor
    · rintro ⟨a, b, rfl, hp, hq⟩
      exact ⟨a, b, rfl, .inl hp, hq⟩
    · rintro ⟨a, b, rfl, hp | ⟨rfl, rfl⟩, hq⟩
      · exact ⟨a, b, rfl, hp, hq⟩
      · exact absurd hq hg

end Go.Proofs.Qxb6602859a
