import Derived.Test.Qxb6602859aP4
namespace Go.Proofs.Qxb6602859a
open Go.RowKit Kit
set_option linter.unusedVariables false

/-- both lists, rows of the call's own since block B -/
structure Two (B : Nat) (w1 wr : World) (bv ov : Value) (bo ot : List Nat) : Prop where
  both : wr.ownsRow B 3 1 bv bo.length (cellsI bo)
  others : wr.ownsRow B 3 1 ov ot.length (cellsI ot)
  sep : ∀ g, bv.ownBlock = some g → ov.ownBlock ≠ some g
  below : Below B w1 wr
  size : B ≤ wr.heap.size

theorem cellsI_snoc (L : List Nat) (x : Nat) : cellsI (L ++ [x]) = cellsI L ++ [.int .i64 (x : Int)] := by simp [cellsI]

theorem Two.pushBoth {B : Nat} {w1 wr w4 : World} {bv ov v' : Value} {bo ot : List Nat} {x : Nat} (h : Two B w1 wr bv ov bo ot)
    (hown : w4.ownsRow B 3 1 v' (bo.length + 1) (cellsI bo ++ [.int .i64 (x : Int)])) (hg : (wr.alloc (.cells #[.int .i64 (x : Int)] 3)).grownBy w4 bv.ownBlock) (hl : v'.ownBlock = bv.ownBlock ∨ v'.ownBlock = some (wr.heap.size + 1)) :
    Two B w1 w4 v' ov (bo ++ [x]) ot := by
  have hg' : wr.grownBy w4 bv.ownBlock := (World.grownBy_alloc wr _ _).trans hg
  refine ⟨?_, ?_, ?_, ?_, Nat.le_trans h.size hg'.size⟩
  · rw [cellsI_snoc, List.length_append, List.length_singleton]; exact hown
  · exact own3_same h.others (fun g hgb hlt => hg'.block g hlt (fun e => h.sep g e.symm hgb))
  · intro g hgb
    rcases hl with e | e
    · exact h.sep g (e.symm.trans hgb)
    · rw [e] at hgb; cases hgb
      intro ho
      have := (own3_lt h.others ho).1
      omega
  · exact h.below.grown hg' h.size (fun k hk => (own3_lt h.both hk).2)

theorem Two.pushOthers {B : Nat} {w1 wr w4 : World} {bv ov v' : Value} {bo ot : List Nat} {x : Nat} (h : Two B w1 wr bv ov bo ot)
    (hown : w4.ownsRow B 3 1 v' (ot.length + 1) (cellsI ot ++ [.int .i64 (x : Int)])) (hg : (wr.alloc (.cells #[.int .i64 (x : Int)] 3)).grownBy w4 ov.ownBlock) (hl : v'.ownBlock = ov.ownBlock ∨ v'.ownBlock = some (wr.heap.size + 1)) :
    Two B w1 w4 bv v' bo (ot ++ [x]) := by
  have hg' : wr.grownBy w4 ov.ownBlock := (World.grownBy_alloc wr _ _).trans hg
  refine ⟨?_, ?_, ?_, ?_, Nat.le_trans h.size hg'.size⟩
  · exact own3_same h.both (fun g hgb hlt => hg'.block g hlt (fun e => h.sep g hgb e.symm))
  · rw [cellsI_snoc, List.length_append, List.length_singleton]; exact hown
  · intro g hgb ho
    rcases hl with e | e
    · exact h.sep g hgb (e.symm.trans ho)
    · rw [e] at ho; cases ho
      have := (own3_lt h.both hgb).1
      omega
  · exact h.below.grown hg' h.size (fun k hk => (own3_lt h.others hk).2)

theorem BS.kept {S : Nat → Prop} {w w' : World} {B bb : Nat} {cv : Value} {N : Int} {ev : Value} {E : List Edge} (h : BS w B bb cv N ev E) (hk : Kept S w w') (h1 : ¬ S bb) (h2 : ∀ g, ev.ownBlock = some g → ¬ S g) : BS w' B bb cv N ev E := by
  have hbb : bb < w.heap.size := World.block_lt_of_cell? _ _ h.c0
  have hblk : w'.heap[bb]? = w.heap[bb]? := hk.block bb hbb h1
  have hcell : ∀ i, w'.cell? ⟨bb, i, none⟩ = w.cell? ⟨bb, i, none⟩ := fun i => World.cell?_of_block (w := w) (a := ⟨bb, i, none⟩) hblk
  have hfro : ∀ i, w'.frozen? ⟨bb, i, none⟩ = w.frozen? ⟨bb, i, none⟩ := fun i => World.frozen?_of_block (w := w) (a := ⟨bb, i, none⟩) hblk
  refine ⟨(hcell 0).trans h.c0, (hcell 1).trans h.c1, (hcell 2).trans h.c2, (hfro 1).trans h.f1, (hfro 2).trans h.f2, ?_, h.ne, Nat.le_trans h.base hk.size⟩
  obtain ⟨hl, ho | ⟨g, cap, cur, rfl, hB, hg, r⟩⟩ := h.own
  · exact ⟨hl, .inl ho⟩
  · exact ⟨hl, .inr ⟨g, cap, cur, rfl, hB, (hk.block g (Array.getElem?_eq_some_iff.1 hg).1 (h2 g rfl)).trans hg, r⟩⟩

theorem BS.lt {w : World} {B bb : Nat} {cv : Value} {N : Int} {ev : Value} {E : List Edge} (h : BS w B bb cv N ev E) : bb < w.heap.size := World.block_lt_of_cell? _ _ h.c0

theorem BS.notNew {w : World} {B bb : Nat} {cv : Value} {N : Int} {ev : Value} {E : List Edge} (h : BS w B bb cv N ev E) {g : Nat} (hg : w.heap.size ≤ g) : ¬ SB bb ev g := by
  rintro (rfl | e)
  · have := h.lt; omega
  · have := (own53_lt h.own e).1; omega

theorem BS.nodes {w : World} {B bb : Nat} {cv : Value} {N : Int} {ev : Value} {E : List Edge} (h : BS w B bb cv N ev E) (N' : Int) : BS (w.setCell ⟨bb, 1, none⟩ (.int .i64 N')) B bb cv N' ev E := by
  refine ⟨?_, World.cell?_setCell_same _ _ _ h.c1, ?_, ?_, ?_, own53_setCell h.own h.ne _, h.ne, by simp [World.setCell]; exact h.base⟩
  · rw [World.cell?_setCell_other _ _ _ _ (by simp)]; exact h.c0
  · rw [World.cell?_setCell_other _ _ _ _ (by simp)]; exact h.c2
  · rw [World.frozen?_setCell]; exact h.f1
  · rw [World.frozen?_setCell]; exact h.f2

/-- a map's block is no row of edges -/
theorem BS.notMap {w : World} {B bb : Nat} {cv : Value} {N : Int} {ev : Value} {E : List Edge} {mb k : Nat} {mem : Int → Bool} (h : BS w B bb cv N ev E) (hs : SetI w mb k mem) : ¬ SB bb ev mb := by
  obtain ⟨sz, D, ⟨es, clock, hh, _⟩, _⟩ := hs
  rintro (rfl | e)
  · have := h.c0; simp [World.cell?, hh] at this
  · obtain ⟨hl, ⟨rfl, _⟩ | ⟨g, cap, cur, rfl, hB, hg, r⟩⟩ := h.own
    · cases e
    · cases e; rw [hh] at hg; cases hg

/-- the state of the edges since w2 -/
structure ES (B bb n : Nat) (C : Nat → Bool) (cv : Value) (N : Int) (E : List Edge) (w2 wr : World) (ev0 ev : Value) (new : List Edge) (Pr : Nat → Nat → Prop) (m : Nat) : Prop where
  bs : BS wr B bb cv N ev (E ++ new)
  isnew : NewIs C n new Pr
  len : new.length ≤ m
  ch : Ch (fun _ => False) bb w2 wr ev0 ev

theorem ES.step {B bb n : Nat} {C : Nat → Bool} {cv : Value} {N : Int} {E new E' : List Edge} {w2 wr w5 : World} {ev0 ev ev' : Value} {Pr : Nat → Nat → Prop} {m u v : Nat} (h : ES B bb n C cv N E w2 wr ev0 ev new Pr m)
    (hbs : BS w5 B bb cv N ev' E') (h1 : good C n u v → E' = (E ++ new) ++ [((u : Int), (v : Int), 4)]) (h2 : ¬ good C n u v → E' = E ++ new) (hk : Kept (SB bb ev) wr w5) (hl : Loc wr ev ev') :
    ∃ new', ES B bb n C cv N E w2 w5 ev0 ev' new' (fun a b => Pr a b ∨ (a = u ∧ b = v)) (m + 1) := by
  obtain ⟨new', rfl, hn, hlen⟩ := h.isnew.add h1 h2
  exact ⟨new', hbs, hn, by have := h.len; omega, h.ch.add hk hl⟩

theorem ES.congr {B bb n : Nat} {C : Nat → Bool} {cv : Value} {N : Int} {E new : List Edge} {w2 wr : World} {ev0 ev : Value} {Pr Pr' : Nat → Nat → Prop} {m m' : Nat} (h : ES B bb n C cv N E w2 wr ev0 ev new Pr m) (e : ∀ u v, Pr u v ↔ Pr' u v) (hm : m ≤ m') : ES B bb n C cv N E w2 wr ev0 ev new Pr' m' :=
  ⟨h.bs, h.isnew.congr e, Nat.le_trans h.len hm, h.ch⟩

/-- what else turns: new blocks and maps made since w2 -/
theorem ES.other {B bb n : Nat} {C : Nat → Bool} {cv : Value} {N : Int} {E new : List Edge} {w2 wr w5 : World} {ev0 ev : Value} {Pr : Nat → Nat → Prop} {m : Nat} (h : ES B bb n C cv N E w2 wr ev0 ev new Pr m) {S : Nat → Prop} (hk : Kept S wr w5)
    (h1 : ∀ g, S g → w2.heap.size ≤ g) (h2 : ∀ g, S g → ¬ SB bb ev g) : ES B bb n C cv N E w2 w5 ev0 ev new Pr m :=
  ⟨h.bs.kept hk (fun hs => h2 _ hs (.inl rfl)) (fun g hg hs => h2 g hs (.inr hg)), h.isnew, h.len, h.ch.other hk (fun g hg hs => by have := h1 g hs; omega)⟩

/-- a cell of w2 that is neither the builder's nor in its first row -/
theorem ES.cell {B bb n : Nat} {C : Nat → Bool} {cv : Value} {N : Int} {E new : List Edge} {w2 wr : World} {ev0 ev : Value} {Pr : Nat → Nat → Prop} {m : Nat} (h : ES B bb n C cv N E w2 wr ev0 ev new Pr m) {a : Addr} {v : Value} (hc : w2.cell? a = some v) (hs : ¬ SB bb ev0 a.block) : wr.cell? a = some v :=
  h.ch.kept.cell hc (fun e => e.elim hs (fun f => f))

theorem ES.row {B bb n : Nat} {C : Nat → Bool} {cv : Value} {N : Int} {E new : List Edge} {w2 wr : World} {ev0 ev : Value} {Pr : Nat → Nat → Prop} {m : Nat} (h : ES B bb n C cv N E w2 wr ev0 ev new Pr m) (hC : Row w2 4 cv n (fun i => .bool (C i))) (sepC : ∀ g c, cv = .slice (some ⟨g, 0, none⟩) n c → ¬ SB bb ev0 g) : Row wr 4 cv n (fun i => .bool (C i)) :=
  hC.kept h.ch.kept (fun g c e hs => hs.elim (sepC g c e) (fun f => f))

def PrSpec (r : Nat → Nat) (nr : Nat) (bo ot : List Nat) (N : Nat) (u v : Nat) : Prop :=
  (u = N ∧ v ∈ ot) ∨ (∃ i, i < bo.length ∧ u = bo.getD i 0 ∧ v = bo.getD ((i + 1) % bo.length) 0) ∨
  (∃ i, i < nr ∧ ((ot ≠ [] ∧ u = r i ∧ v = N) ∨ (r i ∉ bo ∧ bo ≠ [] ∧ u = r i ∧ v = bo.getD 0 0)))

def PreOut (B bb n nr na : Nat) (C : Nat → Bool) (r a : Nat → Nat) (cv ev : Value) (N : Nat) (E : List Edge) (w w' : World) : Prop :=
  ∃ ev' new, BS w' B bb cv ((if pick false r nr a na = [] then N else N + 1 : Nat) : Int) ev' (E ++ new) ∧
    NewIs C n new (PrSpec r nr (pick true r nr a na) (pick false r nr a na) N) ∧ new.length ≤ 2 * na + 2 * nr ∧ Kept (SB bb ev) w w' ∧ Loc w ev ev'

theorem getD_mem {L : List Nat} {i : Nat} (h : i < L.length) : L.getD i 0 ∈ L := by
  rw [List.getD_eq_getElem?_getD, List.getElem?_eq_getElem h]; exact List.getElem_mem h

theorem rem_cast (k q : Nat) (h : k < q) : ((k : Int) + 1).tmod (q : Int) = (((k + 1) % q : Nat) : Int) := by
  rw [Int.tmod_eq_emod_of_nonneg (by omega)]; simp

theorem memI_list {bo : List Nat} {fb : Nat → Nat} {bl x : Nat} (efb : fb = fun i => bo.getD i 0) (ebl : bl = bo.length) : memI fb bl (x : Int) = true ↔ x ∈ bo := by
  rw [memI_iff, efb, ebl]
  constructor
  · rintro ⟨i, hi, rfl⟩; exact getD_mem hi
  · intro h
    obtain ⟨i, hi, e⟩ := List.getElem_of_mem h
    exact ⟨i, hi, by rw [← e]; simp [hi]⟩

section
variable {P : Nat → Nat → Prop} {r fb : Nat → Nat} {bl k N : Nat} {bo : List Nat}

theorem prN_none (hm : memI fb bl (r k : Int) = false) (hb0 : bl = 0) (efb : fb = fun i => bo.getD i 0) (ebl : bl = bo.length) (u v : Nat) :
    (P u v ∨ ∃ j, j < k ∧ (r j ∉ bo ∧ bo ≠ [] ∧ u = r j ∧ v = fb 0)) ↔ (P u v ∨ ∃ j, j < k + 1 ∧ (r j ∉ bo ∧ bo ≠ [] ∧ u = r j ∧ v = fb 0)) := by
  have hbo : bo = [] := List.eq_nil_of_length_eq_zero (by omega)
  constructor
  · rintro (h | ⟨j, _, _, h, _⟩)
    · exact .inl h
    · exact absurd hbo h
  · rintro (h | ⟨j, _, _, h, _⟩)
    · exact .inl h
    · exact absurd hbo h

theorem prN_in (hm : memI fb bl (r k : Int) = true) (efb : fb = fun i => bo.getD i 0) (ebl : bl = bo.length) (u v : Nat) :
    (P u v ∨ ∃ j, j < k ∧ (r j ∉ bo ∧ bo ≠ [] ∧ u = r j ∧ v = fb 0)) ↔ (P u v ∨ ∃ j, j < k + 1 ∧ (r j ∉ bo ∧ bo ≠ [] ∧ u = r j ∧ v = fb 0)) := by
  have hk := (memI_list efb ebl).1 hm
  constructor
  · rintro (h | ⟨j, hj, h⟩)
    · exact .inl h
    · exact .inr ⟨j, by omega, h⟩
  · rintro (h | ⟨j, hj, h⟩)
    · exact .inl h
    · rcases Nat.lt_or_ge j k with h1 | h1
      · exact .inr ⟨j, h1, h⟩
      · obtain rfl : j = k := by omega
        exact absurd hk h.1

theorem prN_both (hm : memI fb bl (r k : Int) = false) (hb0 : ¬ bl = 0) (efb : fb = fun i => bo.getD i 0) (ebl : bl = bo.length) (u v : Nat) :
    ((P u v ∨ ∃ j, j < k ∧ (r j ∉ bo ∧ bo ≠ [] ∧ u = r j ∧ v = fb 0)) ∨ (u = r k ∧ v = fb 0)) ↔ (P u v ∨ ∃ j, j < k + 1 ∧ (r j ∉ bo ∧ bo ≠ [] ∧ u = r j ∧ v = fb 0)) := by
  have hk : r k ∉ bo := fun h => by rw [(memI_list efb ebl).2 h] at hm; cases hm
  have hbo : bo ≠ [] := fun h => hb0 (by rw [ebl, h]; rfl)
  constructor
  · rintro ((h | ⟨j, hj, h⟩) | ⟨h1, h2⟩)
    · exact .inl h
    · exact .inr ⟨j, by omega, h⟩
    · exact .inr ⟨k, by omega, hk, hbo, h1, h2⟩
  · rintro (h | ⟨j, hj, h⟩)
    · exact .inl (.inl h)
    · rcases Nat.lt_or_ge j k with h1 | h1
      · exact .inl (.inr ⟨j, h1, h⟩)
      · obtain rfl : j = k := by omega
        exact .inr h.2.2

theorem prV_none (hm : memI fb bl (r k : Int) = false) (hb0 : bl = 0) (efb : fb = fun i => bo.getD i 0) (ebl : bl = bo.length) (u v : Nat) :
    ((P u v ∨ ∃ j, j < k ∧ ((u = r j ∧ v = N) ∨ (r j ∉ bo ∧ bo ≠ [] ∧ u = r j ∧ v = fb 0))) ∨ (u = r k ∧ v = N)) ↔ (P u v ∨ ∃ j, j < k + 1 ∧ ((u = r j ∧ v = N) ∨ (r j ∉ bo ∧ bo ≠ [] ∧ u = r j ∧ v = fb 0))) := by
  have hbo : bo = [] := List.eq_nil_of_length_eq_zero (by omega)
  constructor
  · rintro ((h | ⟨j, hj, h⟩) | h)
    · exact .inl h
    · exact .inr ⟨j, by omega, h⟩
    · exact .inr ⟨k, by omega, .inl h⟩
  · rintro (h | ⟨j, hj, h | h⟩)
    · exact .inl (.inl h)
    · rcases Nat.lt_or_ge j k with h1 | h1
      · exact .inl (.inr ⟨j, h1, .inl h⟩)
      · obtain rfl : j = k := by omega
        exact .inr h
    · exact absurd hbo h.2.1

theorem prV_in (hm : memI fb bl (r k : Int) = true) (efb : fb = fun i => bo.getD i 0) (ebl : bl = bo.length) (u v : Nat) :
    ((P u v ∨ ∃ j, j < k ∧ ((u = r j ∧ v = N) ∨ (r j ∉ bo ∧ bo ≠ [] ∧ u = r j ∧ v = fb 0))) ∨ (u = r k ∧ v = N)) ↔ (P u v ∨ ∃ j, j < k + 1 ∧ ((u = r j ∧ v = N) ∨ (r j ∉ bo ∧ bo ≠ [] ∧ u = r j ∧ v = fb 0))) := by
  have hk := (memI_list efb ebl).1 hm
  constructor
  · rintro ((h | ⟨j, hj, h⟩) | h)
    · exact .inl h
    · exact .inr ⟨j, by omega, h⟩
    · exact .inr ⟨k, by omega, .inl h⟩
  · rintro (h | ⟨j, hj, h⟩)
    · exact .inl (.inl h)
    · rcases Nat.lt_or_ge j k with h1 | h1
      · exact .inl (.inr ⟨j, h1, h⟩)
      · obtain rfl : j = k := by omega
        rcases h with h | h
        · exact .inr h
        · exact absurd hk h.1

theorem prV_both (hm : memI fb bl (r k : Int) = false) (hb0 : ¬ bl = 0) (efb : fb = fun i => bo.getD i 0) (ebl : bl = bo.length) (u v : Nat) :
    (((P u v ∨ ∃ j, j < k ∧ ((u = r j ∧ v = N) ∨ (r j ∉ bo ∧ bo ≠ [] ∧ u = r j ∧ v = fb 0))) ∨ (u = r k ∧ v = N)) ∨ (u = r k ∧ v = fb 0)) ↔ (P u v ∨ ∃ j, j < k + 1 ∧ ((u = r j ∧ v = N) ∨ (r j ∉ bo ∧ bo ≠ [] ∧ u = r j ∧ v = fb 0))) := by
  have hk : r k ∉ bo := fun h => by rw [(memI_list efb ebl).2 h] at hm; cases hm
  have hbo : bo ≠ [] := fun h => hb0 (by rw [ebl, h]; rfl)
  constructor
  · rintro (((h | ⟨j, hj, h⟩) | h) | ⟨h1, h2⟩)
    · exact .inl h
    · exact .inr ⟨j, by omega, h⟩
    · exact .inr ⟨k, by omega, .inl h⟩
    · exact .inr ⟨k, by omega, .inr ⟨hk, hbo, h1, h2⟩⟩
  · rintro (h | ⟨j, hj, h⟩)
    · exact .inl (.inl (.inl h))
    · rcases Nat.lt_or_ge j k with h1 | h1
      · exact .inl (.inl (.inr ⟨j, h1, h⟩))
      · obtain rfl : j = k := by omega
        rcases h with h | h
        · exact .inl (.inr h)
        · exact .inr h.2.2
end

theorem ES.back {B bb n : Nat} {C : Nat → Bool} {cv : Value} {N : Int} {E new : List Edge} {w w2 wr : World} {ev0 ev : Value} {Pr : Nat → Nat → Prop} {m : Nat} (h : ES B bb n C cv N E w2 wr ev0 ev new Pr m) (hb : Below w.heap.size w w2) : Kept (SB bb ev0) w wr ∧ Loc w ev0 ev := by
  refine ⟨(Kept.of_below hb).trans' h.ch.kept (fun g _ hs => hs.elim (fun x => x) (fun f => f.elim)), ?_⟩
  rcases h.ch.loc with e | ⟨g, e, hg⟩
  · exact .inl e
  · exact .inr ⟨g, e, Nat.le_trans hb.size hg⟩

section
variable {B bb n nr na : Nat} {C : Nat → Bool} {r a fb fo : Nat → Nat} {cv : Value} {N bl ol : Nat} {E new : List Edge} {w w2 wr : World} {ev0 ev : Value} {bo ot : List Nat}

theorem finN (h : ES B bb n C cv (N : Int) E w2 wr ev0 ev new (fun u v => (fun u v => (fun _ _ => False) u v ∨ ∃ j, j < bl ∧ u = fb j ∧ v = fb ((j + 1) % bl)) u v ∨ ∃ j, j < nr ∧ (r j ∉ bo ∧ bo ≠ [] ∧ u = r j ∧ v = fb 0)) (na + bl + 2 * nr))
    (ebo : bo = pick true r nr a na) (eot : ot = pick false r nr a na) (efb : fb = fun i => bo.getD i 0) (efo : fo = fun i => ot.getD i 0) (ebl : bl = bo.length) (eol : 0 = ot.length) (hb : Below w.heap.size w w2) :
    BS wr B bb cv ((if pick false r nr a na = [] then N else N + 1 : Nat) : Int) ev (E ++ new) ∧
    NewIs C n new (PrSpec r nr (pick true r nr a na) (pick false r nr a na) N) ∧ new.length ≤ 2 * na + 2 * nr ∧ Kept (SB bb ev0) w wr ∧ Loc w ev0 ev := by
  have hot : ot = [] := List.eq_nil_of_length_eq_zero eol.symm
  have hl := pick_len true r nr a na
  rw [← eot, ← ebo, if_pos hot]
  rw [← ebo] at hl
  refine ⟨h.bs, h.isnew.congr (fun u v => ?_), by have := h.len; omega, h.back hb⟩
  unfold PrSpec
  rw [hot]
  subst efb ebl
  constructor
  · rintro ((h | ⟨j, hj, h1, h2⟩) | ⟨j, hj, h⟩)
    · exact h.elim
    · exact .inr (.inl ⟨j, hj, h1, h2⟩)
    · exact .inr (.inr ⟨j, hj, .inr h⟩)
  · rintro (⟨_, h⟩ | ⟨j, hj, h1, h2⟩ | ⟨j, hj, ⟨h, _⟩ | h⟩)
    · cases h
    · exact .inl (.inr ⟨j, hj, h1, h2⟩)
    · exact absurd rfl h
    · exact .inr ⟨j, hj, h⟩

theorem finV (h : ES B bb n C cv ((N : Int) + 1) E w2 wr ev0 ev new (fun u v => (fun u v => (fun u v => u = N ∧ ∃ j, j < ol ∧ v = fo j) u v ∨ ∃ j, j < bl ∧ u = fb j ∧ v = fb ((j + 1) % bl)) u v ∨ ∃ j, j < nr ∧ ((u = r j ∧ v = N) ∨ (r j ∉ bo ∧ bo ≠ [] ∧ u = r j ∧ v = fb 0))) (na + bl + 2 * nr))
    (hol : ¬ ol = 0) (ebo : bo = pick true r nr a na) (eot : ot = pick false r nr a na) (efb : fb = fun i => bo.getD i 0) (efo : fo = fun i => ot.getD i 0) (ebl : bl = bo.length) (eol : ol = ot.length) (hb : Below w.heap.size w w2) :
    BS wr B bb cv ((if pick false r nr a na = [] then N else N + 1 : Nat) : Int) ev (E ++ new) ∧
    NewIs C n new (PrSpec r nr (pick true r nr a na) (pick false r nr a na) N) ∧ new.length ≤ 2 * na + 2 * nr ∧ Kept (SB bb ev0) w wr ∧ Loc w ev0 ev := by
  have hot : ot ≠ [] := fun e => hol (by rw [eol, e]; rfl)
  have hl := pick_len true r nr a na
  rw [← eot, ← ebo, if_neg hot]
  rw [← ebo] at hl
  refine ⟨h.bs, h.isnew.congr (fun u v => ?_), by have := h.len; omega, h.back hb⟩
  unfold PrSpec
  subst efb efo ebl eol
  constructor
  · rintro ((⟨h1, j, hj, h2⟩ | ⟨j, hj, h1, h2⟩) | ⟨j, hj, h | h⟩)
    · exact .inl ⟨h1, by rw [h2]; exact getD_mem hj⟩
    · exact .inr (.inl ⟨j, hj, h1, h2⟩)
    · exact .inr (.inr ⟨j, hj, .inl ⟨hot, h⟩⟩)
    · exact .inr (.inr ⟨j, hj, .inr h⟩)
  · rintro (⟨h1, h⟩ | ⟨j, hj, h1, h2⟩ | ⟨j, hj, ⟨_, h⟩ | h⟩)
    · obtain ⟨i, hi, e⟩ := List.getElem_of_mem h
      exact .inl (.inl ⟨h1, i, hi, by rw [← e]; simp [hi]⟩)
    · exact .inl (.inr ⟨j, hj, h1, h2⟩)
    · exact .inr ⟨j, hj, .inl h⟩
    · exact .inr ⟨j, hj, .inr h⟩
end

end Go.Proofs.Qxb6602859a
