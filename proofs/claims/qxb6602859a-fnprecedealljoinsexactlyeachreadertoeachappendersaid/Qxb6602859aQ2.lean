import Derived.Test.Qxb6602859aQ1
namespace Go.Proofs.Qxb6602859a
open Go.RowKit Kit
set_option linter.unusedVariables false

theorem nodup_len : ∀ (k : Nat) (L : List Nat), L.Nodup → (∀ x, x ∈ L → x < k) → L.length ≤ k
  | 0, L, _, h => by
    cases L with
    | nil => simp
    | cons a _ => exact absurd (h a (by simp)) (by omega)
  | k + 1, L, hn, h => by
    by_cases hk : k ∈ L
    · have h1 := nodup_len k (L.erase k) (hn.erase k) (fun x hx => by
        have hx1 : x ∈ L := List.mem_of_mem_erase hx
        have : x ≠ k := fun e => by subst e; exact (hn.not_mem_erase) hx
        have := h x hx1
        omega)
      have h2 := List.length_erase_of_mem hk
      have h3 := List.length_pos_of_mem hk
      omega
    · have := nodup_len k L hn (fun x hx => by
        have : x ≠ k := fun e => by subst e; exact hk hx
        have := h x hx
        omega)
      omega

/-- the edges out of x, as the rows have them -/
def Sx (off ad : Nat → Nat) (x y : Nat) : Prop := ∃ e, off x ≤ e ∧ e < off (x + 1) ∧ ad e = y

def cells32 (L : List Nat) : List Value := L.map fun x : Nat => Value.int .i32 (x : Int)

/-- the search from k: L is the queue -/
structure BF (off ad : Nat → Nat) (n sb qb : Nat) (w2 wr : World) (k : Nat) (L : List Nat) (seen : Nat → Int) : Prop where
  row : wr.rowIs sb 3 (n + 1) (fun y => .int .i64 (seen y))
  own : wr.ownsRow qb 21 1 (.slice (some ⟨qb, 0, none⟩) L.length (n + 1)) L.length (cells32 L)
  is : ∀ y, y ≤ n → (seen y = (k : Int) + 1 ↔ y ∈ L)
  le : ∀ y, seen y ≤ (k : Int) + 1
  nodup : L.Nodup
  bound : ∀ y, y ∈ L → y < n + 1
  reach : ∀ y, y ∈ L → Relation.TransGen (Sx off ad) k y
  kept : Kept (fun _ => False) w2 wr
  lt : sb < qb
  ge : w2.heap.size ≤ sb

theorem BF.len {off ad : Nat → Nat} {n sb qb : Nat} {w2 wr : World} {k : Nat} {L : List Nat} {seen : Nat → Int} (h : BF off ad n sb qb w2 wr k L seen) : L.length ≤ n + 1 := nodup_len _ _ h.nodup h.bound

theorem own21_cell {w : World} {B g n c : Nat} {L : List Nat} (h : w.ownsRow B 21 1 (.slice (some ⟨g, 0, none⟩) n c) n (cells32 L)) {i : Nat} (hi : i < n) : w.cell? ⟨g, i, none⟩ = some (.int .i32 ((L.getD i 0 : Nat) : Int)) := by
  obtain ⟨hl, h⟩ := h
  have hn : n = L.length := by simpa [cells32] using hl.symm
  subst hn
  rcases h with ⟨h, _⟩ | ⟨g', cap, cur, e, hB, hg, h1, h2, h3, h4⟩
  · cases h
  · cases e
    unfold World.cell?
    simp only [hg]
    have e : (cur.toList.take (L.length * 1))[i]? = some (.int .i32 ((L[i] : Nat) : Int)) := by rw [h4]; simp [cells32, hi]
    rw [List.getElem?_take_of_lt (by omega)] at e
    rw [List.getD_eq_getElem?_getD, List.getElem?_eq_getElem hi]
    simpa using e

theorem own21_same {w w' : World} {B n g c : Nat} {xs : List Value} (h : w.ownsRow B 21 1 (.slice (some ⟨g, 0, none⟩) n c) n xs) (hb : w'.heap[g]? = w.heap[g]?) : w'.ownsRow B 21 1 (.slice (some ⟨g, 0, none⟩) n c) n xs := by
  obtain ⟨hl, ⟨h, _⟩ | ⟨g', cap, cur, e, hB, hg, r⟩⟩ := h
  · cases h
  · cases e
    exact ⟨hl, .inr ⟨g, c, cur, rfl, hB, hb.trans hg, r⟩⟩

theorem own21_reset {w : World} {B n g c : Nat} {xs : List Value} (h : w.ownsRow B 21 1 (.slice (some ⟨g, 0, none⟩) n c) n xs) : w.ownsRow B 21 1 (.slice (some ⟨g, 0, none⟩) 0 c) 0 [] := by
  obtain ⟨hl, ⟨h, _⟩ | ⟨g', cap, cur, e, hB, hg, h1, h2, h3, h4⟩⟩ := h
  · cases h
  · cases e
    exact ⟨by simp, .inr ⟨g, c, cur, rfl, hB, hg, by omega, h2, h3, by simp⟩⟩

theorem BF.start {off ad : Nat → Nat} {n sb qb l : Nat} {w2 wr : World} {k : Nat} {seen : Nat → Int} {xs : List Value} (row : wr.rowIs sb 3 (n + 1) (fun y => .int .i64 (seen y))) (own : wr.ownsRow qb 21 1 (.slice (some ⟨qb, 0, none⟩) l (n + 1)) l xs)
    (hle : ∀ y, seen y ≤ (k : Int)) (kept : Kept (fun _ => False) w2 wr) (lt : sb < qb) (ge : w2.heap.size ≤ sb) : BF off ad n sb qb w2 wr k [] seen :=
  ⟨row, own21_reset own, (fun y _ => ⟨(fun e => by have := hle y; omega), (fun h => by cases h)⟩), (fun y => by have := hle y; omega), List.nodup_nil, (fun y h => by cases h), (fun y h => by cases h), kept, lt, ge⟩

/-- a node is found -/
theorem BF.push {off ad : Nat → Nat} {n sb qb : Nat} {w2 wr w1 : World} {k y : Nat} {L : List Nat} {seen : Nat → Int} (h : BF off ad n sb qb w2 wr k L seen) (hy : y ≤ n) (hn : y ∉ L) (hr : Relation.TransGen (Sx off ad) k y) (o : Obj)
    (hown : w1.ownsRow qb 21 1 (.slice (some ⟨qb, 0, none⟩) (L.length + 1) (n + 1)) (L.length + 1) (cells32 L ++ [.int .i32 (y : Int)]))
    (hg : ((wr.setCell ⟨sb, y, none⟩ (.int .i64 ((k : Int) + 1))).alloc o).grownBy w1 (some qb)) :
    BF off ad n sb qb w2 w1 k (L ++ [y]) (fun z => if z = y then (k : Int) + 1 else seen z) := by
  have hlt := h.lt
  have hge := h.ge
  have hsb := h.row.lt
  have hk : Kept (fun g => g = sb ∨ g = qb) wr w1 := by
    refine (((Kept.refl _ wr).setCell (.inl (.inl rfl)) _).trans (Kept.of_below ((Below.refl _ _).alloc (Nat.le_refl _) o))).trans (Kept.grown hg (fun g e => by cases e; exact .inr rfl))
  refine ⟨?_, ?_, ?_, ?_, ?_, ?_, ?_, ?_, hlt, hge⟩
  · have h1 := ((h.row.set y (.int .i64 ((k : Int) + 1))).alloc o).of_block (hg.block sb (by simp [World.setCell]; omega) (fun e => by cases e; omega))
    refine h1.congr (fun i hi => ?_)
    by_cases e : i = y
    · rw [if_pos e, if_pos e]
    · rw [if_neg e, if_neg e]
  · have : cells32 (L ++ [y]) = cells32 L ++ [.int .i32 (y : Int)] := by simp [cells32]
    rw [this, List.length_append, List.length_singleton]
    exact hown
  · intro z hz
    by_cases e : z = y
    · subst e; simp
    · rw [if_neg e, h.is z hz]
      simp [e]
  · intro z
    split
    · exact Int.le_refl _
    · exact h.le z
  · rw [List.nodup_append]
    refine ⟨h.nodup, by simp, ?_⟩
    intro a ha b hb
    simp at hb
    subst hb
    exact fun e => hn (e ▸ ha)
  · intro z hz
    simp at hz
    rcases hz with hz | rfl
    · exact h.bound z hz
    · omega
  · intro z hz
    simp at hz
    rcases hz with hz | rfl
    · exact h.reach z hz
    · exact hr
  · exact h.kept.trans' hk (fun g hg hs => by rcases hs with e | e <;> omega)

/-- closed: all that is to be found is found -/
theorem BF.all {off ad : Nat → Nat} {n sb qb : Nat} {w2 wr : World} {k : Nat} {L : List Nat} {seen : Nat → Int} (h : BF off ad n sb qb w2 wr k L seen)
    (h0 : ∀ y, Sx off ad k y → y ∈ L) (h1 : ∀ i, i < L.length → ∀ y, Sx off ad (L.getD i 0) y → y ∈ L) {y : Nat} (hy : y ≤ n) : seen y = (k : Int) + 1 ↔ Relation.TransGen (Sx off ad) k y := by
  rw [h.is y hy]
  constructor
  · exact h.reach y
  · intro ht
    clear hy
    induction ht with
    | single hs => exact h0 _ hs
    | tail _ hs ih =>
      obtain ⟨i, hi, e⟩ := List.getElem_of_mem ih
      exact h1 i hi _ (by rw [List.getD_eq_getElem?_getD, List.getElem?_eq_getElem hi]; simpa [e] using hs)

end Go.Proofs.Qxb6602859a
