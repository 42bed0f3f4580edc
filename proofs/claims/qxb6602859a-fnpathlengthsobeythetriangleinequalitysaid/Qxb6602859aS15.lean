import Derived.Test.Qxb6602859aS14
namespace Go.Proofs.Qxb6602859a
open Go.RowKit Kit
set_option linter.unusedVariables false
set_option linter.unusedSimpArgs false

/-- a queue: a slice of a row that the call has made, from some place in it on -/
def QRow (w : World) (B : Nat) (v : Value) (L : List Nat) : Prop :=
  ∃ a c, v = .slice a L.length c ∧ L.length ≤ c ∧ c ≤ 9223372036854775807 ∧ (L = [] ∨ ∃ g o f, a = some ⟨g, o, none⟩ ∧ B ≤ g ∧ w.rowIs g 21 (o + c) f ∧ ∀ i, i < L.length → f (o + i) = .int .i32 ((L.getD i 0 : Nat) : Int))

theorem QRow.kept {S : Nat → Prop} {w w' : World} {B : Nat} {v : Value} {L : List Nat} (h : QRow w B v L) (hk : Kept S w w') (hs : ∀ g, v.ownBlock = some g → ¬ S g) : QRow w' B v L := by
  obtain ⟨a, c, rfl, h1, h2, h3⟩ := h
  refine ⟨a, c, rfl, h1, h2, ?_⟩
  rcases h3 with h3 | ⟨g, o, f, rfl, hb, hr, hf⟩
  · exact .inl h3
  · exact .inr ⟨g, o, f, rfl, hb, hk.row hr (hs g rfl), hf⟩

theorem QRow.start (w : World) (B x : Nat) (hB : B ≤ w.heap.size) : QRow (w.alloc (.cells #[.int .i32 (x : Int)] 21)) B (.slice (some ⟨w.heap.size, 0, none⟩) 1 1) [x] := by
  refine ⟨_, 1, rfl, by simp, by omega, .inr ⟨w.heap.size, 0, fun _ => .int .i32 (x : Int), rfl, hB, ?_, ?_⟩⟩
  · exact World.rowIs_alloc w #[.int .i32 (x : Int)] 21 _ (by
      intro i hi
      have : i = 0 := by simp at hi; omega
      subst this
      rfl)
  · intro i hi
    have : i = 0 := by simp at hi; omega
    subst this
    rfl

theorem QRow.head {w : World} {B x : Nat} {v : Value} {L : List Nat} (h : QRow w B v (x :: L)) :
    ∃ g o c, v = .slice (some ⟨g, o, none⟩) (L.length + 1) c ∧ L.length + 1 ≤ c ∧ c ≤ 9223372036854775807 ∧ w.cell? ⟨g, o, none⟩ = some (.int .i32 (x : Int)) ∧ B ≤ g ∧ g < w.heap.size := by
  obtain ⟨a, c, rfl, h1, h2, h3 | ⟨g, o, f, rfl, hb, hr, hf⟩⟩ := h
  · cases h3
  simp at h1
  refine ⟨g, o, c, rfl, h1, h2, ?_, hb, hr.lt⟩
  have := hr.cell (i := o) (by omega)
  rw [this]
  have := hf 0 (by simp)
  simpa using this

/-- 'queue = queue[1:]' -/
theorem QRow.tail {w : World} {B x g o c : Nat} {L : List Nat} (h : QRow w B (.slice (some ⟨g, o, none⟩) (L.length + 1) c) (x :: L)) (hL : L ≠ []) : QRow w B (.slice (some ⟨g, o + 1, none⟩) L.length (c - 1)) L := by
  obtain ⟨a, c', e, h1, h2, h3 | ⟨g', o', f, rfl, hb, hr, hf⟩⟩ := h
  · cases h3
  simp at e h1
  obtain ⟨⟨rfl, rfl⟩, rfl⟩ := e
  refine ⟨_, _, rfl, by omega, by omega, .inr ⟨g, o + 1, f, rfl, hb, ?_, fun i hi => ?_⟩⟩
  · rw [show o + 1 + (c - 1) = o + c by omega]; exact hr
  · have := hf (i + 1) (by simpa using hi)
    rw [show o + 1 + i = o + (i + 1) by omega, this]
    simp

theorem QRow.empty (w : World) (B : Nat) (a : Option Addr) (c : Nat) (hc : c ≤ 9223372036854775807) : QRow w B (.slice a 0 c) [] := ⟨a, c, rfl, Nat.zero_le _, hc, .inl rfl⟩

theorem QRow.push {w : World} {B y : Nat} {v : Value} {L : List Nat} (h : QRow w B v L) (hL : 0 < L.length) (hlen : L.length ≤ 65536) (hB : B ≤ w.heap.size) {ad : Addr} (hc : w.cell? ad = some (.int .i32 (y : Int))) :
    ∃ a' c' w', (Builtin.append_ #[22, 22] 22 #[v, .slice (some ad) 1 1]).run Try.prog w = .ok (.slice a' (L.length + 1) c') w' ∧ QRow w' B (.slice a' (L.length + 1) c') (L ++ [y]) ∧ w.grownBy w' v.ownBlock ∧
      ∀ g, (Value.slice a' (L.length + 1) c').ownBlock = some g → v.ownBlock = some g ∨ w.heap.size ≤ g := by
  obtain ⟨i21, hi21, hz0, hz1, hz2⟩ := info_parts Try.info21
  obtain ⟨a, c, rfl, h1, h2, h3 | ⟨g, o, f, rfl, hb, hr, hf⟩⟩ := h
  · subst h3; simp at hL
  have hnews : ∀ j u, [Value.int .i32 (y : Int)][j]? = some u → w.cell? (ad.add j) = some u := by
    intro j u hj
    match j, hj with
    | 0, hj => simp at hj; subst hj; rw [Addr.add_zero']; exact hc
  by_cases hroom : L.length + 1 ≤ c
  · have hrun := run_append_room_cells (P := Try.prog) w 22 22 21 i21 Try.underlying22 hi21 g o L.length c ad 1 1 [.int .i32 (y : Int)] (by rw [hz1]; rfl) hnews (by simp [Value.oneCell']) hroom
      (fun j hj => by
        have : j = 0 := by simp at hj; omega
        subst this
        rw [hz1, show o + L.length * 1 + 0 = o + L.length by omega, hr.cell (by omega)]; rfl)
      (fun j hj => hr.frozen _)
    have hw : w.setCells g (o + L.length * i21.size) [.int .i32 (y : Int)] = w.setCell ⟨g, o + L.length, none⟩ (.int .i32 (y : Int)) := by
      rw [hz1, Nat.mul_one]; rfl
    rw [hw] at hrun
    refine ⟨_, _, _, hrun, ⟨some ⟨g, o, none⟩, c, by simp, by simpa using hroom, h2, .inr ⟨g, o, _, rfl, hb, hr.set (o + L.length) _, fun i hi => ?_⟩⟩, ?_, fun g' e => .inl e⟩
    · simp at hi
      rcases Nat.lt_or_ge i L.length with hlt | hge
      · rw [if_neg (by omega), hf i hlt]
        simp only [List.getD, List.getElem?_append_left hlt]
      · have : i = L.length := by omega
        subst this
        simp [List.getD]
    · exact ⟨rfl, rfl, rfl, by simp [World.setCell], fun k hk hne => Deep.blk_setCell_other _ _ _ _ (fun e => hne (by simp [Value.ownBlock, e]))⟩
  · obtain ⟨olds, hol⟩ : ∃ olds : List Value, olds = L.map (fun x : Nat => Value.int .i32 (x : Int)) := ⟨_, rfl⟩
    have hrun := run_append_arg_grows (P := Try.prog) w 22 22 21 i21 (.int .i32 0) 1 4 Try.underlying22 hi21 hz0 hz1 hz2 rfl (by decide) ⟨g, o, none⟩ L.length c olds (by rw [hol]; simp)
      (fun j u hj => by
        have hlt : j < L.length := by
          have := (List.getElem?_eq_some_iff.1 hj).1
          rw [hol] at this; simpa using this
        rw [Addr.add_lit, hr.cell (by omega), hf j hlt]
        rw [hol, List.getElem?_map, List.getElem?_eq_getElem hlt] at hj
        simp at hj
        rw [← hj]
        simp [List.getD, List.getElem?_eq_getElem hlt]) ad 1 1 [.int .i32 (y : Int)] rfl hnews (by omega) (by unfold maxLen; omega) (by omega)
    obtain ⟨v', w', hall, ho, hg⟩ := hrun
    have hlt := ho.lt
    obtain ⟨e1, ⟨_, e2⟩ | ⟨g', cap', cur, rfl, hb', hg', hle, hm, hs, ht⟩⟩ := ho
    · omega
    refine ⟨_, _, _, hall, ⟨some ⟨g', 0, none⟩, cap', by simp, by simpa using hle, by simpa [maxLen] using hm, .inr ⟨g', 0, fun i => cur.getD i undef, rfl, by omega, ⟨cur, hg', by omega, fun i hi => by
      have hlt2 : i < cur.size := by omega
      simp only [Array.getD, hlt2, dite_true]
      exact Array.getElem?_eq_getElem hlt2⟩, fun i hi => ?_⟩⟩, ?_, fun g2 e => by simp [Value.ownBlock] at e; subst e; exact .inr hb'⟩
    · simp at hi
      have hcur : cur.toList[i]? = (olds ++ [.int .i32 (y : Int)])[i]? := by
        rw [← ht, List.getElem?_take, if_pos (by omega)]
      have hsz : i < cur.size := by omega
      have : cur.getD (0 + i) undef = (olds ++ [Value.int .i32 (y : Int)]).getD i undef := by
        simp only [Nat.zero_add, List.getD, ← hcur]
        simp [hsz]
      simp only [this, List.getD]
      rcases Nat.lt_or_ge i L.length with hl | hg2
      · rw [List.getElem?_append_left (by rw [hol]; simpa using hl), List.getElem?_append_left hl, hol, List.getElem?_map, List.getElem?_eq_getElem hl]
        simp
      · have : i = L.length := by omega
        subst this
        rw [List.getElem?_append_right (by rw [hol]; simp), hol]
        simp
    · exact ⟨hg.os, hg.tape, hg.output, hg.size, fun k hk _ => hg.block k hk (by simp)⟩

end Go.Proofs.Qxb6602859a
