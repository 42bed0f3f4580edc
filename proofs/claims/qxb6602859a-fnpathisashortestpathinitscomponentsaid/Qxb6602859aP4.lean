import Derived.Test.Qxb6602859aP3
namespace Go.Proofs.Qxb6602859a
open Go.RowKit Kit
set_option linter.unusedVariables false

theorem Try.info3 : (Try.prog.info? 3).map (fun i => (i.zero, i.size, i.bytes)) = some (some (.int .i64 0), 1, 8) := by kernel_rfl
theorem law3 : Maps.Keyed Try.prog 3 := Maps.int_keyed Try.underlying3
theorem zero4 (w : World) : (zeroValue 4).run Try.prog w = .ok (.bool false) w := by kernel_rfl
theorem lit_inj : ∀ x y : Int, Lit.int .i64 x = Lit.int .i64 y → x = y := fun x y h => by cases h; rfl
theorem lit_key : ∀ x : Int, WideAt.IsKeyLit (Lit.int .i64 x) := fun x => by simp [WideAt.IsKeyLit]
theorem key3 {x : Int} (h0 : -9223372036854775808 ≤ x) (h1 : x ≤ 9223372036854775807) : keyOf Try.prog 3 (.int .i64 x) = some (.int .i64 x) :=
  Maps.keyOf_int_mk Try.underlying3 (by simp [Lit.wf, IntKind.min, IntKind.max, IntKind.signed, IntKind.bits]; omega)

/-- a set of ints -/
def SetI (w : World) (b n : Nat) (mem : Int → Bool) : Prop := ∃ sz, IsSet (Lit.int .i64) w Try.prog 3 4 b n mem sz

theorem SetI.made (w : World) : SetI (w.alloc (.map #[] 0)) w.heap.size 0 (fun _ => false) := ⟨0, IsSet.made w⟩
theorem SetI.lt {w : World} {b n : Nat} {mem : Int → Bool} (h : SetI w b n mem) : b < w.heap.size := h.elim fun _ h => h.lt
theorem SetI.kept {S : Nat → Prop} {w w' : World} {b n : Nat} {mem : Int → Bool} (h : SetI w b n mem) (hk : Kept S w w') (hs : ¬ S b) : SetI w' b n mem := by
  obtain ⟨sz, h⟩ := h
  refine ⟨sz, ?_⟩
  have hlt := h.lt
  obtain ⟨D, ⟨es, clock, hh, r⟩, h3⟩ := h
  exact ⟨D, ⟨es, clock, (hk.block b hlt hs).trans hh, r⟩, h3⟩
theorem SetI.congr {w : World} {b n : Nat} {mem mem' : Int → Bool} (h : SetI w b n mem) (e : ∀ x, mem x = mem' x) : SetI w b n mem' := h.elim fun sz h => ⟨sz, h.congr e rfl⟩
theorem SetI.look {w : World} {b n : Nat} {mem : Int → Bool} (h : SetI w b n mem) {x : Int} (h0 : -9223372036854775808 ≤ x) (h1 : x ≤ 9223372036854775807) :
    (Instr.lookup 66 (.map (some b)) (.int .i64 x) false).run Try.prog w = .ok (.bool (mem x)) w := h.elim fun _ h => h.look law3 (t := 66) Try.underlying66 Try.underlying4 (zero4 _) (key3 h0 h1)

theorem wpList_put_setI (w : World) {ops : Array Oper} {rest : List Oper} {o : Oper} {a : Act} {Q : Exit → Act → World → Prop}
    (hg : o.guard = none) (m x v : Operand) (hop : o.op = Op.mapUpdate 66 m x v) (b n : Nat) (mem : Int → Bool)
    (hm : a.eval m = .map (some b)) (hown : SetI w b n mem) (hn : n < maxLen) (kx : Int) (hx : a.eval x = .int .i64 kx) (hv : a.eval v = .bool true) (h0 : -9223372036854775808 ≤ kx) (h1 : kx ≤ 9223372036854775807)
    (hK : ∀ w', SetI w' b (n + 1) (fun y => decide (y = kx) || mem y) → w.grownBy w' (some b) → wpList Try.prog ops Q rest (a.put o.dst undef) w') :
    wpList Try.prog ops Q (o :: rest) a w := by
  obtain ⟨sz, hown⟩ := hown
  exact wpList_put_set w hg m x v 66 hop 3 4 law3 Try.underlying66 Try.underlying4 lit_inj lit_key b n sz mem hm hown hn _ kx hx hv (key3 h0 h1) (fun w' h g => hK w' ⟨_, h⟩ g)

/-- which numbers are among the first k -/
def memI (r : Nat → Nat) : Nat → Int → Bool
  | 0, _ => false
  | k + 1, y => decide (y = (r k : Int)) || memI r k y

theorem memI_iff (r : Nat → Nat) (x : Nat) : ∀ k, memI r k (x : Int) = true ↔ ∃ i, i < k ∧ r i = x
  | 0 => by simp [memI]
  | k + 1 => by
    simp only [memI, Bool.or_eq_true, decide_eq_true_eq, memI_iff r x k]
    constructor
    · rintro (h | ⟨i, hi, h⟩)
      · exact ⟨k, by omega, by omega⟩
      · exact ⟨i, by omega, h⟩
    · rintro ⟨i, hi, h⟩
      rcases Nat.lt_or_ge i k with h1 | h1
      · exact .inr ⟨i, h1, h⟩
      · obtain rfl : i = k := by omega
        exact .inl (by omega)

/-- appenders that are readers too, and the others, among the first k -/
def pick (b : Bool) (r : Nat → Nat) (nr : Nat) (a : Nat → Nat) (k : Nat) : List Nat := ((List.range k).map a).filter fun x => memI r nr (x : Int) == b

theorem pick_succ (b : Bool) (r : Nat → Nat) (nr : Nat) (a : Nat → Nat) (k : Nat) : pick b r nr a (k + 1) = pick b r nr a k ++ (if memI r nr (a k : Int) == b then [a k] else []) := by
  unfold pick
  rw [List.range_succ, List.map_append, List.filter_append]
  simp [List.filter_cons]

theorem pick_hit {b : Bool} {r : Nat → Nat} {nr : Nat} {a : Nat → Nat} {k : Nat} (h : memI r nr (a k : Int) = b) : pick b r nr a (k + 1) = pick b r nr a k ++ [a k] := by
  rw [pick_succ, h]; simp
theorem pick_miss {b : Bool} {r : Nat → Nat} {nr : Nat} {a : Nat → Nat} {k : Nat} (h : memI r nr (a k : Int) = !b) : pick b r nr a (k + 1) = pick b r nr a k := by
  rw [pick_succ, h]; cases b <;> simp
theorem pick_len (b : Bool) (r : Nat → Nat) (nr : Nat) (a : Nat → Nat) (k : Nat) : (pick b r nr a k).length ≤ k := by
  unfold pick
  have := List.length_filter_le (fun x : Nat => memI r nr (x : Int) == b) ((List.range k).map a)
  simpa using this
theorem pick_mem {b : Bool} {r : Nat → Nat} {nr : Nat} {a : Nat → Nat} {k x : Nat} : x ∈ pick b r nr a k ↔ (∃ i, i < k ∧ a i = x) ∧ memI r nr (x : Int) = b := by
  unfold pick
  simp [List.mem_filter]

theorem Row.kept {S : Nat → Prop} {w w' : World} {t : TypeId} {v : Value} {n : Nat} {f : Nat → Value} (h : Row w t v n f) (hk : Kept S w w') (hs : ∀ g c, v = .slice (some ⟨g, 0, none⟩) n c → ¬ S g) : Row w' t v n f := by
  obtain ⟨a, c, rfl, h1, h2, h⟩ := h
  refine ⟨a, c, rfl, h1, h2, ?_⟩
  rcases h with h | ⟨g, rfl, hr⟩
  · exact .inl h
  · exact .inr ⟨g, rfl, hk.row hr (hs g c rfl)⟩

/-- the ints of a list as cells -/
def cellsI (L : List Nat) : List Value := L.map fun x : Nat => Value.int .i64 (x : Int)

theorem own3_shape {w : World} {B n : Nat} {v : Value} {xs : List Value} (h : w.ownsRow B 3 1 v (n + 1) xs) : ∃ g cap, v = .slice (some ⟨g, 0, none⟩) (n + 1) cap ∧ n + 1 ≤ cap ∧ cap ≤ maxLen := by
  obtain ⟨_, ⟨_, h0⟩ | ⟨g, cap, cur, rfl, _, _, h1, h2, _⟩⟩ := h
  · omega
  · exact ⟨g, cap, rfl, h1, h2⟩

theorem own3_slice {w : World} {B n : Nat} {v : Value} {xs : List Value} (h : w.ownsRow B 3 1 v n xs) : ∃ a cap, v = .slice a n cap ∧ n ≤ cap ∧ cap ≤ maxLen := by
  obtain ⟨_, ⟨rfl, h0⟩ | ⟨g, cap, cur, rfl, _, _, h1, h2, _⟩⟩ := h
  · exact ⟨none, 0, by rw [h0], by omega, by unfold maxLen; omega⟩
  · exact ⟨_, cap, rfl, h1, h2⟩

theorem own3_same {w w' : World} {B n : Nat} {v : Value} {xs : List Value} (h : w.ownsRow B 3 1 v n xs) (hb : ∀ g, v.ownBlock = some g → g < w.heap.size → w'.heap[g]? = w.heap[g]?) : w'.ownsRow B 3 1 v n xs := by
  obtain ⟨hl, h | ⟨g, cap, cur, rfl, hB, hg, r⟩⟩ := h
  · exact ⟨hl, .inl h⟩
  · exact ⟨hl, .inr ⟨g, cap, cur, rfl, hB, (hb g rfl (Array.getElem?_eq_some_iff.1 hg).1).trans hg, r⟩⟩

theorem own3_lt {w : World} {B n g : Nat} {v : Value} {xs : List Value} (h : w.ownsRow B 3 1 v n xs) (hg : v.ownBlock = some g) : g < w.heap.size ∧ B ≤ g := by
  obtain ⟨hl, ⟨rfl, _⟩ | ⟨g', cap, cur, rfl, hB, hg', r⟩⟩ := h
  · cases hg
  · cases hg; exact ⟨(Array.getElem?_eq_some_iff.1 hg').1, hB⟩

/-- a cell of such a list -/
theorem own3_cell {w : World} {B n : Nat} {v : Value} {L : List Nat} (h : w.ownsRow B 3 1 v n (cellsI L)) : n = L.length ∧ ∀ i, i < L.length → ∃ g c, v = .slice (some ⟨g, 0, none⟩) L.length c ∧ w.cell? ⟨g, i, none⟩ = some (.int .i64 ((L.getD i 0 : Nat) : Int)) := by
  obtain ⟨hl, h⟩ := h
  have hn : n = L.length := by simpa [cellsI] using hl.symm
  subst hn
  refine ⟨rfl, fun i hi => ?_⟩
  rcases h with ⟨rfl, h0⟩ | ⟨g, cap, cur, rfl, hB, hg, h1, h2, h3, h4⟩
  · omega
  · refine ⟨g, cap, rfl, ?_⟩
    unfold World.cell?
    simp only [hg]
    have hi' : i < cur.toList.length := by simp; omega
    have e : (cur.toList.take (L.length * 1))[i]? = some (.int .i64 ((L[i] : Nat) : Int)) := by rw [h4]; simp [cellsI, hi]
    rw [List.getElem?_take_of_lt (by omega)] at e
    rw [List.getD_eq_getElem?_getD, List.getElem?_eq_getElem hi]
    simpa using e

/-- a chain of adds since w2 -/
structure Ch (X : Nat → Prop) (bb : Nat) (w2 wr : World) (ev0 ev : Value) : Prop where
  kept : Kept (fun g => SB bb ev0 g ∨ X g) w2 wr
  loc : Loc w2 ev0 ev

theorem Ch.refl (X : Nat → Prop) (bb : Nat) (w : World) (ev : Value) : Ch X bb w w ev ev := ⟨Kept.refl _ _, .inl rfl⟩

theorem Ch.add {X : Nat → Prop} {bb : Nat} {w2 wr w3 : World} {ev0 ev ev' : Value} (h : Ch X bb w2 wr ev0 ev) (hk : Kept (SB bb ev) wr w3) (hl : Loc wr ev ev') : Ch X bb w2 w3 ev0 ev' := by
  refine ⟨h.kept.trans' hk (fun g hg hs => ?_), ?_⟩
  · rcases hs with rfl | hs
    · exact .inl (.inl rfl)
    · rcases h.loc with e | ⟨g', e, hle⟩
      · exact .inl (.inr (by rw [← e]; exact hs))
      · rw [e] at hs; cases hs; omega
  · rcases hl with e | ⟨g, e, hg⟩
    · rcases h.loc with e' | ⟨g', e', hg'⟩
      · exact .inl (e.trans e')
      · exact .inr ⟨g', e.trans e', hg'⟩
    · exact .inr ⟨g, e, Nat.le_trans h.kept.size hg⟩

theorem Ch.other {X : Nat → Prop} {bb : Nat} {w2 wr w3 : World} {ev0 ev : Value} (h : Ch X bb w2 wr ev0 ev) {S : Nat → Prop} (hk : Kept S wr w3) (hS : ∀ g, g < w2.heap.size → S g → X g) : Ch X bb w2 w3 ev0 ev :=
  ⟨h.kept.trans' hk (fun g hg hs => .inr (hS g hg hs)), h.loc⟩

/-- what add may turn since w2, seen from wr: never a block of w2 that is neither the builder nor its first row -/
theorem Ch.notSB {X : Nat → Prop} {bb : Nat} {w2 wr : World} {ev0 ev : Value} (h : Ch X bb w2 wr ev0 ev) {g : Nat} (hg : g < w2.heap.size) (hn : ¬ SB bb ev0 g) : ¬ SB bb ev g := by
  rintro (rfl | e)
  · exact hn (.inl rfl)
  · rcases h.loc with e' | ⟨g', e', hle⟩
    · exact hn (.inr (by rw [← e']; exact e))
    · rw [e'] at e; cases e; omega

end Go.Proofs.Qxb6602859a
