/-
  A map with bool elements that the call itself has made and into which only true is written: told by which keys it holds and how many. Laws over whatever program.
-/
import Derived.WalkKit
import Derived.WalkSpells
import Derived.WalkLawsBesides
import Derived.Maps.OwnSet
import Derived.Maps.OwnOps
import Derived.Maps.AppendAt
import Derived.Laws.CopyOwn
import Derived.Deep.OwnRows
namespace Go.Proofs.Qxb6602859a.Kit
open Go.RowKit
open Go.Maps (Keyed)

theorem hid {p : Prop} (h : p) : Hid p := h

theorem plainElem_bool_inv {H : Type} {P : Program} {e : TypeId} (he : P.underlying e = some .bool) {v : Value} {z : DataW H × List MemPlace} (h : plainElem P e v = some z) : ∃ x, v = .bool x ∧ z = (.lit (.bool x), []) := by
  unfold plainElem at h
  rw [he] at h
  cases v <;> simp at h
  subst h
  exact ⟨_, rfl, rfl⟩

/-- Block b is a map of bools, all true; it holds the keys that 'mem' says, sz in number. -/
def IsSet {K : Type} (ky : K → Lit) (w : World) (P : Program) (kt et : TypeId) (b n : Nat) (mem : K → Bool) (sz : Nat) : Prop :=
  ∃ D : DataW Unit, w.ownsMap P kt (plainElem P et) b n D ∧ (∀ x, Maps.has D (ky x) = mem x) ∧ (∀ x z, D.atKey (ky x) z = if mem x then .lit (.bool true) else z) ∧ Maps.size D = sz

section
variable {K : Type} {ky : K → Lit} {P : Program} {kt et : TypeId} {w : World} {b n sz : Nat} {mem : K → Bool}

theorem IsSet.made (w : World) : IsSet ky (w.alloc (.map #[] 0)) P kt et w.heap.size 0 (fun _ => false) 0 :=
  ⟨.map [], World.ownsMap_made _ _ _ _, fun _ => rfl, fun _ _ => rfl, rfl⟩

theorem IsSet.kept {w' : World} {row : Option Nat} (h : IsSet ky w P kt et b n mem sz) (hg : w.grownBy w' row) (hne : some b ≠ row) : IsSet ky w' P kt et b n mem sz := by
  obtain ⟨D, ho, h1, h2, h3⟩ := h
  exact ⟨D, ho.kept hg hne, h1, h2, h3⟩

theorem IsSet.lt (h : IsSet ky w P kt et b n mem sz) : b < w.heap.size := by
  obtain ⟨D, ho, _⟩ := h
  exact ho.lt

theorem IsSet.below {w' : World} {B : Nat} (h : IsSet ky w P kt et b n mem sz) (hb : Below B w w') (hB : b < B) : IsSet ky w' P kt et b n mem sz := by
  obtain ⟨D, ho, h1, h2, h3⟩ := h
  obtain ⟨es, clock, hh, r⟩ := ho
  exact ⟨D, ⟨es, clock, (hb.block b hB).trans hh, r⟩, h1, h2, h3⟩

theorem IsSet.alloc (h : IsSet ky w P kt et b n mem sz) (o : Obj) : IsSet ky (w.alloc o) P kt et b n mem sz := h.kept (World.grownBy_alloc w o none) (by simp)

theorem IsSet.drewN (h : IsSet ky w P kt et b n mem sz) (k : Nat) : IsSet ky (w.drewN k) P kt et b n mem sz := h.kept (row := none) ⟨rfl, rfl, rfl, Nat.le_refl _, fun _ _ _ => rfl⟩ (by simp)

theorem IsSet.setCell (h : IsSet ky w P kt et b n mem sz) {a : Addr} (ha : b ≠ a.block) (u : Value) : IsSet ky (w.setCell a u) P kt et b n mem sz := by
  obtain ⟨D, ho, h1, h2, h3⟩ := h
  exact ⟨D, ho.setCell ha u, h1, h2, h3⟩

theorem IsSet.mono (h : IsSet ky w P kt et b n mem sz) {n' : Nat} (hn : n ≤ n') : IsSet ky w P kt et b n' mem sz := by
  obtain ⟨D, ho, h1, h2, h3⟩ := h
  exact ⟨D, ho.mono hn, h1, h2, h3⟩

theorem IsSet.congr (h : IsSet ky w P kt et b n mem sz) {mem' : K → Bool} {sz' : Nat} (hm : ∀ x, mem x = mem' x) (hs : sz = sz') : IsSet ky w P kt et b n mem' sz' := by
  obtain ⟨D, ho, h1, h2, h3⟩ := h
  exact ⟨D, ho, fun x => (h1 x).trans (hm x), fun x z => by rw [h2 x z, hm x], h3.trans hs⟩

theorem IsSet.look (h : IsSet ky w P kt et b n mem sz) (KK : Keyed P kt) {t : TypeId} (ht : P.underlying t = some (.map kt et)) (he : P.underlying et = some .bool) (hz : (zeroValue et).run P w = .ok (.bool false) w)
    {key : Value} {x : K} (hkey : keyOf P kt key = some (ky x)) : (Instr.lookup t (.map (some b)) key false).run P w = .ok (.bool (mem x)) w := by
  obtain ⟨D, ho, h1, h2, h3⟩ := h
  obtain ⟨v, ps, hrun, hv⟩ := ho.lookup KK ht hz (plainElem_bool he false) hkey
  obtain ⟨y, rfl, hy⟩ := plainElem_bool_inv he hv
  rw [hrun]
  have := congrArg Prod.fst hy
  simp only [h2] at this
  cases hm : mem x
  · rw [hm] at this; simp at this; rw [← this]
  · rw [hm] at this; simp at this; rw [← this]

theorem IsSet.put (h : IsSet ky w P kt et b n mem sz) (KK : Keyed P kt) {t : TypeId} (ht : P.underlying t = some (.map kt et)) (he : P.underlying et = some .bool) (hn : n < maxLen)
    [DecidableEq K] (hinj : ∀ x y, ky x = ky y → x = y) (hlit : ∀ x, WideAt.IsKeyLit (ky x))
    {key : Value} {x : K} (hkey : keyOf P kt key = some (ky x)) :
    ∃ w', (Instr.mapUpdate t (.map (some b)) key (.bool true)).run P w = .ok () w' ∧ IsSet ky w' P kt et b (n + 1) (fun y => decide (y = x) || mem y) (if mem x then sz else sz + 1) ∧ w.grownBy w' (some b) := by
  obtain ⟨D, ho, h1, h2, h3⟩ := h
  obtain ⟨w', hrun, ho', hg⟩ := ho.update KK ht hn hkey (plainElem_bool he true)
  refine ⟨w', hrun, ⟨_, ho', ?_, ?_, ?_⟩, hg⟩
  · intro y
    by_cases hy : y = x
    · subst hy; simp [Maps.has_put_same ho.isMap (hlit y)]
    · rw [Maps.has_put_other (fun e => hy (hinj _ _ e)), h1 y]; simp [hy]
  · intro y z
    by_cases hy : y = x
    · subst hy; simp [Maps.atKey_put_same ho.isMap (hlit y)]
    · rw [Maps.atKey_put_other (fun e => hy (hinj _ _ e)), h2 y z]; simp [hy]
  · rw [Maps.size_put (ho.tidy KK), h1 x, h3]

theorem IsSet.len (h : IsSet ky w P kt et b n mem sz) {t : TypeId} (ht : P.underlying t = some (.map kt et)) (ty : TypeId) : (Builtin.len_ #[t] ty #[.map (some b)]).run P w = .ok (.int .i64 sz) w := by
  obtain ⟨D, ho, h1, h2, h3⟩ := h
  rw [ho.len ht ty, h3]

end

/-- 'm[k]' at the operation. -/
theorem wpList_look_set {K : Type} {ky : K → Lit} {P : Program} (w : World) {ops : Array Oper} {rest : List Oper} {o : Oper} {a : Act} {Q : Exit → Act → World → Prop}
    (hg : o.guard = none) (m x : Operand) (t : TypeId) (hop : o.op = Op.lookup t m x false)
    (kt et : TypeId) (KK : Keyed P kt) (ht : P.underlying t = some (.map kt et)) (he : P.underlying et = some .bool) (hz : (zeroValue et).run P w = .ok (.bool false) w) (b n sz : Nat) (mem : K → Bool)
    (hm : a.eval m = .map (some b)) (hown : IsSet ky w P kt et b n mem sz) (key : Value) (kx : K) (hx : a.eval x = key) (hkey : keyOf P kt key = some (ky kx))
    (hK : wpList P ops Q rest (a.put o.dst (.bool (mem kx))) w) : wpList P ops Q (o :: rest) a w := by
  refine wpList_plain hg fun K' hK' => ?_
  have hrun := hown.look KK ht he hz hkey
  unfold Oper.wp
  simp [execOp, hop, hm, hx, hrun, Result.andThen]
  exact hK' _ _ hK

/-- 'm[k] = true' at the operation. -/
theorem wpList_put_set {K : Type} [DecidableEq K] {ky : K → Lit} {P : Program} (w : World) {ops : Array Oper} {rest : List Oper} {o : Oper} {a : Act} {Q : Exit → Act → World → Prop}
    (hg : o.guard = none) (m x v : Operand) (t : TypeId) (hop : o.op = Op.mapUpdate t m x v)
    (kt et : TypeId) (KK : Keyed P kt) (ht : P.underlying t = some (.map kt et)) (he : P.underlying et = some .bool) (hinj : ∀ x y, ky x = ky y → x = y) (hlit : ∀ x, WideAt.IsKeyLit (ky x)) (b n sz : Nat) (mem : K → Bool)
    (hm : a.eval m = .map (some b)) (hown : IsSet ky w P kt et b n mem sz) (hn : n < maxLen) (key : Value) (kx : K) (hx : a.eval x = key) (hv : a.eval v = .bool true) (hkey : keyOf P kt key = some (ky kx))
    (hK : ∀ w', IsSet ky w' P kt et b (n + 1) (fun y => decide (y = kx) || mem y) (if mem kx then sz else sz + 1) → w.grownBy w' (some b) → wpList P ops Q rest (a.put o.dst undef) w') :
    wpList P ops Q (o :: rest) a w := by
  refine wpList_plain hg fun K' hK' => ?_
  obtain ⟨w', hrun, r1, r2⟩ := hown.put KK ht he hn hinj hlit hkey
  unfold Oper.wp
  simp [execOp, hop, hm, hx, hv, hrun, Result.andThen]
  exact hK' _ _ (hK w' r1 r2)

theorem run_makeMap_some {P : Program} (t kt et : TypeId) (ht : P.underlying t = some (.map kt et)) (q : IntKind) (z : Int) (w : World) : (Instr.makeMap t (some (.int q z))).run P w = .ok (.map (some w.heap.size)) (w.alloc (.map #[] 0)) := by
  simp [Instr.makeMap, run_underlying ht, asInt]
  rfl

theorem setRow_alloc (w : World) (c cs : Array Value) (e : TypeId) : (w.alloc (.cells c e)).setRow w.heap.size cs = w.alloc (.cells cs e) := by
  unfold World.setRow World.alloc
  simp only [World.mk.injEq, and_true]
  apply Array.ext
  · simp
  · intro i h1 h2
    simp only [Array.getElem_modify, Array.getElem_push]
    have hs : i < w.heap.size ∨ i = w.heap.size := by simp at h2; omega
    rcases hs with h | h
    · rw [if_neg (by omega), dif_pos h]
      simp [h]
    · subst h
      simp

theorem run_clone_copy {P : Program} (w : World) (T e ty : TypeId) (x : Addr) (len cap : Nat) (z : Value) (f : Nat → Value)
    (hu : P.underlying T = some (.slice e)) (hs : (P.info? e).map (·.size) = some 1)
    (hsrc : ∀ i, i < len → w.cell? (x.add i) = some (f i)) (h1 : ∀ i, i < len → (f i).oneCell' = true) :
    (Builtin.copy_ #[T, T] ty #[.slice (some ⟨w.heap.size, 0, none⟩) len len, .slice (some x) len cap]).run P (w.alloc (.cells (madeCells #[z] len) e))
      = .ok (goInt len) (w.alloc (.cells ((List.range len).map f).toArray e)) := by
  have hb : Below w.heap.size w (w.alloc (.cells (madeCells #[z] len) e)) := (Below.refl _ _).alloc (Nat.le_refl _) _
  have h := run_copy_row (P := P) (w.alloc (.cells (madeCells #[z] len) e)) T T ty e w.heap.size 0 len len x len cap (madeCells #[z] len) e ((List.range len).map f) hu hs
    (Deep.blk_alloc_new _ _) (by simp) ?_ (by simp [size_madeCells]) ?_
  · rw [h, setRow_alloc]
    have hl : (madeCells #[z] len).toList.length = len := by simp [size_madeCells]
    simp [List.drop_eq_nil_of_le, size_madeCells]
  · intro j v hj
    have hlt : j < len := by
      have := (List.getElem?_eq_some_iff.1 hj).1
      simpa using this
    rw [List.getElem?_map, List.getElem?_range hlt] at hj
    simp at hj
    subst hj
    exact cell_later hb (hsrc j hlt)
  · intro v hv
    simp only [List.mem_map, List.mem_range] at hv
    obtain ⟨i, hi, rfl⟩ := hv
    exact h1 i hi

theorem rowIs_range (w : World) (e : TypeId) (len : Nat) (f : Nat → Value) : (w.alloc (.cells ((List.range len).map f).toArray e)).rowIs w.heap.size e len f := by
  have := World.rowIs_alloc w ((List.range len).map f).toArray e f (by
    intro i hi
    have hi' : i < len := by simpa using hi
    simp [hi'])
  simpa using this

end Go.Proofs.Qxb6602859a.Kit
