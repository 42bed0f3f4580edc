/-
  Small laws over the model for whatever program: make and copy of a whole slice.
-/
import Derived.WalkKit
import Derived.WalkSpells
import Derived.WalkLawsBesides
import Derived.Laws.CopyOwn
import Derived.Deep.OwnRows
namespace Go.Proofs.Qxb6602709a.Kit
open Go.RowKit

theorem hid {p : Prop} (h : p) : Hid p := h

theorem setRow_alloc (w : World) (c cs : Array Value) (e : TypeId) : (w.alloc (.cells c e)).setRow w.heap.size cs = w.alloc (.cells cs e) := by
  unfold World.setRow World.alloc
  simp only [World.mk.injEq, and_true]
  apply Array.ext
  · simp
  · intro i h1 h2
    simp only [Array.getElem_modify, Array.getElem_push]
    have hs : i < w.heap.size ∨ i = w.heap.size := by simp at h2; omega
    rcases hs with h | h
    · rw [if_neg (by omega), dif_pos h]
      simp [h]
    · subst h
      simp

theorem run_clone_copy {P : Program} (w : World) (T e ty : TypeId) (x : Addr) (len cap : Nat) (z : Value) (f : Nat → Value)
    (hu : P.underlying T = some (.slice e)) (hs : (P.info? e).map (·.size) = some 1)
    (hsrc : ∀ i, i < len → w.cell? (x.add i) = some (f i)) (h1 : ∀ i, i < len → (f i).oneCell' = true) :
    (Builtin.copy_ #[T, T] ty #[.slice (some ⟨w.heap.size, 0, none⟩) len len, .slice (some x) len cap]).run P (w.alloc (.cells (madeCells #[z] len) e))
      = .ok (goInt len) (w.alloc (.cells ((List.range len).map f).toArray e)) := by
  have hb : Below w.heap.size w (w.alloc (.cells (madeCells #[z] len) e)) := (Below.refl _ _).alloc (Nat.le_refl _) _
  have h := run_copy_row (P := P) (w.alloc (.cells (madeCells #[z] len) e)) T T ty e w.heap.size 0 len len x len cap (madeCells #[z] len) e ((List.range len).map f) hu hs
    (Deep.blk_alloc_new _ _) (by simp) ?_ (by simp [size_madeCells]) ?_
  · rw [h, setRow_alloc]
    have hl : (madeCells #[z] len).toList.length = len := by simp [size_madeCells]
    simp [List.drop_eq_nil_of_le, size_madeCells]
  · intro j v hj
    have hlt : j < len := by
      have := (List.getElem?_eq_some_iff.1 hj).1
      simpa using this
    rw [List.getElem?_map, List.getElem?_range hlt] at hj
    simp at hj
    subst hj
    exact cell_later hb (hsrc j hlt)
  · intro v hv
    simp only [List.mem_map, List.mem_range] at hv
    obtain ⟨i, hi, rfl⟩ := hv
    exact h1 i hi

theorem rowIs_range (w : World) (e : TypeId) (len : Nat) (f : Nat → Value) : (w.alloc (.cells ((List.range len).map f).toArray e)).rowIs w.heap.size e len f := by
  have := World.rowIs_alloc w ((List.range len).map f).toArray e f (by
    intro i hi
    have hi' : i < len := by simpa using hi
    simp [hi'])
  simpa using this

end Go.Proofs.Qxb6602709a.Kit
