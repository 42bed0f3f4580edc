import Derived.Test.Qxb6602859aS2
import Derived.Deep.RegionHeld3
import Derived.Deep.AppendLies
import Derived.Deep.DrawnRows
namespace Go.Proofs.Qxb6602859a
open Go.RowKit Kit
set_option linter.unusedVariables false
set_option linter.unusedSimpArgs false

def cellsS (S : List Nat) : List Value := S.map fun x : Nat => Value.int .i32 (x : Int)
def flatF (F : List (Nat × Nat)) : List Value := F.flatMap fun f => [Value.int .i32 (f.1 : Int), Value.int .i32 (f.2 : Int)]

theorem cellsS_snoc (S : List Nat) (x : Nat) : cellsS (S ++ [x]) = cellsS S ++ [.int .i32 (x : Int)] := by simp [cellsS]
theorem flatF_snoc (F : List (Nat × Nat)) (f : Nat × Nat) : flatF (F ++ [f]) = flatF F ++ [.int .i32 (f.1 : Int), .int .i32 (f.2 : Int)] := by simp [flatF]
theorem flatF_len (F : List (Nat × Nat)) : (flatF F).length = F.length * 2 := by
  induction F with
  | nil => rfl
  | cons a F ih => simp [flatF] at ih ⊢; omega

theorem Kept.own {S : Nat → Prop} {w w' : World} {B n : Nat} {e : TypeId} {s : Nat} {v : Value} {xs : List Value} (h : Kept S w w') (ho : w.ownsRow B e s v n xs) (hs : ∀ g, v.ownBlock = some g → ¬ S g) : w'.ownsRow B e s v n xs := by
  obtain ⟨h1, h2 | ⟨g, cap, cur, rfl, hb, hg, rest⟩⟩ := ho
  · exact ⟨h1, .inl h2⟩
  · exact ⟨h1, .inr ⟨g, cap, cur, rfl, hb, (h.block g (Array.getElem?_eq_some_iff.1 hg).1 (hs g rfl)).trans hg, rest⟩⟩

theorem Kept.frozen {S : Nat → Prop} {w w' : World} (h : Kept S w w') {a : Addr} (hl : a.block < w.heap.size) (hc : w.frozen? a = false) (hs : ¬ S a.block) : w'.frozen? a = false :=
  (World.frozen?_of_block (w := w) (h.block a.block hl hs)).trans hc

theorem set_same {w : World} {a : Addr} {u v : Value} (h : w.cell? a = some u) : (w.setCell a v).cell? a = some v := World.cell?_setCell_same _ _ _ h

theorem Kept.set1 (w : World) (a : Addr) (v : Value) : Kept (fun g => g = a.block) w (w.setCell a v) := (Kept.refl (fun g => g = a.block) w).setCell (.inl rfl) v

/-- the memory of the search -/
structure TS (H gb n : Nat) (w wr : World) (ord low comp : Nat → Nat) (on : Nat → Bool) (sv fv : Value) (S : List Nat) (F : List (Nat × Nat)) (r : Nat) : Prop where
  bel : Below H w wr
  size : H + 11 ≤ wr.heap.size
  cG : wr.cell? ⟨H, 0, none⟩ = some (.pointer (some ⟨gb, 0, none⟩))
  cO : wr.cell? ⟨H + 2, 0, none⟩ = some (.slice (some ⟨H + 1, 0, none⟩) n n)
  cL : wr.cell? ⟨H + 4, 0, none⟩ = some (.slice (some ⟨H + 3, 0, none⟩) n n)
  cN : wr.cell? ⟨H + 7, 0, none⟩ = some (.slice (some ⟨H + 6, 0, none⟩) n n)
  cS : wr.cell? ⟨H + 8, 0, none⟩ = some (sv)
  cF : wr.cell? ⟨H + 9, 0, none⟩ = some (fv)
  cR : wr.cell? ⟨H + 10, 0, none⟩ = some (.int .i32 (r : Int))
  zS : wr.frozen? ⟨H + 8, 0, none⟩ = false
  zF : wr.frozen? ⟨H + 9, 0, none⟩ = false
  zR : wr.frozen? ⟨H + 10, 0, none⟩ = false
  rO : wr.rowIs (H + 1) 21 n (fun i => .int .i32 ((ord i : Nat) : Int))
  rL : wr.rowIs (H + 3) 21 n (fun i => .int .i32 ((low i : Nat) : Int))
  rC : wr.rowIs (H + 5) 21 n (fun i => .int .i32 ((comp i : Nat) : Int))
  rN : wr.rowIs (H + 6) 4 n (fun i => .bool (on i))
  oS : wr.ownsRow (H + 11) 21 1 sv S.length (cellsS S)
  oF : wr.ownsRow (H + 11) 60 2 fv F.length (flatF F)

section
variable {H gb n : Nat} {w wr : World} {ord low comp : Nat → Nat} {on : Nat → Bool} {sv fv : Value} {S : List Nat} {F : List (Nat × Nat)} {r : Nat}

theorem TS.blkS (h : TS H gb n w wr ord low comp on sv fv S F r) {g : Nat} (hg : sv.ownBlock = some g) : H + 11 ≤ g ∧ g < wr.heap.size := h.oS.lt g hg
theorem TS.blkF (h : TS H gb n w wr ord low comp on sv fv S F r) {g : Nat} (hg : fv.ownBlock = some g) : H + 11 ≤ g ∧ g < wr.heap.size := h.oF.lt g hg
theorem TS.apart (h : TS H gb n w wr ord low comp on sv fv S F r) {g : Nat} (hg : sv.ownBlock = some g) (hf : fv.ownBlock = some g) : False := by
  obtain ⟨_, ⟨rfl, _⟩ | ⟨g1, c1, u1, rfl, _, e1, _⟩⟩ := h.oS
  · simp [Value.ownBlock] at hg
  obtain ⟨_, ⟨rfl, _⟩ | ⟨g2, c2, u2, rfl, _, e2, _⟩⟩ := h.oF
  · simp [Value.ownBlock] at hf
  simp [Value.ownBlock] at hg hf
  subst hg
  subst hf
  rw [e1] at e2
  simp at e2

theorem rowIs_up {w : World} {g t n x : Nat} {f : Nat → Nat} {a : Nat} (h : w.rowIs g t n (fun i => .int .i32 ((f i : Nat) : Int))) : (w.setCell ⟨g, x, none⟩ (.int .i32 (a : Int))).rowIs g t n (fun i => .int .i32 ((up f x a i : Nat) : Int)) := by
  refine (h.set x _).congr (fun i hi => ?_)
  by_cases e : i = x
  · subst e; simp [up]
  · simp [up, e]

theorem rowIs_upB {w : World} {g t n x : Nat} {f : Nat → Bool} {a : Bool} (h : w.rowIs g t n (fun i => .bool (f i))) : (w.setCell ⟨g, x, none⟩ (.bool a)).rowIs g t n (fun i => .bool (up f x a i)) := by
  refine (h.set x _).congr (fun i hi => ?_)
  by_cases e : i = x
  · subst e; simp [up]
  · simp [up, e]

theorem TS.setR (h : TS H gb n w wr ord low comp on sv fv S F r) (q : Nat) {z : Int} (hz : z = (q : Int)) : TS H gb n w (wr.setCell ⟨H + 10, 0, none⟩ (.int .i32 z)) ord low comp on sv fv S F q := by
  subst hz
  have hk : Kept (fun g => g = H + 10) wr (wr.setCell ⟨H + 10, 0, none⟩ (.int .i32 (q : Int))) := Kept.set1 wr ⟨H + 10, 0, none⟩ (.int .i32 (q : Int))
  exact {
    bel := hk.below h.bel (by have := h.size; omega) (fun g (hg : g = H + 10) => by omega)
    size := Nat.le_trans h.size hk.size
    cG := hk.cell h.cG (show ¬ (H = H + 10) from by omega)
    cO := hk.cell h.cO (show ¬ (H + 2 = H + 10) from by omega)
    cL := hk.cell h.cL (show ¬ (H + 4 = H + 10) from by omega)
    cN := hk.cell h.cN (show ¬ (H + 7 = H + 10) from by omega)
    cS := hk.cell h.cS (show ¬ (H + 8 = H + 10) from by omega)
    cF := hk.cell h.cF (show ¬ (H + 9 = H + 10) from by omega)
    cR := set_same h.cR
    zS := hk.frozen (show H + 8 < wr.heap.size from by have := h.size; omega) h.zS (show ¬ (H + 8 = H + 10) from by omega)
    zF := hk.frozen (show H + 9 < wr.heap.size from by have := h.size; omega) h.zF (show ¬ (H + 9 = H + 10) from by omega)
    zR := by simpa [World.frozen?_setCell] using h.zR
    rO := hk.row h.rO (show ¬ (H + 1 = H + 10) from by omega)
    rL := hk.row h.rL (show ¬ (H + 3 = H + 10) from by omega)
    rC := hk.row h.rC (show ¬ (H + 5 = H + 10) from by omega)
    rN := hk.row h.rN (show ¬ (H + 6 = H + 10) from by omega)
    oS := hk.own h.oS (fun g hg => show ¬ (g = H + 10) from by have := h.blkS hg; omega)
    oF := hk.own h.oF (fun g hg => show ¬ (g = H + 10) from by have := h.blkF hg; omega) }

theorem TS.setO (h : TS H gb n w wr ord low comp on sv fv S F r) (x a : Nat) {z : Int} (hz : z = (a : Int)) : TS H gb n w (wr.setCell ⟨H + 1, x, none⟩ (.int .i32 z)) (up ord x a) low comp on sv fv S F r := by
  subst hz
  have hk : Kept (fun g => g = H + 1) wr (wr.setCell ⟨H + 1, x, none⟩ (.int .i32 (a : Int))) := Kept.set1 wr ⟨H + 1, x, none⟩ (.int .i32 (a : Int))
  exact {
    bel := hk.below h.bel (by have := h.size; omega) (fun g (hg : g = H + 1) => by omega)
    size := Nat.le_trans h.size hk.size
    cG := hk.cell h.cG (show ¬ (H = H + 1) from by omega)
    cO := hk.cell h.cO (show ¬ (H + 2 = H + 1) from by omega)
    cL := hk.cell h.cL (show ¬ (H + 4 = H + 1) from by omega)
    cN := hk.cell h.cN (show ¬ (H + 7 = H + 1) from by omega)
    cS := hk.cell h.cS (show ¬ (H + 8 = H + 1) from by omega)
    cF := hk.cell h.cF (show ¬ (H + 9 = H + 1) from by omega)
    cR := hk.cell h.cR (show ¬ (H + 10 = H + 1) from by omega)
    zS := hk.frozen (show H + 8 < wr.heap.size from by have := h.size; omega) h.zS (show ¬ (H + 8 = H + 1) from by omega)
    zF := hk.frozen (show H + 9 < wr.heap.size from by have := h.size; omega) h.zF (show ¬ (H + 9 = H + 1) from by omega)
    zR := hk.frozen (show H + 10 < wr.heap.size from by have := h.size; omega) h.zR (show ¬ (H + 10 = H + 1) from by omega)
    rO := rowIs_up h.rO
    rL := hk.row h.rL (show ¬ (H + 3 = H + 1) from by omega)
    rC := hk.row h.rC (show ¬ (H + 5 = H + 1) from by omega)
    rN := hk.row h.rN (show ¬ (H + 6 = H + 1) from by omega)
    oS := hk.own h.oS (fun g hg => show ¬ (g = H + 1) from by have := h.blkS hg; omega)
    oF := hk.own h.oF (fun g hg => show ¬ (g = H + 1) from by have := h.blkF hg; omega) }

theorem TS.setL (h : TS H gb n w wr ord low comp on sv fv S F r) (x a : Nat) {z : Int} (hz : z = (a : Int)) : TS H gb n w (wr.setCell ⟨H + 3, x, none⟩ (.int .i32 z)) ord (up low x a) comp on sv fv S F r := by
  subst hz
  have hk : Kept (fun g => g = H + 3) wr (wr.setCell ⟨H + 3, x, none⟩ (.int .i32 (a : Int))) := Kept.set1 wr ⟨H + 3, x, none⟩ (.int .i32 (a : Int))
  exact {
    bel := hk.below h.bel (by have := h.size; omega) (fun g (hg : g = H + 3) => by omega)
    size := Nat.le_trans h.size hk.size
    cG := hk.cell h.cG (show ¬ (H = H + 3) from by omega)
    cO := hk.cell h.cO (show ¬ (H + 2 = H + 3) from by omega)
    cL := hk.cell h.cL (show ¬ (H + 4 = H + 3) from by omega)
    cN := hk.cell h.cN (show ¬ (H + 7 = H + 3) from by omega)
    cS := hk.cell h.cS (show ¬ (H + 8 = H + 3) from by omega)
    cF := hk.cell h.cF (show ¬ (H + 9 = H + 3) from by omega)
    cR := hk.cell h.cR (show ¬ (H + 10 = H + 3) from by omega)
    zS := hk.frozen (show H + 8 < wr.heap.size from by have := h.size; omega) h.zS (show ¬ (H + 8 = H + 3) from by omega)
    zF := hk.frozen (show H + 9 < wr.heap.size from by have := h.size; omega) h.zF (show ¬ (H + 9 = H + 3) from by omega)
    zR := hk.frozen (show H + 10 < wr.heap.size from by have := h.size; omega) h.zR (show ¬ (H + 10 = H + 3) from by omega)
    rO := hk.row h.rO (show ¬ (H + 1 = H + 3) from by omega)
    rL := rowIs_up h.rL
    rC := hk.row h.rC (show ¬ (H + 5 = H + 3) from by omega)
    rN := hk.row h.rN (show ¬ (H + 6 = H + 3) from by omega)
    oS := hk.own h.oS (fun g hg => show ¬ (g = H + 3) from by have := h.blkS hg; omega)
    oF := hk.own h.oF (fun g hg => show ¬ (g = H + 3) from by have := h.blkF hg; omega) }

theorem TS.setC (h : TS H gb n w wr ord low comp on sv fv S F r) (x a : Nat) {z : Int} (hz : z = (a : Int)) : TS H gb n w (wr.setCell ⟨H + 5, x, none⟩ (.int .i32 z)) ord low (up comp x a) on sv fv S F r := by
  subst hz
  have hk : Kept (fun g => g = H + 5) wr (wr.setCell ⟨H + 5, x, none⟩ (.int .i32 (a : Int))) := Kept.set1 wr ⟨H + 5, x, none⟩ (.int .i32 (a : Int))
  exact {
    bel := hk.below h.bel (by have := h.size; omega) (fun g (hg : g = H + 5) => by omega)
    size := Nat.le_trans h.size hk.size
    cG := hk.cell h.cG (show ¬ (H = H + 5) from by omega)
    cO := hk.cell h.cO (show ¬ (H + 2 = H + 5) from by omega)
    cL := hk.cell h.cL (show ¬ (H + 4 = H + 5) from by omega)
    cN := hk.cell h.cN (show ¬ (H + 7 = H + 5) from by omega)
    cS := hk.cell h.cS (show ¬ (H + 8 = H + 5) from by omega)
    cF := hk.cell h.cF (show ¬ (H + 9 = H + 5) from by omega)
    cR := hk.cell h.cR (show ¬ (H + 10 = H + 5) from by omega)
    zS := hk.frozen (show H + 8 < wr.heap.size from by have := h.size; omega) h.zS (show ¬ (H + 8 = H + 5) from by omega)
    zF := hk.frozen (show H + 9 < wr.heap.size from by have := h.size; omega) h.zF (show ¬ (H + 9 = H + 5) from by omega)
    zR := hk.frozen (show H + 10 < wr.heap.size from by have := h.size; omega) h.zR (show ¬ (H + 10 = H + 5) from by omega)
    rO := hk.row h.rO (show ¬ (H + 1 = H + 5) from by omega)
    rL := hk.row h.rL (show ¬ (H + 3 = H + 5) from by omega)
    rC := rowIs_up h.rC
    rN := hk.row h.rN (show ¬ (H + 6 = H + 5) from by omega)
    oS := hk.own h.oS (fun g hg => show ¬ (g = H + 5) from by have := h.blkS hg; omega)
    oF := hk.own h.oF (fun g hg => show ¬ (g = H + 5) from by have := h.blkF hg; omega) }

theorem TS.setN (h : TS H gb n w wr ord low comp on sv fv S F r) (x : Nat) (a : Bool) : TS H gb n w (wr.setCell ⟨H + 6, x, none⟩ (.bool a)) ord low comp (up on x a) sv fv S F r := by
  have hk : Kept (fun g => g = H + 6) wr (wr.setCell ⟨H + 6, x, none⟩ (.bool a)) := Kept.set1 wr ⟨H + 6, x, none⟩ (.bool a)
  exact {
    bel := hk.below h.bel (by have := h.size; omega) (fun g (hg : g = H + 6) => by omega)
    size := Nat.le_trans h.size hk.size
    cG := hk.cell h.cG (show ¬ (H = H + 6) from by omega)
    cO := hk.cell h.cO (show ¬ (H + 2 = H + 6) from by omega)
    cL := hk.cell h.cL (show ¬ (H + 4 = H + 6) from by omega)
    cN := hk.cell h.cN (show ¬ (H + 7 = H + 6) from by omega)
    cS := hk.cell h.cS (show ¬ (H + 8 = H + 6) from by omega)
    cF := hk.cell h.cF (show ¬ (H + 9 = H + 6) from by omega)
    cR := hk.cell h.cR (show ¬ (H + 10 = H + 6) from by omega)
    zS := hk.frozen (show H + 8 < wr.heap.size from by have := h.size; omega) h.zS (show ¬ (H + 8 = H + 6) from by omega)
    zF := hk.frozen (show H + 9 < wr.heap.size from by have := h.size; omega) h.zF (show ¬ (H + 9 = H + 6) from by omega)
    zR := hk.frozen (show H + 10 < wr.heap.size from by have := h.size; omega) h.zR (show ¬ (H + 10 = H + 6) from by omega)
    rO := hk.row h.rO (show ¬ (H + 1 = H + 6) from by omega)
    rL := hk.row h.rL (show ¬ (H + 3 = H + 6) from by omega)
    rC := hk.row h.rC (show ¬ (H + 5 = H + 6) from by omega)
    rN := rowIs_upB h.rN
    oS := hk.own h.oS (fun g hg => show ¬ (g = H + 6) from by have := h.blkS hg; omega)
    oF := hk.own h.oF (fun g hg => show ¬ (g = H + 6) from by have := h.blkF hg; omega) }

theorem TS.kept0 (h : TS H gb n w wr ord low comp on sv fv S F r) {w2 : World} (hk : Kept (fun _ => False) wr w2) : TS H gb n w w2 ord low comp on sv fv S F r := by
  exact {
    bel := hk.below h.bel (by have := h.size; omega) (fun g hg => hg.elim)
    size := Nat.le_trans h.size hk.size
    cG := hk.cell h.cG (fun e => e)
    cO := hk.cell h.cO (fun e => e)
    cL := hk.cell h.cL (fun e => e)
    cN := hk.cell h.cN (fun e => e)
    cS := hk.cell h.cS (fun e => e)
    cF := hk.cell h.cF (fun e => e)
    cR := hk.cell h.cR (fun e => e)
    zS := hk.frozen (show H + 8 < wr.heap.size from by have := h.size; omega) h.zS (fun e => e)
    zF := hk.frozen (show H + 9 < wr.heap.size from by have := h.size; omega) h.zF (fun e => e)
    zR := hk.frozen (show H + 10 < wr.heap.size from by have := h.size; omega) h.zR (fun e => e)
    rO := hk.row h.rO (fun e => e)
    rL := hk.row h.rL (fun e => e)
    rC := hk.row h.rC (fun e => e)
    rN := hk.row h.rN (fun e => e)
    oS := hk.own h.oS (fun g hg e => e)
    oF := hk.own h.oF (fun g hg e => e) }

theorem TS.alloc (h : TS H gb n w wr ord low comp on sv fv S F r) (o : Obj) : TS H gb n w (wr.alloc o) ord low comp on sv fv S F r := h.kept0 (Kept.of_below (below_alloc0 wr o))

theorem TS.drewN (h : TS H gb n w wr ord low comp on sv fv S F r) (q : Nat) : TS H gb n w (wr.drewN q) ord low comp on sv fv S F r := h.kept0 ((Kept.refl _ _).drewN q)

theorem TS.drew (h : TS H gb n w wr ord low comp on sv fv S F r) : TS H gb n w wr.drew ord low comp on sv fv S F r := h.kept0 ((Kept.refl _ _).drew)

/-- the stack has grown -/
theorem TS.pushS (h : TS H gb n w wr ord low comp on sv fv S F r) {w2 : World} {sv' : Value} {S' : List Nat} (hg : wr.grownBy w2 sv.ownBlock) (ho : w2.ownsRow (H + 11) 21 1 sv' S'.length (cellsS S')) :
    TS H gb n w (w2.setCell ⟨H + 8, 0, none⟩ sv') ord low comp on sv' fv S' F r := by
  have hk : Kept (fun g => g = H + 8 ∨ sv.ownBlock = some g) wr (w2.setCell ⟨H + 8, 0, none⟩ sv') := (Kept.grown hg (fun g e => .inr e)).setCell (.inl (.inl rfl)) sv'
  have nS : ∀ k, k < 11 → ¬ sv.ownBlock = some (H + k) := fun k hk e => by have := h.blkS e; omega
  have nF : ∀ g, fv.ownBlock = some g → ¬ (g = H + 8 ∨ sv.ownBlock = some g) := fun g hf e => by
    rcases e with e | e
    · have := h.blkF hf; omega
    · exact h.apart e hf
  have c8 : w2.cell? ⟨H + 8, 0, none⟩ = some sv := (Kept.grown (S := fun g => sv.ownBlock = some g) hg (fun g e => e)).cell h.cS (nS 8 (by omega))
  have z8 : w2.frozen? ⟨H + 8, 0, none⟩ = false := (Kept.grown (S := fun g => sv.ownBlock = some g) hg (fun g e => e)).frozen (show H + 8 < wr.heap.size from by have := h.size; omega) h.zS (nS 8 (by omega))
  exact {
    bel := hk.below h.bel (by have := h.size; omega) (fun g hg => hg.elim (fun e => by omega) (fun e => by have := h.blkS e; omega))
    size := Nat.le_trans h.size hk.size
    cG := hk.cell h.cG (fun e => e.elim (show ¬ (H = H + 8) from by omega) (nS 0 (by omega)))
    cO := hk.cell h.cO (fun e => e.elim (show ¬ (H + 2 = H + 8) from by omega) (nS 2 (by omega)))
    cL := hk.cell h.cL (fun e => e.elim (show ¬ (H + 4 = H + 8) from by omega) (nS 4 (by omega)))
    cN := hk.cell h.cN (fun e => e.elim (show ¬ (H + 7 = H + 8) from by omega) (nS 7 (by omega)))
    cS := set_same c8
    cF := hk.cell h.cF (fun e => e.elim (show ¬ (H + 9 = H + 8) from by omega) (nS 9 (by omega)))
    cR := hk.cell h.cR (fun e => e.elim (show ¬ (H + 10 = H + 8) from by omega) (nS 10 (by omega)))
    zS := by simpa [World.frozen?_setCell] using z8
    zF := hk.frozen (show H + 9 < wr.heap.size from by have := h.size; omega) h.zF (fun e => e.elim (show ¬ (H + 9 = H + 8) from by omega) (nS 9 (by omega)))
    zR := hk.frozen (show H + 10 < wr.heap.size from by have := h.size; omega) h.zR (fun e => e.elim (show ¬ (H + 10 = H + 8) from by omega) (nS 10 (by omega)))
    rO := hk.row h.rO (fun e => e.elim (show ¬ (H + 1 = H + 8) from by omega) (nS 1 (by omega)))
    rL := hk.row h.rL (fun e => e.elim (show ¬ (H + 3 = H + 8) from by omega) (nS 3 (by omega)))
    rC := hk.row h.rC (fun e => e.elim (show ¬ (H + 5 = H + 8) from by omega) (nS 5 (by omega)))
    rN := hk.row h.rN (fun e => e.elim (show ¬ (H + 6 = H + 8) from by omega) (nS 6 (by omega)))
    oS := (Kept.set1 w2 ⟨H + 8, 0, none⟩ sv').own ho (fun g hg => show ¬ (g = H + 8) from by have := ho.lt g hg; omega)
    oF := hk.own h.oF nF }

/-- the frames have grown, or turned -/
theorem TS.pushF (h : TS H gb n w wr ord low comp on sv fv S F r) {w2 : World} {fv' : Value} {F' : List (Nat × Nat)} (hg : wr.grownBy w2 fv.ownBlock) (ho : w2.ownsRow (H + 11) 60 2 fv' F'.length (flatF F')) :
    TS H gb n w (w2.setCell ⟨H + 9, 0, none⟩ fv') ord low comp on sv fv' S F' r := by
  have hk : Kept (fun g => g = H + 9 ∨ fv.ownBlock = some g) wr (w2.setCell ⟨H + 9, 0, none⟩ fv') := (Kept.grown hg (fun g e => .inr e)).setCell (.inl (.inl rfl)) fv'
  have nS : ∀ k, k < 11 → ¬ fv.ownBlock = some (H + k) := fun k hk e => by have := h.blkF e; omega
  have nF : ∀ g, sv.ownBlock = some g → ¬ (g = H + 9 ∨ fv.ownBlock = some g) := fun g hf e => by
    rcases e with e | e
    · have := h.blkS hf; omega
    · exact h.apart hf e
  have c8 : w2.cell? ⟨H + 9, 0, none⟩ = some fv := (Kept.grown (S := fun g => fv.ownBlock = some g) hg (fun g e => e)).cell h.cF (nS 9 (by omega))
  have z8 : w2.frozen? ⟨H + 9, 0, none⟩ = false := (Kept.grown (S := fun g => fv.ownBlock = some g) hg (fun g e => e)).frozen (show H + 9 < wr.heap.size from by have := h.size; omega) h.zF (nS 9 (by omega))
  exact {
    bel := hk.below h.bel (by have := h.size; omega) (fun g hg => hg.elim (fun e => by omega) (fun e => by have := h.blkF e; omega))
    size := Nat.le_trans h.size hk.size
    cG := hk.cell h.cG (fun e => e.elim (show ¬ (H = H + 9) from by omega) (nS 0 (by omega)))
    cO := hk.cell h.cO (fun e => e.elim (show ¬ (H + 2 = H + 9) from by omega) (nS 2 (by omega)))
    cL := hk.cell h.cL (fun e => e.elim (show ¬ (H + 4 = H + 9) from by omega) (nS 4 (by omega)))
    cN := hk.cell h.cN (fun e => e.elim (show ¬ (H + 7 = H + 9) from by omega) (nS 7 (by omega)))
    cS := hk.cell h.cS (fun e => e.elim (show ¬ (H + 8 = H + 9) from by omega) (nS 8 (by omega)))
    cF := set_same c8
    cR := hk.cell h.cR (fun e => e.elim (show ¬ (H + 10 = H + 9) from by omega) (nS 10 (by omega)))
    zS := hk.frozen (show H + 8 < wr.heap.size from by have := h.size; omega) h.zS (fun e => e.elim (show ¬ (H + 8 = H + 9) from by omega) (nS 8 (by omega)))
    zF := by simpa [World.frozen?_setCell] using z8
    zR := hk.frozen (show H + 10 < wr.heap.size from by have := h.size; omega) h.zR (fun e => e.elim (show ¬ (H + 10 = H + 9) from by omega) (nS 10 (by omega)))
    rO := hk.row h.rO (fun e => e.elim (show ¬ (H + 1 = H + 9) from by omega) (nS 1 (by omega)))
    rL := hk.row h.rL (fun e => e.elim (show ¬ (H + 3 = H + 9) from by omega) (nS 3 (by omega)))
    rC := hk.row h.rC (fun e => e.elim (show ¬ (H + 5 = H + 9) from by omega) (nS 5 (by omega)))
    rN := hk.row h.rN (fun e => e.elim (show ¬ (H + 6 = H + 9) from by omega) (nS 6 (by omega)))
    oS := hk.own h.oS nF
    oF := (Kept.set1 w2 ⟨H + 9, 0, none⟩ fv').own ho (fun g hg => show ¬ (g = H + 9) from by have := ho.lt g hg; omega) }

end

end Go.Proofs.Qxb6602859a
