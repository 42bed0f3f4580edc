import Derived.Test.Qxb6602859aS4
import Derived.Test.Qxb6602859aR3
namespace Go.Proofs.Qxb6602859a
open Go.RowKit Kit
set_option linter.unusedVariables false
set_option linter.unusedSimpArgs false

/-- what is known of the numbers of a graph -/
structure GF (n nt nk : Nat) (off : Nat → Nat) (tz : Nat → Int) (T : Nat → Nat) : Prop where
  small : n ≤ 65536
  mono : ∀ x, x < n → off x ≤ off (x + 1)
  le1 : off n ≤ nt
  le2 : off n ≤ nk
  nt : nt ≤ 65536
  nk : nk ≤ 65536
  tgt : ∀ e, off 0 ≤ e → e < off n → tz e = ((T e : Nat) : Int) ∧ T e < n

theorem GF.le {n nt nk : Nat} {off : Nat → Nat} {tz : Nat → Int} {T : Nat → Nat} (h : GF n nt nk off tz T) : ∀ {y x : Nat}, x ≤ y → y ≤ n → off x ≤ off y := by
  intro y
  induction y with
  | zero => intro x hx _; have e : x = 0 := by omega
            rw [e]; exact Nat.le_refl _
  | succ y ih =>
    intro x hx hy
    by_cases e : x = y + 1
    · subst e; exact Nat.le_refl _
    · exact Nat.le_trans (ih (by omega) (by omega)) (h.mono y (by omega))

theorem GF.wf {n nt nk : Nat} {off : Nat → Nat} {tz : Nat → Int} {T : Nat → Nat} (h : GF n nt nk off tz T) : WF n off T :=
  ⟨h.mono, fun x hx e h1 h2 => (h.tgt e (Nat.le_trans (h.le (Nat.zero_le x) (by omega)) h1) (Nat.lt_of_lt_of_le h2 (h.le (x := x + 1) (by omega) (Nat.le_refl _)))).2⟩

def kmB (kz : Nat → Int) (m : Int) (e : Nat) : Bool := !(bits .and .u8 (kz e) m == 0)

/-- what the search for components hands back -/
def CompOut (n : Nat) (off T : Nat → Nat) (km : Nat → Bool) (w : World) (e : Ending) (w' : World) : Prop :=
  ∃ (cb : Nat) (comp : Nat → Nat), e = .returned (.slice (some ⟨cb, 0, none⟩) n n) ∧ Below w.heap.size w w' ∧ w.heap.size ≤ cb ∧ w'.rowIs cb 21 n (fun i => .int .i32 ((comp i : Nat) : Int)) ∧
      ∀ x y, x < n → y < n → (comp x = comp y ↔ Reach (Ed n off T km) x y ∧ Reach (Ed n off T km) y x)

/-- the first loop's body in a text -/
def firstLoop : Code → Option Code
  | .loop c => some c
  | .seq a b => match firstLoop a with
    | some c => some c
    | none => firstLoop b
  | .block _ c => firstLoop c
  | .scope c => firstLoop c
  | .cond _ a b => match firstLoop a with
    | some c => some c
    | none => firstLoop b
  | _ => none
def L1 (f : Func) : Code := (f.body.bind firstLoop).getD .skip
def L2 (f : Func) : Code := (firstLoop (L1 f)).getD .skip
def L3 (f : Func) : Code := (firstLoop (L2 f)).getD .skip

/-- the frame of 'components' while it searches: what is known of the slots, g the rest -/
def FR (H gb n : Nat) (m : Int) (cv rv : Value) (g : Nat → Value) : Act := ⟨#[.pointer (some ⟨gb, 0, none⟩), .int .u8 m, .pointer (some ⟨H, 0, none⟩), g 3, g 4, .pointer (some ⟨H + 2, 0, none⟩), .pointer (some ⟨H + 4, 0, none⟩), .slice (some ⟨H + 5, 0, none⟩) n n, .pointer (some ⟨H + 7, 0, none⟩), .pointer (some ⟨H + 8, 0, none⟩), .pointer (some ⟨H + 9, 0, none⟩), .pointer (some ⟨H + 10, 0, none⟩), cv, .func (.func 30) #[] #[.pointer (some ⟨H + 10, 0, none⟩), .pointer (some ⟨H + 2, 0, none⟩), .pointer (some ⟨H + 4, 0, none⟩), .pointer (some ⟨H + 8, 0, none⟩), .pointer (some ⟨H + 7, 0, none⟩), .pointer (some ⟨H + 9, 0, none⟩), .pointer (some ⟨H, 0, none⟩)], g 14, g 15, g 16, g 17, g 18, g 19, g 20, g 21, g 22, g 23, g 24, g 25, g 26, g 27, g 28, g 29, g 30, g 31, g 32, g 33, g 34, g 35, g 36, g 37, g 38, g 39, g 40, g 41, g 42, g 43, g 44, g 45, .int .i32 (n : Int), rv, g 48, g 49, g 50, g 51, g 52, g 53, g 54, g 55, g 56, g 57, g 58, g 59, g 60, g 61, g 62, g 63, g 64, g 65, g 66, g 67, g 68, g 69, g 70, g 71, g 72, g 73, g 74, g 75, g 76, g 77, g 78, g 79, g 80, g 81, g 82, g 83, g 84, g 85, g 86, g 87, g 88, g 89, g 90, g 91, g 92, g 93, g 94, g 95, g 96, g 97, g 98, g 99, g 100, g 101, g 102, g 103, g 104, g 105, g 106, g 107, g 108, g 109, g 110, g 111, g 112, g 113, g 114, g 115, g 116, g 117, g 118, g 119, g 120, g 121, g 122, g 123, g 124, g 125, g 126, g 127, g 128, g 129, g 130, g 131, g 132, g 133, g 134, g 135, g 136, g 137, g 138, g 139, g 140, g 141, g 142, g 143, g 144, g 145, g 146, g 147, g 148, g 149, g 150, g 151, g 152, g 153, g 154, g 155, g 156, g 157, g 158, g 159, g 160, g 161, g 162, g 163, g 164, g 165, g 166, g 167, g 168, g 169, g 170, g 171, g 172, g 173, g 174, g 175, g 176, g 177, g 178, g 179, g 180, g 181, g 182, g 183, g 184, g 185, g 186, g 187, g 188, g 189, g 190, g 191, g 192, g 193, g 194, g 195, g 196, g 197, g 198, g 199, g 200, g 201], []⟩

def Fits (H gb n : Nat) (m : Int) (cv rv : Value) (a : Act) : Prop := a = FR H gb n m cv rv (fun i => a.tmps.getD i undef)

theorem ownF_top {w : World} {B e0 x y a : Nat} {v : Value} {A : List (Nat × Nat)} (h : w.ownsRow B 60 2 v (A ++ [(x, y)]).length (flatF (A ++ [(x, y)]))) (ha : A.length = a) :
    ∃ g cap, v = .slice (some ⟨g, 0, none⟩) (a + 1) cap ∧ a + 1 ≤ cap ∧ cap ≤ 9223372036854775807 ∧ w.cell? ⟨g, a * 2, none⟩ = some (.int .i32 (x : Int)) ∧ w.cell? ⟨g, a * 2 + 1, none⟩ = some (.int .i32 (y : Int)) ∧ w.frozen? ⟨g, a * 2 + 1, none⟩ = false ∧ B ≤ g ∧ g < w.heap.size := by
  have hl : (A ++ [(x, y)]).length = a + 1 := by simp [ha]
  have hfl : (flatF A).length = a * 2 := by rw [flatF_len, ha]
  rw [hl] at h
  have hlt := h.lt
  have hh := h
  obtain ⟨h1, ⟨_, h0⟩ | ⟨g, cap, cur, rfl, hb, hg, hle, hm, hs, ht⟩⟩ := h
  · omega
  have hcell := fun j hj => hh.cellAt j hj
  refine ⟨g, cap, rfl, hle, by simpa [maxLen] using hm, ?_, ?_, ?_, hlt g rfl⟩
  · have := hcell (a * 2) (by omega)
    rw [this, flatF_snoc, List.getElem?_append_right (by omega), hfl]; simp
  · have := hcell (a * 2 + 1) (by omega)
    rw [this, flatF_snoc, List.getElem?_append_right (by omega), hfl]
    rw [show a * 2 + 1 - a * 2 = 1 by omega]; simp
  · simp [World.frozen?, hg]

theorem own_shrink {w : World} {B e s g n cap : Nat} {xs ys : List Value} (h : w.ownsRow B e s (.slice (some ⟨g, 0, none⟩) (n + 1) cap) (n + 1) (xs ++ ys)) (hy : ys.length = s) : w.ownsRow B e s (.slice (some ⟨g, 0, none⟩) n cap) n xs := by
  obtain ⟨h1, ⟨h2, _⟩ | ⟨g', cap', cur, e1, hb, hg, hle, hm, hs, ht⟩⟩ := h
  · simp at h2
  simp only [Value.slice.injEq, Option.some.injEq, Addr.mk.injEq, and_true, true_and] at e1
  obtain ⟨rfl, rfl⟩ := e1
  have hx : xs.length = n * s := by
    rw [List.length_append, hy, Nat.add_mul] at h1; omega
  refine ⟨hx, .inr ⟨g, cap, cur, rfl, hb, hg, by omega, hm, hs, ?_⟩⟩
  have : cur.toList.take (n * s) = ((cur.toList.take ((n + 1) * s)).take (n * s)) := by
    rw [List.take_take, Nat.min_eq_left (Nat.mul_le_mul_right s (by omega))]
  rw [this, ht, ← hx, List.take_left]

theorem grown_refl (w : World) (row : Option Nat) : w.grownBy w row := ⟨rfl, rfl, rfl, Nat.le_refl _, fun _ _ _ => rfl⟩

section
variable {H gb n : Nat} {w wr : World} {ord low comp : Nat → Nat} {on : Nat → Bool} {sv fv : Value} {S : List Nat} {F : List (Nat × Nat)} {r : Nat}

theorem TS.popF {fg a cap : Nat} {A : List (Nat × Nat)} {f : Nat × Nat} (h : TS H gb n w wr ord low comp on sv (.slice (some ⟨fg, 0, none⟩) (a + 1) cap) S (A ++ [f]) r) (ha : A.length = a) :
    TS H gb n w (wr.setCell ⟨H + 9, 0, none⟩ (.slice (some ⟨fg, 0, none⟩) a cap)) ord low comp on sv (.slice (some ⟨fg, 0, none⟩) a cap) S A r := by
  refine h.pushF (grown_refl _ _) ?_
  have ho := h.oF
  rw [flatF_snoc] at ho
  rw [show (A ++ [f]).length = A.length + 1 by simp] at ho
  subst ha
  exact own_shrink ho rfl

theorem TS.popS {sg a cap : Nat} {A : List Nat} {x : Nat} (h : TS H gb n w wr ord low comp on (.slice (some ⟨sg, 0, none⟩) (a + 1) cap) fv (A ++ [x]) F r) (ha : A.length = a) :
    TS H gb n w (wr.setCell ⟨H + 8, 0, none⟩ (.slice (some ⟨sg, 0, none⟩) a cap)) ord low comp on (.slice (some ⟨sg, 0, none⟩) a cap) fv A F r := by
  refine h.pushS (grown_refl _ _) ?_
  have ho := h.oS
  rw [cellsS_snoc] at ho
  rw [show (A ++ [x]).length = A.length + 1 by simp] at ho
  subst ha
  exact own_shrink ho rfl

theorem flatF_set (A : List (Nat × Nat)) (v e : Nat) (z : Value) : (flatF (A ++ [(v, e)])).set (A.length * 2 + 1) z = flatF A ++ [.int .i32 (v : Int), z] := by
  rw [flatF_snoc, ← flatF_len, List.set_append_right _ _ (by omega)]
  simp

theorem TS.nextF {fg a cap : Nat} {A : List (Nat × Nat)} {v e : Nat} (h : TS H gb n w wr ord low comp on sv (.slice (some ⟨fg, 0, none⟩) (a + 1) cap) S (A ++ [(v, e)]) r) (ha : A.length = a) {z : Int} (hz : z = ((e + 1 : Nat) : Int)) :
    TS H gb n w (wr.setCell ⟨fg, a * 2 + 1, none⟩ (.int .i32 z)) ord low comp on sv (.slice (some ⟨fg, 0, none⟩) (a + 1) cap) S (A ++ [(v, e + 1)]) r := by
  subst hz
  have hb := h.blkF (g := fg) rfl
  have hk : Kept (fun g => g = fg) wr (wr.setCell ⟨fg, a * 2 + 1, none⟩ (.int .i32 ((e + 1 : Nat) : Int))) := Kept.set1 wr ⟨fg, a * 2 + 1, none⟩ _
  have hoF : (wr.setCell ⟨fg, a * 2 + 1, none⟩ (.int .i32 ((e + 1 : Nat) : Int))).ownsRow (H + 11) 60 2 (.slice (some ⟨fg, 0, none⟩) (a + 1) cap) (A ++ [(v, e + 1)]).length (flatF (A ++ [(v, e + 1)])) := by
    have ho := h.oF
    have e1 : (A ++ [(v, e)]).length = a + 1 := by simp [ha]
    have e2 : (A ++ [(v, e + 1)]).length = a + 1 := by simp [ha]
    rw [e1] at ho
    rw [e2]
    have h2 := (ho.stored (a * 2 + 1) (.int .i32 ((e + 1 : Nat) : Int))).1
    rw [← ha, flatF_set, ha] at h2
    rw [flatF_snoc]
    exact h2
  exact {
    bel := hk.below h.bel (by have := h.size; omega) (fun g (hg : g = fg) => by omega)
    size := Nat.le_trans h.size hk.size
    cG := hk.cell h.cG (show ¬ (H = fg) from by omega)
    cO := hk.cell h.cO (show ¬ (H + 2 = fg) from by omega)
    cL := hk.cell h.cL (show ¬ (H + 4 = fg) from by omega)
    cN := hk.cell h.cN (show ¬ (H + 7 = fg) from by omega)
    cS := hk.cell h.cS (show ¬ (H + 8 = fg) from by omega)
    cF := hk.cell h.cF (show ¬ (H + 9 = fg) from by omega)
    cR := hk.cell h.cR (show ¬ (H + 10 = fg) from by omega)
    zS := hk.frozen (show H + 8 < wr.heap.size from by have := h.size; omega) h.zS (show ¬ (H + 8 = fg) from by omega)
    zF := hk.frozen (show H + 9 < wr.heap.size from by have := h.size; omega) h.zF (show ¬ (H + 9 = fg) from by omega)
    zR := hk.frozen (show H + 10 < wr.heap.size from by have := h.size; omega) h.zR (show ¬ (H + 10 = fg) from by omega)
    rO := hk.row h.rO (show ¬ (H + 1 = fg) from by omega)
    rL := hk.row h.rL (show ¬ (H + 3 = fg) from by omega)
    rC := hk.row h.rC (show ¬ (H + 5 = fg) from by omega)
    rN := hk.row h.rN (show ¬ (H + 6 = fg) from by omega)
    oS := hk.own h.oS (fun g hg (e : g = fg) => h.apart hg (by rw [e]; rfl))
    oF := hoF }
end


end Go.Proofs.Qxb6602859a
