import Derived.Test.Qxb6602859aP1
namespace Go.Proofs.Qxb6602859a
open Go.RowKit Kit
set_option linter.unusedVariables false

theorem Try.info53 : (Try.prog.info? 53).map (fun i => (i.zero, i.size, i.bytes)) = some (some (.agg #[.int .i32 0, .int .i32 0, .int .u8 0]), 3, 12) := by kernel_rfl

/-- a slice value of n cells, f i at place i, in a row of its own or nil -/
def Row (w : World) (t : TypeId) (v : Value) (n : Nat) (f : Nat → Value) : Prop :=
  ∃ a c, v = .slice a n c ∧ n ≤ c ∧ c ≤ 9223372036854775807 ∧ (n = 0 ∨ ∃ g, a = some ⟨g, 0, none⟩ ∧ w.rowIs g t n f)

abbrev Edge := Int × Int × Int
def flat (E : List Edge) : List Value := E.flatMap fun e => [.int .i32 e.1, .int .i32 e.2.1, .int .u8 e.2.2]

/-- a builder at block bb -/
structure BS (w : World) (B bb : Nat) (cv : Value) (N : Int) (ev : Value) (E : List Edge) : Prop where
  c0 : w.cell? ⟨bb, 0, none⟩ = some cv
  c1 : w.cell? ⟨bb, 1, none⟩ = some (.int .i64 N)
  c2 : w.cell? ⟨bb, 2, none⟩ = some ev
  f1 : w.frozen? ⟨bb, 1, none⟩ = false
  f2 : w.frozen? ⟨bb, 2, none⟩ = false
  own : w.ownsRow B 53 3 ev E.length (flat E)
  ne : ev.ownBlock ≠ some bb
  base : B ≤ w.heap.size

/-- of the blocks of w only those in S may have turned -/
structure Kept (S : Nat → Prop) (w w' : World) : Prop where
  os : w'.os = w.os
  tape : w'.tape = w.tape
  output : w'.output = w.output
  size : w.heap.size ≤ w'.heap.size
  block : ∀ g, g < w.heap.size → ¬ S g → w'.heap[g]? = w.heap[g]?

theorem Kept.refl (S : Nat → Prop) (w : World) : Kept S w w := ⟨rfl, rfl, rfl, Nat.le_refl _, fun _ _ _ => rfl⟩
theorem Kept.trans {S : Nat → Prop} {a b c : World} (h : Kept S a b) (k : Kept S b c) : Kept S a c :=
  ⟨k.os.trans h.os, k.tape.trans h.tape, k.output.trans h.output, Nat.le_trans h.size k.size, fun g hg hs => (k.block g (Nat.lt_of_lt_of_le hg h.size) hs).trans (h.block g hg hs)⟩
/-- a second step may also turn what is new since the first world -/
theorem Kept.trans' {S S' : Nat → Prop} {a b c : World} (h : Kept S a b) (k : Kept S' b c) (hS : ∀ g, g < a.heap.size → S' g → S g) : Kept S a c :=
  ⟨k.os.trans h.os, k.tape.trans h.tape, k.output.trans h.output, Nat.le_trans h.size k.size, fun g hg hs => (k.block g (Nat.lt_of_lt_of_le hg h.size) (fun e => hs (hS g hg e))).trans (h.block g hg hs)⟩
theorem Kept.of_below {S : Nat → Prop} {w w' : World} (h : Below w.heap.size w w') : Kept S w w' := ⟨h.os, h.tape, h.output, h.size, fun g hg _ => h.block g hg⟩
theorem Kept.below {S : Nat → Prop} {w0 w w' : World} {B : Nat} (h : Kept S w w') (hb : Below B w0 w) (hB : B ≤ w.heap.size) (hS : ∀ g, S g → B ≤ g) : Below B w0 w' :=
  hb.trans ⟨h.os, h.tape, h.output, h.size, fun g hg => h.block g (by omega) (fun e => by have := hS g e; omega)⟩
theorem Kept.grown {S : Nat → Prop} {w w' : World} {row : Option Nat} (h : w.grownBy w' row) (hr : ∀ g, row = some g → S g) : Kept S w w' :=
  ⟨h.os, h.tape, h.output, h.size, fun g hg hs => h.block g hg (fun e => hs (hr g e.symm))⟩
theorem Kept.setCell {S : Nat → Prop} {w w' : World} (h : Kept S w w') {a : Addr} (ha : S a.block ∨ w.heap.size ≤ a.block) (v : Value) : Kept S w (w'.setCell a v) :=
  ⟨h.os, h.tape, h.output, by simp [World.setCell]; exact h.size, fun g hg hs => by
    rw [Deep.blk_setCell_other _ _ _ _ (fun e => by
      rcases ha with ha | ha
      · exact hs (by rw [e]; exact ha)
      · omega)]
    exact h.block g hg hs⟩
theorem Kept.drewN {S : Nat → Prop} {w w' : World} (h : Kept S w w') (q : Nat) : Kept S w (w'.drewN q) := ⟨h.os, h.tape, h.output, h.size, h.block⟩
theorem Kept.cell {S : Nat → Prop} {w w' : World} (h : Kept S w w') {a : Addr} {v : Value} (hc : w.cell? a = some v) (hs : ¬ S a.block) : w'.cell? a = some v :=
  (World.cell?_of_block (w := w) (h.block a.block (World.block_lt_of_cell? _ _ hc) hs)).trans hc
theorem Kept.row {S : Nat → Prop} {w w' : World} (h : Kept S w w') {g n : Nat} {t : TypeId} {f : Nat → Value} (hr : w.rowIs g t n f) (hs : ¬ S g) : w'.rowIs g t n f :=
  hr.of_block (h.block g hr.lt hs)

set_option maxHeartbeats 400000 in
theorem virtual_any (bb : Nat) (N : Int) (w : World) (h0 : 0 ≤ N) (h1 : N ≤ 2147483647) (c1 : w.cell? ⟨bb, 1, none⟩ = some (.int .i64 N)) (f1 : w.frozen? ⟨bb, 1, none⟩ = false) :
    Calls Try.prog 32 #[.pointer (some ⟨bb, 0, none⟩)] w fun e w' => e = .returned (.int .i64 N) ∧ w' = w.setCell ⟨bb, 1, none⟩ (.int .i64 (N + 1)) := by
  go_enter Try.func32, Try.ntmps32
  go_wp2
  go_ret
  exact ⟨by simp, rfl⟩

theorem Row.parts {w : World} {t : TypeId} {v : Value} {n : Nat} {f : Nat → Value} (h : Row w t v n f) : ∃ a c, v = .slice a n c ∧ n ≤ c ∧ c ≤ 9223372036854775807 ∧ ∀ i, i < n → ∃ g, a = some ⟨g, 0, none⟩ ∧ w.cell? ⟨g, i, none⟩ = some (f i) := by
  obtain ⟨a, c, rfl, h1, h2, h⟩ := h
  refine ⟨a, c, rfl, h1, h2, fun i hi => ?_⟩
  obtain ⟨g, rfl, hr⟩ := h.resolve_left (by omega)
  exact ⟨g, rfl, hr.cell hi⟩

/-- may an edge be added: the ends differ and neither is a transaction that is not committed -/
def good (C : Nat → Bool) (n u v : Nat) : Prop := u ≠ v ∧ (u < n → C u = true) ∧ (v < n → C v = true)

set_option maxHeartbeats 400000 in
theorem add_skip (bb n : Nat) (C : Nat → Bool) (cv : Value) (u v : Nat) (k : Int) (w : World) (hu63 : u ≤ 2147483647) (hv63 : v ≤ 2147483647)
    (c0 : w.cell? ⟨bb, 0, none⟩ = some cv) (hC : Row w 4 cv n (fun i => .bool (C i))) (hbad : ¬ good C n u v) :
    Calls Try.prog 33 #[.pointer (some ⟨bb, 0, none⟩), .int .i64 u, .int .i64 v, .int .u8 k] w fun e w' => e = .returned (.tuple #[]) ∧ w' = w := by
  obtain ⟨a, c, rfl, hc1, hc2, hcell⟩ := hC.parts
  have HB := hid hbad
  clear hC hbad
  by_cases huv : u = v
  · have q : ((u : Int) == (v : Int)) = true := by simp [huv]
    go_enter Try.func33, Try.ntmps33
    go_wp2
    exact bodyPost_ret (v := .tuple #[]) (by simp [results, Try.results33, go_sem]) rfl ⟨rfl, rfl⟩
  have q : ((u : Int) == (v : Int)) = false := by simp; omega
  by_cases h1 : u < n ∧ C u = false
  · obtain ⟨hu, hCu⟩ := h1
    obtain ⟨g, rfl, ck⟩ := hcell u hu
    rw [hCu] at ck
    have q1 : decide ((u : Int) < (n : Int)) = true := by simp; omega
    go_enter Try.func33, Try.ntmps33
    go_wp2
    exact bodyPost_ret (v := .tuple #[]) (by simp [results, Try.results33, go_sem]) rfl ⟨rfl, rfl⟩
  have h2 : v < n ∧ C v = false := by
    refine Classical.byContradiction fun h2 => HB.out ⟨huv, fun h => ?_, fun h => ?_⟩
    · cases e : C u
      · exact absurd ⟨h, e⟩ h1
      · rfl
    · cases e : C v
      · exact absurd ⟨h, e⟩ h2
      · rfl
  obtain ⟨hv, hCv⟩ := h2
  obtain ⟨g, ea, ck⟩ := hcell v hv
  by_cases hu : u < n
  · obtain ⟨g', ea', ck'⟩ := hcell u hu
    rw [ea] at ea'
    cases ea'
    subst ea
    have hCu : C u = true := by
      cases e : C u
      · exact absurd ⟨hu, e⟩ h1
      · rfl
    rw [hCu] at ck'
    rw [hCv] at ck
    have q1 : decide ((u : Int) < (n : Int)) = true := by simp; omega
    have q2 : decide ((v : Int) < (n : Int)) = true := by simp; omega
    clear h1
    go_enter Try.func33, Try.ntmps33
    go_wp2
    exact bodyPost_ret (v := .tuple #[]) (by simp [results, Try.results33, go_sem]) rfl ⟨rfl, rfl⟩
  · subst ea
    rw [hCv] at ck
    have q1 : decide ((u : Int) < (n : Int)) = false := by simp; omega
    have q2 : decide ((v : Int) < (n : Int)) = true := by simp; omega
    clear h1
    go_enter Try.func33, Try.ntmps33
    go_wp2
    exact bodyPost_ret (v := .tuple #[]) (by simp [results, Try.results33, go_sem]) rfl ⟨rfl, rfl⟩

theorem flat_snoc (E : List Edge) (e : Edge) : flat (E ++ [e]) = flat E ++ [.int .i32 e.1, .int .i32 e.2.1, .int .u8 e.2.2] := by simp [flat]

theorem own53_shape {w : World} {B n : Nat} {v : Value} {xs : List Value} (h : w.ownsRow B 53 3 v (n + 1) xs) : ∃ g cap, v = .slice (some ⟨g, 0, none⟩) (n + 1) cap := by
  obtain ⟨_, ⟨_, h0⟩ | ⟨g, cap, cur, rfl, _⟩⟩ := h
  · omega
  · exact ⟨g, cap, rfl⟩

theorem own53_slice {w : World} {B n : Nat} {v : Value} {xs : List Value} (h : w.ownsRow B 53 3 v n xs) : ∃ a cap, v = .slice a n cap := by
  obtain ⟨_, ⟨rfl, h0⟩ | ⟨g, cap, cur, rfl, _⟩⟩ := h
  · exact ⟨none, 0, by rw [h0]⟩
  · exact ⟨_, cap, rfl⟩

theorem cell_three_new (w : World) (x y z : Value) (t : TypeId) : ∀ j u, [x, y, z][j]? = some u → (w.alloc (.cells #[x, y, z] t)).cell? ((⟨w.heap.size, 0, none⟩ : Addr).add j) = some u := by
  intro j u hj
  match j, hj with
  | 0, hj => simp at hj; subst hj; simp [Addr.add]
  | 1, hj => simp at hj; subst hj; simp [Addr.add]
  | 2, hj => simp at hj; subst hj; simp [Addr.add]

theorem grown_cell {w w1 : World} {o : Obj} {row : Option Nat} {nb i : Nat} {v : Value} (hg : (w.alloc o).grownBy w1 row) (hne : row ≠ some nb) (hc : w.cell? ⟨nb, i, none⟩ = some v) (hf : w.frozen? ⟨nb, i, none⟩ = false) :
    w1.cell? ⟨nb, i, none⟩ = some v ∧ w1.frozen? ⟨nb, i, none⟩ = false := by
  have hlt : nb < w.heap.size := World.block_lt_of_cell? _ _ hc
  have e1 : w1.heap[nb]? = (w.alloc o).heap[nb]? := hg.block nb (by simp; omega) (fun e => hne e.symm)
  have e2 : (w.alloc o).heap[nb]? = w.heap[nb]? := Deep.blk_alloc_lt w o nb hlt
  have e3 := e1.trans e2
  exact ⟨(World.cell?_of_block (w := w) (a := ⟨nb, i, none⟩) e3).trans hc, (World.frozen?_of_block (w := w) (a := ⟨nb, i, none⟩) e3).trans hf⟩

set_option maxHeartbeats 1000000 in
theorem add_push (B bb n : Nat) (C : Nat → Bool) (cv ev : Value) (N : Int) (E : List Edge) (u v : Nat) (w : World) (hu63 : u ≤ 2147483647) (hv63 : v ≤ 2147483647) (hlen : E.length ≤ 1048576)
    (hC : Row w 4 cv n (fun i => .bool (C i))) (hbs : BS w B bb cv N ev E) (hgood : good C n u v) :
    Calls Try.prog 33 #[.pointer (some ⟨bb, 0, none⟩), .int .i64 u, .int .i64 v, .int .u8 4] w fun e w' => e = .returned (.tuple #[]) ∧
      ∃ ev' w1, w' = w1.setCell ⟨bb, 2, none⟩ ev' ∧ w1.ownsRow B 53 3 ev' (E.length + 1) (flat E ++ [.int .i32 u, .int .i32 v, .int .u8 4]) ∧ w.grownBy w1 ev.ownBlock ∧ (ev'.ownBlock = ev.ownBlock ∨ ev'.ownBlock = some (w.heap.size + 1)) := by
  obtain ⟨a, c, rfl, hc1, hc2, hcell⟩ := hC.parts
  obtain ⟨ea, ec, rfl⟩ := own53_slice hbs.own
  have HBS := hid hbs
  have c0 := hbs.c0
  have c2 := hbs.c2
  obtain ⟨i0, hi, hz0, hz1, hz2⟩ := info_parts Try.info53
  obtain ⟨huv, hgu, hgv⟩ := hgood
  have q : ((u : Int) == (v : Int)) = false := by simp; omega
  clear hbs hC
  by_cases hu : u < n
  · obtain ⟨g, rfl, ck⟩ := hcell u hu
    rw [hgu hu] at ck
    have q1 : decide ((u : Int) < (n : Int)) = true := by simp; omega
    by_cases hv : v < n
    · obtain ⟨g', e', ck'⟩ := hcell v hv
      cases e'
      rw [hgv hv] at ck'
      have q2 : decide ((v : Int) < (n : Int)) = true := by simp; omega
      clear hgu hgv hcell
      go_enter Try.func33, Try.ntmps33
      go_wp2_with (at_builtin; refine wpList_append_own_at _ rfl _ _ 49 rfl B 53 i0 (.agg #[.int .i32 0, .int .i32 0, .int .u8 0]) 3 12 Try.underlying49 hi hz0 hz1 hz2 rfl (by decide) (.slice ea E.length ec) E.length (flat E) rfl (HBS.out.own.alloc _) ⟨w.heap.size, 0, none⟩ 1 1 [.int .i32 u, .int .i32 v, .int .u8 4] rfl rfl (cell_three_new _ _ _ _ _) (by simp [Value.oneCell']) (by unfold maxLen; omega) (by omega) (by have := HBS.out.base; simp; omega) ?_; intro v' w1 hown' hgrow hnl hloc; obtain ⟨g', cap', rfl⟩ := own53_shape hown'; obtain ⟨k0, k1⟩ := grown_cell hgrow HBS.out.ne HBS.out.c2 HBS.out.f2; have HO1 := hid hown'; have HG1 := hid hgrow; have HL := hid hloc; clear hown' hgrow hloc hnl)
      go_end0
      exact ⟨rfl, _, w1, rfl, HO1.out, (World.grownBy_alloc w _ _).trans HG1.out, by simpa using HL.out⟩
    · have q2 : decide ((v : Int) < (n : Int)) = false := by simp; omega
      clear hgu hgv hcell
      go_enter Try.func33, Try.ntmps33
      go_wp2_with (at_builtin; refine wpList_append_own_at _ rfl _ _ 49 rfl B 53 i0 (.agg #[.int .i32 0, .int .i32 0, .int .u8 0]) 3 12 Try.underlying49 hi hz0 hz1 hz2 rfl (by decide) (.slice ea E.length ec) E.length (flat E) rfl (HBS.out.own.alloc _) ⟨w.heap.size, 0, none⟩ 1 1 [.int .i32 u, .int .i32 v, .int .u8 4] rfl rfl (cell_three_new _ _ _ _ _) (by simp [Value.oneCell']) (by unfold maxLen; omega) (by omega) (by have := HBS.out.base; simp; omega) ?_; intro v' w1 hown' hgrow hnl hloc; obtain ⟨g', cap', rfl⟩ := own53_shape hown'; obtain ⟨k0, k1⟩ := grown_cell hgrow HBS.out.ne HBS.out.c2 HBS.out.f2; have HO1 := hid hown'; have HG1 := hid hgrow; have HL := hid hloc; clear hown' hgrow hloc hnl)
      go_end0
      exact ⟨rfl, _, w1, rfl, HO1.out, (World.grownBy_alloc w _ _).trans HG1.out, by simpa using HL.out⟩
  · have q1 : decide ((u : Int) < (n : Int)) = false := by simp; omega
    by_cases hv : v < n
    · obtain ⟨g', e', ck'⟩ := hcell v hv
      subst e'
      rw [hgv hv] at ck'
      have q2 : decide ((v : Int) < (n : Int)) = true := by simp; omega
      clear hgu hgv hcell
      go_enter Try.func33, Try.ntmps33
      go_wp2_with (at_builtin; refine wpList_append_own_at _ rfl _ _ 49 rfl B 53 i0 (.agg #[.int .i32 0, .int .i32 0, .int .u8 0]) 3 12 Try.underlying49 hi hz0 hz1 hz2 rfl (by decide) (.slice ea E.length ec) E.length (flat E) rfl (HBS.out.own.alloc _) ⟨w.heap.size, 0, none⟩ 1 1 [.int .i32 u, .int .i32 v, .int .u8 4] rfl rfl (cell_three_new _ _ _ _ _) (by simp [Value.oneCell']) (by unfold maxLen; omega) (by omega) (by have := HBS.out.base; simp; omega) ?_; intro v' w1 hown' hgrow hnl hloc; obtain ⟨g', cap', rfl⟩ := own53_shape hown'; obtain ⟨k0, k1⟩ := grown_cell hgrow HBS.out.ne HBS.out.c2 HBS.out.f2; have HO1 := hid hown'; have HG1 := hid hgrow; have HL := hid hloc; clear hown' hgrow hloc hnl)
      go_end0
      exact ⟨rfl, _, w1, rfl, HO1.out, (World.grownBy_alloc w _ _).trans HG1.out, by simpa using HL.out⟩
    · have q2 : decide ((v : Int) < (n : Int)) = false := by simp; omega
      clear hgu hgv hcell
      go_enter Try.func33, Try.ntmps33
      go_wp2_with (at_builtin; refine wpList_append_own_at _ rfl _ _ 49 rfl B 53 i0 (.agg #[.int .i32 0, .int .i32 0, .int .u8 0]) 3 12 Try.underlying49 hi hz0 hz1 hz2 rfl (by decide) (.slice ea E.length ec) E.length (flat E) rfl (HBS.out.own.alloc _) ⟨w.heap.size, 0, none⟩ 1 1 [.int .i32 u, .int .i32 v, .int .u8 4] rfl rfl (cell_three_new _ _ _ _ _) (by simp [Value.oneCell']) (by unfold maxLen; omega) (by omega) (by have := HBS.out.base; simp; omega) ?_; intro v' w1 hown' hgrow hnl hloc; obtain ⟨g', cap', rfl⟩ := own53_shape hown'; obtain ⟨k0, k1⟩ := grown_cell hgrow HBS.out.ne HBS.out.c2 HBS.out.f2; have HO1 := hid hown'; have HG1 := hid hgrow; have HL := hid hloc; clear hown' hgrow hloc hnl)
      go_end0
      exact ⟨rfl, _, w1, rfl, HO1.out, (World.grownBy_alloc w _ _).trans HG1.out, by simpa using HL.out⟩

end Go.Proofs.Qxb6602859a
