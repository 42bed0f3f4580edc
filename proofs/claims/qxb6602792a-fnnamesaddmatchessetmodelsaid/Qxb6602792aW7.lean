import Derived.Test.Qxb6602792aW6
namespace Go.Proofs.Qxb6602792a
open Go.RowKit Kit
set_option linter.unusedVariables false

/-- the list as a function of the place -/
def fL (L : List ByteArray) (i : Nat) : ByteArray := L.getD i ByteArray.empty
def mL (L : List ByteArray) (y : List UInt8) : Bool := L.any fun x => decide (x.data.toList = y)
def addL (L : List ByteArray) (s : ByteArray) : List ByteArray := if mL L s.data.toList then L else L ++ [s]

theorem fL_lt {L : List ByteArray} {i : Nat} (h : i < L.length) : fL L i = L[i] := by
  unfold fL; rw [List.getD_eq_getElem?_getD, List.getElem?_eq_getElem h]; rfl

theorem fL_append {L M : List ByteArray} {i : Nat} (h : i < L.length) : fL (L ++ M) i = fL L i := by
  unfold fL; rw [List.getD_eq_getElem?_getD, List.getD_eq_getElem?_getD, List.getElem?_append_left h]

theorem fL_snoc (L : List ByteArray) (s : ByteArray) : fL (L ++ [s]) L.length = s := by
  unfold fL; simp

theorem memF_congr {f h : Nat → ByteArray} : ∀ k, (∀ i, i < k → f i = h i) → ∀ y, memF f k y = memF h k y
  | 0, _, _ => rfl
  | k + 1, e, y => by
    simp only [memF]
    rw [memF_congr k (fun i hi => e i (by omega)) y, e k (by omega)]

theorem nd_congr {f h : Nat → ByteArray} : ∀ k, (∀ i, i < k → f i = h i) → nd f k = nd h k
  | 0, _ => rfl
  | k + 1, e => by
    simp only [nd]
    rw [nd_congr k (fun i hi => e i (by omega)), e k (by omega), memF_congr k (fun i hi => e i (by omega))]

theorem mL_snoc (L : List ByteArray) (s : ByteArray) (y : List UInt8) : mL (L ++ [s]) y = (decide (y = s.data.toList) || mL L y) := by
  unfold mL
  simp only [List.any_append, List.any_cons, List.any_nil, Bool.or_false]
  rw [Bool.or_comm]
  congr 1
  rw [Bool.eq_iff_iff]; simp [eq_comm]

theorem memF_list (L : List ByteArray) : ∀ (k : Nat), k ≤ L.length → ∀ y, memF (fL L) k y = mL (L.take k) y
  | 0, _, y => by simp [memF, mL]
  | k + 1, hk, y => by
    have e : L.take (k + 1) = L.take k ++ [fL L k] := by
      rw [List.take_succ_eq_append_getElem (by omega), fL_lt (by omega)]
    rw [e, mL_snoc, ← memF_list L k (by omega) y]
    rfl

theorem memF_whole (L : List ByteArray) (y : List UInt8) : memF (fL L) L.length y = mL L y := by
  rw [memF_list L L.length (Nat.le_refl _) y, List.take_length]

theorem inF_list (L : List ByteArray) (s : ByteArray) : InF L.length (fL L) s ↔ mL L s.data.toList = true := by
  rw [← memF_whole]; exact (memF_iff (fL L) s L.length).symm

/-- no name twice -/
def Dist (L : List ByteArray) : Prop := nd (fL L) L.length = L.length

theorem Dist.snoc {L : List ByteArray} {s : ByteArray} (h : Dist L) (hn : mL L s.data.toList = false) : Dist (L ++ [s]) := by
  unfold Dist at *
  rw [List.length_append, List.length_singleton]
  simp only [nd]
  rw [fL_snoc, memF_congr L.length (f := fL (L ++ [s])) (h := fL L) (fun i hi => fL_append hi), memF_whole, hn,
    nd_congr L.length (f := fL (L ++ [s])) (h := fL L) (fun i hi => fL_append hi), h]
  rfl

theorem Dist.add {L : List ByteArray} {s : ByteArray} (h : Dist L) : Dist (addL L s) := by
  unfold addL
  cases hm : mL L s.data.toList
  · exact h.snoc hm
  · exact h

theorem addL_len (L : List ByteArray) (s : ByteArray) : (addL L s).length = bump (mL L s.data.toList) L.length := by
  unfold addL bump
  cases hm : mL L s.data.toList <;> simp

theorem mL_add (L : List ByteArray) (s : ByteArray) (y : List UInt8) : mL (addL L s) y = (decide (y = s.data.toList) || mL L y) := by
  unfold addL
  cases hm : mL L s.data.toList
  · simp only [Bool.false_eq_true, if_false]; exact mL_snoc L s y
  · simp only [if_true]
    by_cases hy : y = s.data.toList
    · subst hy; rw [hm]; simp
    · simp [hy]

/-- a tight bound -/
theorem tight {w : World} {b n sz : Nat} {mem : List UInt8 → Bool} (h : SetS w b n mem sz) : SetS w b sz mem sz := by
  obtain ⟨D, ⟨es, clock, hh, F, hs, hD⟩, h1, h2, h3⟩ := h
  refine ⟨D, ⟨es, clock, hh, F, ?_, hD⟩, h1, h2, h3⟩
  rw [← h3, hD]
  simp [Maps.size, length_sorted]

theorem take_add {L : List ByteArray} {s : ByteArray} (h : 16 ≤ L.length) : (addL L s).take 16 = L.take 16 := by
  unfold addL
  split
  · rfl
  · exact List.take_append_of_le_length h

theorem min_add {L : List ByteArray} {s : ByteArray} (h : 16 ≤ L.length) : min 16 (addL L s).length = min 16 L.length := by
  rw [addL_len]; unfold bump; split <;> omega

def Few (w : World) (B : Nat) (fv : Value) (L : List ByteArray) : Prop := w.ownsRow B 9 1 fv (min 16 L.length) ((L.take 16).map Value.string)
def Many (w : World) (B : Nat) (mv : Value) (L : List ByteArray) : Prop :=
  (mv = .map none ∧ L.length ≤ 16) ∨ ∃ mb, mv = .map (some mb) ∧ B ≤ mb ∧ 16 ≤ L.length ∧ SetS w mb L.length (mL L) L.length

/-- of the old blocks only fv's own row and the map may have turned -/
structure Eff (w w' : World) (fv mv : Value) : Prop where
  os : w'.os = w.os
  tape : w'.tape = w.tape
  output : w'.output = w.output
  size : w.heap.size ≤ w'.heap.size
  block : ∀ g, g < w.heap.size → fv.ownBlock ≠ some g → mv ≠ .map (some g) → w'.heap[g]? = w.heap[g]?

theorem Eff.of_below {w w' : World} {fv mv : Value} (h : Below w.heap.size w w') : Eff w w' fv mv :=
  ⟨h.os, h.tape, h.output, h.size, fun g hg _ _ => h.block g hg⟩
theorem Eff.of_row {w w' : World} {fv mv : Value} (h : w.grownBy w' fv.ownBlock) : Eff w w' fv mv :=
  ⟨h.os, h.tape, h.output, h.size, fun g hg h1 _ => h.block g hg (fun e => h1 e.symm)⟩
theorem Eff.of_map {w w' : World} {fv : Value} {mb : Nat} (h : w.grownBy w' (some mb)) : Eff w w' fv (.map (some mb)) :=
  ⟨h.os, h.tape, h.output, h.size, fun g hg _ h2 => h.block g hg (fun e => h2 (by rw [e]))⟩

theorem own_str {w : World} {B n : Nat} {v : Value} {L : List ByteArray} (h : w.ownsRow B 9 1 v n (L.map Value.string)) : n = L.length ∧ StrF w v L.length (fL L) := by
  obtain ⟨hl, h⟩ := h
  have hn : n = L.length := by simpa using hl.symm
  subst hn
  refine ⟨rfl, ?_⟩
  rcases h with ⟨rfl, h0⟩ | ⟨g, cap, cur, rfl, hB, hg, h1, h2, h3, h4⟩
  · exact ⟨none, 0, by rw [h0], .inl h0⟩
  · refine ⟨_, cap, rfl, .inr ⟨g, 0, rfl, fun i hi => ?_⟩⟩
    rw [Nat.zero_add]
    unfold World.cell?
    simp only [hg]
    have hi' : i < cur.toList.length := by simp; omega
    have e : (cur.toList.take (L.length * 1))[i]? = some (.string L[i]) := by rw [h4]; simp [hi]
    rw [List.getElem?_take_of_lt (by omega)] at e
    rw [fL_lt hi]
    simpa using e

theorem own_kept_map {w w' : World} {B n mb : Nat} {v : Value} {xs : List Value} {es : Array MapEntry} {c : Nat} (h : w.ownsRow B 9 1 v n xs) (hg : w.grownBy w' (some mb)) (hm : w.heap[mb]? = some (.map es c)) : w'.ownsRow B 9 1 v n xs := by
  obtain ⟨hl, h | ⟨g, cap, cur, rfl, hB, hgg, r⟩⟩ := h
  · exact ⟨hl, .inl h⟩
  · refine ⟨hl, .inr ⟨g, cap, cur, rfl, hB, ?_, r⟩⟩
    rw [hg.block g ((Array.getElem?_eq_some_iff.1 hgg).1) (fun e => by cases e; rw [hm] at hgg; cases hgg)]
    exact hgg

theorem SetS.heap {w : World} {b n sz : Nat} {mem : List UInt8 → Bool} (h : SetS w b n mem sz) : ∃ es c, w.heap[b]? = some (.map es c) := by
  obtain ⟨D, ⟨es, clock, hh, _⟩, _⟩ := h
  exact ⟨es, clock, hh⟩

theorem step (B : Nat) (fv mv : Value) (L : List ByteArray) (s : ByteArray) (w : World) (hD : Dist L) (hsz : ∀ i, i < L.length → (fL L i).size ≤ maxLen) (hs : s.size ≤ maxLen) (hlen : L.length ≤ 4096)
    (hB : B ≤ w.heap.size) (hF : Few w B fv L) (hM : Many w B mv L) :
    Calls Try.prog 11 #[fv, mv, .string s] w fun e w' => ∃ fv' mv', e = .returned (.tuple #[.bool (!mL L s.data.toList), fv', mv']) ∧ Few w' B fv' (addL L s) ∧ Many w' B mv' (addL L s) ∧ Eff w w' fv mv ∧
      (fv'.ownBlock = fv.ownBlock ∨ ∃ g, fv'.ownBlock = some g ∧ w.heap.size ≤ g) := by
  rcases hM with ⟨rfl, h16⟩ | ⟨mb, rfl, hBm, h16, hset⟩
  · by_cases hlt : L.length < 16
    · have ht : L.take 16 = L := List.take_of_length_le (by omega)
      have hmin : min 16 L.length = L.length := by omega
      unfold Few at hF
      rw [ht, hmin] at hF
      obtain ⟨-, hstr⟩ := own_str hF
      cases hm : mL L s.data.toList
      · have hin : ¬ InF L.length (fL L) s := fun h => by rw [inF_list, hm] at h; cases h
        refine (zz_A_out B L.length fv _ (fL L) s w hlt hB hstr hF hin).mono ?_
        rintro e w' ⟨fv', rfl, hown, hgr, hloc⟩
        have ha : addL L s = L ++ [s] := by unfold addL; rw [hm]; rfl
        refine ⟨fv', _, rfl, ?_, ?_, Eff.of_row hgr, hloc⟩
        · unfold Few
          rw [ha, List.take_of_length_le (by simp; omega), List.map_append, List.length_append, List.length_singleton, Nat.min_eq_right (by omega)]
          exact hown
        · exact .inl ⟨rfl, by rw [ha, List.length_append, List.length_singleton]; omega⟩
      · have hin : InF L.length (fL L) s := (inF_list L s).2 hm
        refine (zz_A_in L.length fv (fL L) s w hlt hstr hin).mono ?_
        rintro e w' ⟨rfl, hb⟩
        have ha : addL L s = L := by unfold addL; rw [hm]; rfl
        rw [ha]
        refine ⟨fv, _, rfl, ?_, .inl ⟨rfl, by omega⟩, Eff.of_below hb, .inl rfl⟩
        unfold Few
        rw [ht, hmin]
        exact own_later hF hb
    · have h16' : L.length = 16 := by omega
      have ht : L.take 16 = L := List.take_of_length_le (by omega)
      have hF0 := hF
      unfold Few at hF
      rw [ht, h16'] at hF
      obtain ⟨-, hstr⟩ := own_str hF
      obtain ⟨g, cap, rfl⟩ := own_shape (n := 15) hF
      obtain ⟨a, cap', e1, e2⟩ := hstr
      rw [h16'] at e1 e2
      cases e1
      obtain ⟨g', o', e3, hc⟩ := e2.resolve_left (by omega)
      cases e3
      refine (zz_B g 0 cap 16 (fL L) s w (Nat.le_refl _) (by omega) hs hc (fun i hi => hsz i (by omega))).mono ?_
      rintro e w' ⟨mb, rfl, hmb, hset, hb⟩
      have em : ∀ y, memF (fL L) 16 y = mL L y := fun y => by have := memF_whole L y; rwa [h16'] at this
      have en : nd (fL L) 16 = 16 := by have := hD; unfold Dist at this; rwa [h16'] at this
      rw [em]
      refine ⟨_, _, rfl, ?_, .inr ⟨mb, rfl, by omega, ?_, ?_⟩, Eff.of_below hb, .inl rfl⟩
      · unfold Few
        rw [take_add (by omega), min_add (by omega)]
        exact own_later hF0 hb
      · rw [addL_len]; unfold bump; split <;> omega
      · have h := tight (hset.congr (mem' := mL (addL L s)) (sz' := (addL L s).length) (fun y => by rw [mL_add, em]) (by rw [addL_len, em, en, h16']))
        exact h
  · have hmin : min 16 L.length = 15 + 1 := by omega
    have hF0 := hF
    unfold Few at hF
    rw [hmin] at hF
    obtain ⟨g, cap, rfl⟩ := own_shape hF
    refine (zz_C _ _ _ _ mb L.length L.length rfl (mL L) s w hs (by unfold maxLen; omega) hset).mono ?_
    rintro e w' ⟨rfl, hset', hgr⟩
    obtain ⟨es, c, hh⟩ := hset.heap
    refine ⟨_, _, rfl, ?_, .inr ⟨mb, rfl, hBm, ?_, ?_⟩, Eff.of_map hgr, .inl rfl⟩
    · unfold Few
      rw [take_add h16, min_add h16]
      exact own_kept_map hF0 hgr hh
    · rw [addL_len]; unfold bump; split <;> omega
    · exact tight (hset'.congr (mem' := mL (addL L s)) (sz' := (addL L s).length) (fun y => by rw [mL_add]) (by rw [addL_len]))

end Go.Proofs.Qxb6602792a
