import Derived.Test.Qxb6602792aX2
namespace Go.Proofs.Qxb6602792a
open Go.RowKit Kit
set_option linter.unusedVariables false

/-- the strings of an argument as a list -/
def lst (n : Nat) (f : Nat → ByteArray) : List ByteArray := (List.range n).map f

theorem lst_length (n : Nat) (f : Nat → ByteArray) : (lst n f).length = n := by simp [lst]
theorem fL_lst {n : Nat} {f : Nat → ByteArray} {i : Nat} (h : i < n) : fL (lst n f) i = f i := by
  rw [fL_lt (by rw [lst_length]; exact h)]; simp [lst]

theorem rowIs_own {w : World} {B g n : Nat} {f : Nat → ByteArray} (h : w.rowIs g 9 n (fun i => .string (f i))) (hB : B ≤ g) (hn : n ≤ maxLen) : w.ownsRow B 9 1 (.slice (some ⟨g, 0, none⟩) n n) n ((lst n f).map Value.string) := by
  obtain ⟨c, hb, hs, hc⟩ := h
  refine ⟨by simp [lst], .inr ⟨g, n, c, rfl, hB, hb, Nat.le_refl _, hn, by omega, ?_⟩⟩
  apply List.ext_getElem?
  intro i
  rcases Nat.lt_or_ge i n with h | h
  · rw [List.getElem?_take_of_lt (by omega), List.getElem?_map]
    have e1 := hc i h
    simp only [Array.getElem?_toList, e1]
    simp [lst, h]
  · rw [List.getElem?_eq_none (by simp; omega), List.getElem?_eq_none (by simp [lst]; omega)]

/-- cloneStrings: a row of the call's own -/
theorem clone_own {v : Value} {n : Nat} {f : Nat → ByteArray} (w : World) (hn : n ≤ 4096) (h : ArgF w v n f) :
    Calls Try.prog 9 #[v] w fun e w' => ∃ v', e = .returned v' ∧ (∃ a c, v' = .slice a n c) ∧ w'.ownsRow w.heap.size 9 1 v' n ((lst n f).map Value.string) ∧ Below w.heap.size w w' := by
  rcases h with ⟨rfl, rfl⟩ | ⟨x, cap, rfl, _, hc⟩
  · refine (clone_nil w).mono ?_
    rintro e w' ⟨rfl, rfl⟩
    exact ⟨_, rfl, ⟨_, _, rfl⟩, ⟨rfl, .inl ⟨rfl, rfl⟩⟩, Below.refl _ _⟩
  · refine (clone_some x n cap f w (by omega) (fun i hi => (hc i hi).1)).mono ?_
    rintro e w' ⟨rfl, hrow, hb, hs⟩
    exact ⟨_, rfl, ⟨_, _, rfl⟩, rowIs_own hrow (Nat.le_refl _) (by unfold maxLen; omega), hb⟩

/-- an owned row is an argument too -/
theorem own_arg {w : World} {B n : Nat} {v : Value} {f : Nat → ByteArray} (h : w.ownsRow B 9 1 v n ((lst n f).map Value.string)) (hsz : ∀ i, i < n → (f i).size ≤ maxLen) (hn : n ≤ 4096) : ArgF w v n f := by
  obtain ⟨hl, ⟨rfl, h0⟩ | ⟨g, cap, cur, rfl, hB, hg, h1, h2, h3, h4⟩⟩ := h
  · exact .inl ⟨rfl, h0⟩
  · refine .inr ⟨⟨g, 0, none⟩, cap, rfl, by unfold maxLen; omega, fun i hi => ⟨?_, hsz i hi⟩⟩
    have hh : w.ownsRow B 9 1 (.slice (some ⟨g, 0, none⟩) n cap) n ((lst n f).map Value.string) := ⟨hl, .inr ⟨g, cap, cur, rfl, hB, hg, h1, h2, h3, h4⟩⟩
    have := seen_cell (i := i) hh (by rw [lst_length]; exact hi)
    rw [fL_lst hi] at this
    have e : (⟨g, 0, none⟩ : Addr).add i = ⟨g, i, none⟩ := by unfold Addr.add; split <;> simp_all
    rw [e]; exact this

/-- .. and reads as the strings -/
theorem own_strF {w : World} {B n : Nat} {v : Value} {f : Nat → ByteArray} (h : w.ownsRow B 9 1 v n ((lst n f).map Value.string)) : StrF w v n f := by
  obtain ⟨a, cap, hv, h2⟩ := (own_str h).2
  rw [lst_length] at hv h2
  refine ⟨a, cap, hv, ?_⟩
  rcases h2 with h | ⟨g, o, rfl, hc⟩
  · exact .inl h
  · exact .inr ⟨g, o, rfl, fun i hi => by rw [hc i hi, fL_lst hi]⟩

theorem ArgF.later {w w' : World} {v : Value} {n : Nat} {f : Nat → ByteArray} (h : ArgF w v n f) (hb : Below w.heap.size w w') : ArgF w' v n f := by
  rcases h with h | ⟨x, cap, rfl, hn, hc⟩
  · exact .inl h
  · exact .inr ⟨x, cap, rfl, hn, fun i hi => ⟨cell_later hb (hc i hi).1, (hc i hi).2⟩⟩

theorem retIn_true {n : Nat} {f : Nat → ByteArray} {s : ByteArray} {e : Ending} (h : RetIn n f s e) (hin : InF n f s) : e = .returned (.bool true) := by
  obtain ⟨r, rfl, hr⟩ := h
  rw [hr.2 hin]

theorem retIn_false {n : Nat} {f : Nat → ByteArray} {s : ByteArray} {e : Ending} (h : RetIn n f s e) (hin : ¬ InF n f s) : e = .returned (.bool false) := by
  obtain ⟨r, rfl, hr⟩ := h
  cases r
  · rfl
  · exact absurd (hr.1 rfl) hin

theorem retEq_true {n : Nat} {f : Nat → ByteArray} {e : Ending} (h : RetEq n n f f e) : e = .returned (.bool true) := by
  obtain ⟨r, rfl, hr⟩ := h
  rw [hr.2 ⟨rfl, fun _ _ => rfl⟩]

/-- two rows, the second made later: a write into the first leaves the second -/
theorem own_apart {w w' : World} {B B2 n m : Nat} {v u : Value} {xs ys : List Value} (hv : w.ownsRow B 9 1 v n xs) (hlt : ∀ g, v.ownBlock = some g → g < B2) (hu : w.ownsRow B2 9 1 u m ys) (hg : w.grownBy w' v.ownBlock) : w'.ownsRow B2 9 1 u m ys := by
  refine own_same hu (fun g hgb hltt => hg.block g hltt (fun e => ?_))
  have h1 := hlt g e.symm
  rcases own_block hu with e' | ⟨g', c, e', hB, _⟩
  · rw [e'] at hgb; cases hgb
  · rw [e'] at hgb; cases hgb; omega

theorem lst_snoc_lt {n : Nat} {f : Nat → ByteArray} {s : ByteArray} {i : Nat} (h : i < n) : fL (lst n f ++ [s]) i = f i := by
  rw [fL_append (by rw [lst_length]; exact h), fL_lst h]
theorem lst_snoc_at {n : Nat} {f : Nat → ByteArray} {s : ByteArray} : fL (lst n f ++ [s]) n = s := by
  have := fL_snoc (lst n f) s
  rwa [lst_length] at this

/-- the grown list: its first n, and the last -/
theorem grown_parts {w : World} {B n : Nat} {v : Value} {f : Nat → ByteArray} {s : ByteArray} (h : w.ownsRow B 9 1 v (n + 1) ((lst n f).map Value.string ++ [.string s])) :
    ∃ g cap, v = .slice (some ⟨g, 0, none⟩) (n + 1) cap ∧ n + 1 ≤ cap ∧ cap ≤ maxLen ∧ StrF w (.slice (some ⟨g, 0, none⟩) n cap) n f ∧ w.cell? ⟨g, n, none⟩ = some (.string s) := by
  obtain ⟨g, cap, rfl, h1, h2⟩ := own_shape' h
  have e : (lst n f).map Value.string ++ [Value.string s] = (lst n f ++ [s]).map Value.string := by simp
  rw [e] at h
  refine ⟨g, cap, rfl, h1, h2, ⟨_, _, rfl, .inr ⟨g, 0, rfl, fun i hi => ?_⟩⟩, ?_⟩
  · have := seen_cell (i := i) h (by simp [lst_length]; omega)
    rw [lst_snoc_lt hi] at this
    rw [Nat.zero_add]; exact this
  · have := seen_cell (i := n) h (by simp [lst_length])
    rwa [lst_snoc_at] at this

theorem set_len {w : World} {mb k sz : Nat} {mem : List UInt8 → Bool} (h : SetS w mb k mem sz) (q : Nat) (z : Int) (hz : (sz : Int) = z) (ty : TypeId) : (Builtin.len_ #[25] ty #[.map (some mb)]).run Try.prog (w.drewN q) = .ok (.int .i64 z) (w.drewN q) := by
  rw [← hz]; exact (h.drewN q).len (t := 25) Try.underlying25 ty

theorem set_look {w : World} {mb k sz : Nat} {mem : List UInt8 → Bool} (h : SetS w mb k mem sz) (q : Nat) {s : ByteArray} (hs : s.size ≤ maxLen) (hm : mem s.data.toList = true) : (Instr.lookup 25 (.map (some mb)) (.string s) false).run Try.prog (w.drewN q) = .ok (.bool true) (w.drewN q) := by
  have := (h.drewN q).look law9 (t := 25) Try.underlying25 Try.underlying4 (zero4 _) (key9 hs)
  rw [hm] at this; exact this

theorem mem_self {f : Nat → ByteArray} {n t : Nat} (s : ByteArray) (ht : t < n) : (decide ((f t).data.toList = s.data.toList) || memF f n (f t).data.toList) = true := by
  rw [(memF_iff f (f t) n).2 ⟨t, ht, rfl⟩, Bool.or_true]

theorem StrF.parts {w : World} {a : Option Addr} {n cap : Nat} {f : Nat → ByteArray} (h : StrF w (.slice a n cap) n f) : ∀ i, i < n → ∃ g o, a = some ⟨g, o, none⟩ ∧ w.cell? ⟨g, o + i, none⟩ = some (.string (f i)) := by
  intro i hi
  obtain ⟨a', cap', e, h⟩ := h
  simp only [Value.slice.injEq] at e
  obtain ⟨rfl, -, -⟩ := e
  obtain ⟨g, o, rfl, hc⟩ := h.resolve_left (by omega)
  exact ⟨g, o, rfl, hc i hi⟩

end Go.Proofs.Qxb6602792a
