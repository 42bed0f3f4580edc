import Derived.Test.Qxb6602792aW7
namespace Go.Proofs.Qxb6602792a
open Go.RowKit Kit
set_option linter.unusedVariables false

/-- what holds at the head of each round of the script -/
structure Inv (w wr : World) (B ob n k : Nat) (f : Nat → ByteArray) (fv mv sv : Value) (L : List ByteArray) : Prop where
  len : L.length ≤ k
  dist : Dist L
  sizes : ∀ i, i < L.length → (fL L i).size ≤ maxLen
  few : Few wr B fv L
  many : Many wr B mv L
  seen : wr.ownsRow B 9 1 sv L.length (L.map Value.string)
  shape : ∃ sb cap, sv = .slice (some ⟨sb, 0, none⟩) L.length cap
  ops : wr.rowIs ob 9 n (fun i => .string (f i))
  below : Below B w wr
  size : B ≤ wr.heap.size
  sep1 : fv.ownBlock ≠ sv.ownBlock
  sep2 : fv.ownBlock ≠ some ob
  sep3 : sv.ownBlock ≠ some ob

theorem retIn_mL {L : List ByteArray} {s : ByteArray} {e : Ending} (h : RetIn L.length (fL L) s e) : e = .returned (.bool (mL L s.data.toList)) := by
  obtain ⟨r, rfl, hr⟩ := h
  rw [inF_list] at hr
  have : r = mL L s.data.toList := by
    cases r <;> cases hm : mL L s.data.toList <;> simp_all
  rw [this]

/-- the slice of the first lim names seen -/
theorem seen_take {w : World} {B sb cap lim l : Nat} {L : List ByteArray} (h : w.ownsRow B 9 1 (.slice (some ⟨sb, 0, none⟩) l cap) L.length (L.map Value.string)) (hl : lim ≤ L.length) : StrF w (.slice (some ⟨sb, 0, none⟩) lim cap) lim (fL L) := by
  obtain ⟨-, a, cap', e, h⟩ := own_str h
  simp only [Value.slice.injEq] at e
  obtain ⟨ha, _, hcap⟩ := e
  subst ha hcap
  rcases h with h | ⟨g, o, e, hc⟩
  · exact ⟨_, _, rfl, .inl (by omega)⟩
  · exact ⟨_, _, rfl, .inr ⟨g, o, e, fun i hi => hc i (by omega)⟩⟩

theorem retEq_few {L : List ByteArray} {lim : Nat} {e : Ending} (hlim : lim = min 16 L.length) (h : RetEq (L.take 16).length lim (fL (L.take 16)) (fL L) e) : e = .returned (.bool true) := by
  obtain ⟨r, rfl, hr⟩ := h
  have : r = true := hr.2 ⟨by rw [List.length_take, hlim], fun i hi => by
    rw [fL_lt hi, fL_lt (by rw [List.length_take] at hi; omega)]
    simp⟩
  rw [this]

theorem own_shape' {w : World} {B n : Nat} {v : Value} {xs : List Value} (h : w.ownsRow B 9 1 v (n + 1) xs) : ∃ g cap, v = .slice (some ⟨g, 0, none⟩) (n + 1) cap ∧ n + 1 ≤ cap ∧ cap ≤ maxLen := by
  obtain ⟨_, ⟨_, h0⟩ | ⟨g, cap, cur, rfl, _, _, h1, h2, _⟩⟩ := h
  · omega
  · exact ⟨g, cap, rfl, h1, h2⟩

theorem own_cap {w : World} {B n sb l cap : Nat} {xs : List Value} (h : w.ownsRow B 9 1 (.slice (some ⟨sb, 0, none⟩) l cap) n xs) : n ≤ cap ∧ cap ≤ maxLen := by
  obtain ⟨_, ⟨h0, _⟩ | ⟨g, cap', cur, e, _, _, h1, h2, _⟩⟩ := h
  · cases h0
  · simp only [Value.slice.injEq] at e
    obtain ⟨_, _, rfl⟩ := e
    exact ⟨h1, h2⟩

theorem seen_cell {w : World} {B n sb l cap i : Nat} {L : List ByteArray} (h : w.ownsRow B 9 1 (.slice (some ⟨sb, 0, none⟩) l cap) n (L.map Value.string)) (hi : i < L.length) : w.cell? ⟨sb, i, none⟩ = some (.string (fL L i)) := by
  obtain ⟨-, a, cap', e, h⟩ := own_str h
  simp only [Value.slice.injEq] at e
  obtain ⟨ha, _, _⟩ := e
  rcases h with h | ⟨g, o, e, hc⟩
  · omega
  · subst ha
    cases e
    have := hc i hi
    rwa [Nat.zero_add] at this

theorem mL_self {L : List ByteArray} {i : Nat} (hi : i < L.length) : mL L (fL L i).data.toList = true := (inF_list L _).1 ⟨i, hi, rfl⟩

theorem few_str {w : World} {B : Nat} {fv : Value} {L : List ByteArray} (h : Few w B fv L) : StrF w fv (L.take 16).length (fL (L.take 16)) := (own_str h).2

theorem many_len {w : World} {mb : Nat} {L : List ByteArray} (h : SetS w mb L.length (mL L) L.length) (q : Nat) (z : Int) (hz : (L.length : Int) = z) (ty : TypeId) : (Builtin.len_ #[25] ty #[.map (some mb)]).run Try.prog (w.drewN q) = .ok (.int .i64 z) (w.drewN q) := by
  rw [← hz]; exact (h.drewN q).len (t := 25) Try.underlying25 ty

theorem rowIs_heap {w : World} {b n : Nat} {f : Nat → Value} (h : w.rowIs b 9 n f) : ∃ c, w.heap[b]? = some (.cells c 9 (0, 0)) := by
  obtain ⟨c, hb, _⟩ := h
  exact ⟨c, hb⟩

theorem Many.ne {w : World} {B g : Nat} {mv : Value} {L : List ByteArray} {c : Array Value} {t : TypeId} (h : Many w B mv L) (hg : w.heap[g]? = some (.cells c t (0, 0))) : mv ≠ .map (some g) := by
  rcases h with ⟨rfl, _⟩ | ⟨mb, rfl, _, _, hset⟩
  · intro e; cases e
  · intro e
    cases e
    obtain ⟨es, cl, hh⟩ := hset.heap
    rw [hg] at hh; cases hh

theorem own_block {w : World} {B n : Nat} {v : Value} {xs : List Value} (h : w.ownsRow B 9 1 v n xs) : v.ownBlock = none ∨ ∃ g c, v.ownBlock = some g ∧ B ≤ g ∧ w.heap[g]? = some (.cells c 9 (0, 0)) := by
  obtain ⟨hl, ⟨rfl, _⟩ | ⟨g, cap, cur, rfl, hB, hg, r⟩⟩ := h
  · exact .inl rfl
  · exact .inr ⟨g, cur, rfl, hB, hg⟩

/-- an owned row whose block has not turned -/
theorem own_same {w w' : World} {B n : Nat} {v : Value} {xs : List Value} (h : w.ownsRow B 9 1 v n xs) (hb : ∀ g, v.ownBlock = some g → g < w.heap.size → w'.heap[g]? = w.heap[g]?) : w'.ownsRow B 9 1 v n xs := by
  obtain ⟨hl, h | ⟨g, cap, cur, rfl, hB, hg, r⟩⟩ := h
  · exact ⟨hl, .inl h⟩
  · exact ⟨hl, .inr ⟨g, cap, cur, rfl, hB, (hb g rfl (Array.getElem?_eq_some_iff.1 hg).1).trans hg, r⟩⟩

theorem Many.same {w w' : World} {B : Nat} {mv : Value} {L : List ByteArray} (h : Many w B mv L) (hb : ∀ g, mv = .map (some g) → g < w.heap.size → w'.heap[g]? = w.heap[g]?) : Many w' B mv L := by
  rcases h with h | ⟨mb, rfl, h1, h2, hset⟩
  · exact .inl h
  · refine .inr ⟨mb, rfl, h1, h2, ?_⟩
    have hlt := hset.lt
    obtain ⟨D, ⟨es, clock, hh, r⟩, h3⟩ := hset
    exact ⟨D, ⟨es, clock, (hb mb rfl hlt).trans hh, r⟩, h3⟩

theorem Eff.below {w0 w w' : World} {B : Nat} {fv mv : Value} {L : List ByteArray} (h : Eff w w' fv mv) (hb : Below B w0 w) (hsz : B ≤ w.heap.size) (hF : Few w B fv L) (hM : Many w B mv L) : Below B w0 w' := by
  refine hb.trans ⟨h.os, h.tape, h.output, h.size, fun g hg => h.block g (by omega) ?_ ?_⟩
  · rcases own_block hF with e | ⟨g', c, e, h1, _⟩
    · rw [e]; intro h; cases h
    · rw [e]; intro h; cases h; omega
  · rcases hM with ⟨rfl, _⟩ | ⟨mb, rfl, h1, _⟩
    · intro e; cases e
    · intro e; cases e; omega

theorem sep_step {w : World} {B n : Nat} {fv fv' sv : Value} {xs : List Value} (hs : w.ownsRow B 9 1 sv n xs) (hne : fv.ownBlock ≠ sv.ownBlock) (hloc : fv'.ownBlock = fv.ownBlock ∨ ∃ g, fv'.ownBlock = some g ∧ w.heap.size ≤ g) : fv'.ownBlock ≠ sv.ownBlock := by
  rcases hloc with e | ⟨g, e, hg⟩
  · rw [e]; exact hne
  · rw [e]
    intro h
    have := own_block_lt hs h.symm
    omega

theorem Inv.afterStep {w wr w3 : World} {B ob n k : Nat} {f : Nat → ByteArray} {fv mv sv fv' : Value} {L : List ByteArray} (I : Inv w wr B ob n k f fv mv sv L) (hE : Eff wr w3 fv mv)
    (hloc : fv'.ownBlock = fv.ownBlock ∨ ∃ g, fv'.ownBlock = some g ∧ wr.heap.size ≤ g) :
    w3.ownsRow B 9 1 sv L.length (L.map Value.string) ∧ w3.rowIs ob 9 n (fun i => .string (f i)) ∧ Below B w w3 ∧ B ≤ w3.heap.size ∧ fv'.ownBlock ≠ sv.ownBlock ∧ fv'.ownBlock ≠ some ob := by
  have hob := I.ops.lt
  refine ⟨?_, ?_, hE.below I.below I.size I.few I.many, Nat.le_trans I.size hE.size, sep_step I.seen I.sep1 hloc, ?_⟩
  · refine own_same I.seen (fun g hg hlt => hE.block g hlt ?_ ?_)
    · intro e; exact I.sep1 (e.trans hg.symm)
    · rcases own_block I.seen with e | ⟨g', c, e, _, hh⟩
      · rw [e] at hg; cases hg
      · rw [e] at hg; cases hg; exact I.many.ne hh
  · obtain ⟨c, hh⟩ := rowIs_heap I.ops
    exact I.ops.of_block (hE.block ob hob I.sep2 (I.many.ne hh))
  · rcases hloc with e | ⟨g, e, hg⟩
    · rw [e]; exact I.sep2
    · rw [e]; intro h; cases h; omega

theorem Inv.old {w wr w3 : World} {B ob n k : Nat} {f : Nat → ByteArray} {fv mv sv fv' mv' : Value} {L : List ByteArray} {s : ByteArray} (I : Inv w wr B ob n k f fv mv sv L) (hm : mL L s.data.toList = true)
    (hF : Few w3 B fv' (addL L s)) (hM : Many w3 B mv' (addL L s)) (hE : Eff wr w3 fv mv) (hloc : fv'.ownBlock = fv.ownBlock ∨ ∃ g, fv'.ownBlock = some g ∧ wr.heap.size ≤ g) :
    Inv w w3 B ob n (k + 1) f fv' mv' sv L := by
  obtain ⟨h1, h2, h3, h4, h5, h6⟩ := I.afterStep hE hloc
  have ha : addL L s = L := by unfold addL; rw [hm]; rfl
  rw [ha] at hF hM
  exact ⟨Nat.le_succ_of_le I.len, I.dist, I.sizes, hF, hM, h1, I.shape, h2, h3, h4, h5, h6, I.sep3⟩

theorem Inv.new {w wr w3 w4 : World} {B ob n k : Nat} {f : Nat → ByteArray} {fv mv sv fv' mv' sv' : Value} {L : List ByteArray} {s : ByteArray} (I : Inv w wr B ob n k f fv mv sv L) (hm : mL L s.data.toList = false) (hs : s.size ≤ maxLen)
    (hF : Few w3 B fv' (addL L s)) (hM : Many w3 B mv' (addL L s)) (hE : Eff wr w3 fv mv) (hloc : fv'.ownBlock = fv.ownBlock ∨ ∃ g, fv'.ownBlock = some g ∧ wr.heap.size ≤ g)
    (hown : w4.ownsRow B 9 1 sv' (L.length + 1) (L.map Value.string ++ [.string s])) (hg : (w3.alloc (.cells #[.string s] 9)).grownBy w4 sv.ownBlock) (hl : sv'.ownBlock = sv.ownBlock ∨ sv'.ownBlock = some (w3.heap.size + 1)) :
    Inv w w4 B ob n (k + 1) f fv' mv' sv' (L ++ [s]) := by
  obtain ⟨h1, h2, h3, h4, h5, h6⟩ := I.afterStep hE hloc
  have ha : addL L s = L ++ [s] := by unfold addL; rw [hm]; rfl
  rw [ha] at hF hM
  have hg' : w3.grownBy w4 sv.ownBlock := (World.grownBy_alloc w3 _ _).trans hg
  have hsv : sv.ownBlock ≠ none := by
    obtain ⟨sb, cap, rfl⟩ := I.shape
    intro h; cases h
  refine ⟨by simp; have := I.len; omega, I.dist.snoc hm, ?_, ?_, ?_, ?_, ?_, ?_, ?_, Nat.le_trans h4 hg'.size, ?_, h6, ?_⟩
  · intro i hi
    rw [List.length_append, List.length_singleton] at hi
    rcases Nat.lt_or_ge i L.length with h | h
    · rw [fL_append h]; exact I.sizes i h
    · obtain rfl : i = L.length := by omega
      rw [fL_snoc]; exact hs
  · exact own_same hF (fun g hgb hlt => hg'.block g hlt (fun e => h5 (hgb.trans e)))
  · refine hM.same (fun g hgb hlt => hg'.block g hlt (fun e => ?_))
    rcases own_block h1 with e' | ⟨g', c, e', _, hh⟩
    · exact hsv e'
    · rw [e'] at e; cases e; exact hM.ne hh hgb
  · rw [List.map_append, List.length_append, List.length_singleton]; exact hown
  · obtain ⟨g, cap, e⟩ := own_shape hown
    exact ⟨g, cap, by rw [List.length_append, List.length_singleton]; exact e⟩
  · have hob := h2.lt
    exact h2.of_block (hg'.block ob hob (fun e => I.sep3 e.symm))
  · refine h3.grown hg' h4 (fun k hk => ?_)
    rcases own_block h1 with e' | ⟨g', c, e', hB, hh⟩
    · exact absurd e' hsv
    · rw [e'] at hk; cases hk; exact hB
  · rcases hl with e | e
    · rw [e]; exact h5
    · rw [e]
      intro h
      have := own_block_lt hF h
      omega
  · rcases hl with e | e
    · rw [e]; exact I.sep3
    · rw [e]
      have := h2.lt
      intro h; cases h; omega

theorem Inv.drewN {w wr : World} {B ob n k : Nat} {f : Nat → ByteArray} {fv mv sv : Value} {L : List ByteArray} (I : Inv w wr B ob n k f fv mv sv L) (q : Nat) : Inv w (wr.drewN q) B ob n k f fv mv sv L :=
  ⟨I.len, I.dist, I.sizes, I.few, I.many.same (fun _ _ _ => rfl), I.seen, I.shape, I.ops, below_drewN I.below q, I.size, I.sep1, I.sep2, I.sep3⟩

end Go.Proofs.Qxb6602792a
