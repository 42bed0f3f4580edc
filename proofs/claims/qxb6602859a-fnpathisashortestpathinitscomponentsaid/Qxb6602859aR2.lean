/-
  Search by breadth, the way back, and the relaxation of all edges in rounds, told without Go.
-/
import Derived.Test.Qxb6602859aR1
namespace Go.Proofs.Qxb6602859a
set_option linter.unusedVariables false
set_option linter.unusedSimpArgs false

/-- an edge that counts and stays among the nodes that are ok -/
def EdO (n : Nat) (off to : Nat → Nat) (km ok : Nat → Bool) (x y : Nat) : Prop := Ed n off to km x y ∧ ok y = true

structure Bf (n : Nat) (off to : Nat → Nat) (km ok : Nat → Bool) (u v : Nat) (Q : List Nat) (d pv : Nat → Nat) (h : Nat) : Prop where
  q0 : Q[0]? = some u
  nd : Q.Nodup
  qN : ∀ x, x ∈ Q → x < n
  d0 : d u = 0
  pu : pv u = u
  le : h ≤ Q.length
  mono : ∀ (i j x y : Nat), Q[i]? = some x → Q[j]? = some y → i ≤ j → d x ≤ d y
  dIdx : ∀ (i x : Nat), Q[i]? = some x → d x ≤ i
  span : ∀ (x y : Nat), Q[h]? = some x → y ∈ Q → d y ≤ d x + 1
  back : ∀ y, y ∈ Q → y ≠ u → pv y ∈ Q ∧ EdO n off to km ok (pv y) y ∧ d y = d (pv y) + 1
  closed : ∀ (i x : Nat), i < h → Q[i]? = some x → ∀ y, EdO n off to km ok x y → y ∈ Q ∧ d y ≤ d x + 1
  notv : ∀ (i : Nat), i < h → Q[i]? ≠ some v

/-- the edges of x before e have been followed -/
def Part (off to : Nat → Nat) (km ok : Nat → Bool) (Q : List Nat) (d : Nat → Nat) (x e : Nat) : Prop :=
  ∀ e', off x ≤ e' → e' < e → km e' = true → ok (to e') = true → to e' ∈ Q ∧ d (to e') ≤ d x + 1

section
variable {n : Nat} {off to : Nat → Nat} {km ok : Nat → Bool} {u v : Nat} {Q : List Nat} {d pv : Nat → Nat} {h : Nat}

theorem Bf.start (hu : u < n) : Bf n off to km ok u v [u] (fun _ => 0) (fun _ => u) 0 := by
  refine { q0 := rfl, nd := by simp, qN := by simp; exact hu, d0 := rfl, pu := rfl, le := by simp, mono := by intros; simp, dIdx := by intros; simp, span := by intros; simp, back := ?_, closed := by intros; omega, notv := by intros; omega }
  intro y hy hne
  simp at hy
  exact absurd hy hne

theorem Part.start (off to : Nat → Nat) (km ok : Nat → Bool) (Q : List Nat) (d : Nat → Nat) (x : Nat) : Part off to km ok Q d x (off x) := by
  intro e' h1 h2
  omega

theorem Part.skip {x e : Nat} (hp : Part off to km ok Q d x e) (hs : km e = true → ok (to e) = true → to e ∈ Q ∧ d (to e) ≤ d x + 1) : Part off to km ok Q d x (e + 1) := by
  intro e' h1 h2 h3 h4
  by_cases he : e' = e
  · subst he; exact hs h3 h4
  · exact hp e' h1 (by omega) h3 h4

theorem Bf.inQ (hb : Bf n off to km ok u v Q d pv h) {x y : Nat} (hx : Q[h]? = some x) (hy : y ∈ Q) : d y ≤ d x + 1 := hb.span x y hx hy

theorem Bf.push (hb : Bf n off to km ok u v Q d pv h) {x y : Nat} (hx : Q[h]? = some x) (hy : y ∉ Q) (hyn : y < n) (he : EdO n off to km ok x y) :
    Bf n off to km ok u v (Q ++ [y]) (up d y (d x + 1)) (up pv y x) h := by
  have hxQ : x ∈ Q := List.mem_of_getElem? hx
  have hlt : h < Q.length := (List.getElem?_eq_some_iff.1 hx).1
  have ne : ∀ z, z ∈ Q → z ≠ y := fun z hz e => hy (e ▸ hz)
  have dQ : ∀ z, z ∈ Q → up d y (d x + 1) z = d z := fun z hz => up_ne _ _ (ne z hz)
  have huQ : u ∈ Q := List.mem_of_getElem? hb.q0
  have get : ∀ (i z : Nat), (Q ++ [y])[i]? = some z → (Q[i]? = some z ∧ i < Q.length) ∨ (i = Q.length ∧ z = y) := by
    intro i z hz
    rcases Nat.lt_or_ge i Q.length with hi | hi
    · rw [List.getElem?_append_left hi] at hz; exact .inl ⟨hz, hi⟩
    · rw [List.getElem?_append_right hi] at hz
      have : i - Q.length = 0 := by
        have := (List.getElem?_eq_some_iff.1 hz).1
        simp at this
        omega
      rw [this] at hz
      simp at hz
      exact .inr ⟨by omega, hz.symm⟩
  refine { q0 := ?_, nd := ?_, qN := ?_, d0 := by rw [dQ u huQ]; exact hb.d0, pu := by rw [up_ne _ _ (ne u huQ)]; exact hb.pu, le := by simp; have := hb.le; omega, mono := ?_, dIdx := ?_, span := ?_, back := ?_, closed := ?_, notv := ?_ }
  · rw [List.getElem?_append_left (by omega)]; exact hb.q0
  · refine List.nodup_append.2 ⟨hb.nd, by simp, ?_⟩
    intro a ha b hb'
    simp at hb'
    subst hb'
    exact ne a ha
  · intro z hz
    rcases mem_snoc.1 hz with hz | rfl
    · exact hb.qN z hz
    · exact hyn
  · intro i j a b ha hb' hij
    rcases get i a ha with ⟨ha, hi⟩ | ⟨hi, rfl⟩
    · have haQ : a ∈ Q := List.mem_of_getElem? ha
      rw [dQ a haQ]
      rcases get j b hb' with ⟨hb', hj⟩ | ⟨hj, rfl⟩
      · rw [dQ b (List.mem_of_getElem? hb')]; exact hb.mono i j a b ha hb' hij
      · rw [up_same]; exact hb.span x a hx haQ
    · rcases get j b hb' with ⟨hb', hj⟩ | ⟨hj, rfl⟩
      · omega
      · exact Nat.le_refl _
  · intro i a ha
    rcases get i a ha with ⟨ha, hi⟩ | ⟨hi, rfl⟩
    · rw [dQ a (List.mem_of_getElem? ha)]; exact hb.dIdx i a ha
    · rw [up_same]
      have := hb.dIdx h x hx
      omega
  · intro x' z hx' hz
    rw [List.getElem?_append_left hlt, hx] at hx'
    cases hx'
    rw [dQ x hxQ]
    rcases mem_snoc.1 hz with hz | rfl
    · rw [dQ z hz]; exact hb.span x z hx hz
    · rw [up_same]; exact Nat.le_refl _
  · intro z hz hzu
    rcases mem_snoc.1 hz with hz | rfl
    · obtain ⟨h1, h2, h3⟩ := hb.back z hz hzu
      rw [up_ne _ _ (ne z hz), dQ z hz, dQ _ h1]
      exact ⟨by simp [h1], h2, h3⟩
    · rw [up_same, up_same, dQ x hxQ]
      exact ⟨by simp [hxQ], he, rfl⟩
  · intro i a hi ha z hz
    rw [List.getElem?_append_left (by omega)] at ha
    obtain ⟨h1, h2⟩ := hb.closed i a hi ha z hz
    rw [dQ z h1, dQ a (List.mem_of_getElem? ha)]
    exact ⟨by simp [h1], h2⟩
  · intro i hi
    rw [List.getElem?_append_left (by omega)]
    exact hb.notv i hi

theorem Part.push {x e y : Nat} (hp : Part off to km ok Q d x e) (hxQ : x ∈ Q) (hy : y ∉ Q) (hty : to e = y) : Part off to km ok (Q ++ [y]) (up d y (d x + 1)) x (e + 1) := by
  have hxy : x ≠ y := fun q => hy (q ▸ hxQ)
  intro e' h1 h2 h3 h4
  rw [up_ne _ _ hxy]
  by_cases he : e' = e
  · subst he; rw [hty, up_same]; simp
  · obtain ⟨a, b⟩ := hp e' h1 (by omega) h3 h4
    rw [up_ne _ _ (fun q : to e' = y => hy (q ▸ a))]
    exact ⟨by simp [a], b⟩

theorem Bf.step (hb : Bf n off to km ok u v Q d pv h) {x : Nat} (hx : Q[h]? = some x) (hv : x ≠ v) (hp : Part off to km ok Q d x (off (x + 1))) : Bf n off to km ok u v Q d pv (h + 1) := by
  have hlt : h < Q.length := (List.getElem?_eq_some_iff.1 hx).1
  refine { hb with le := hlt, span := ?_, closed := ?_, notv := ?_ }
  · intro x' y hx' hy
    have := hb.mono h (h + 1) x x' hx hx' (by omega)
    have := hb.span x y hx hy
    omega
  · rintro i a hi ha y ⟨⟨h1, e, h2, h3, h4, rfl⟩, h5⟩
    by_cases hih : i = h
    · subst hih
      rw [hx] at ha
      cases ha
      exact hp e h2 h3 h4 h5
    · exact hb.closed i a (by omega) ha _ ⟨⟨h1, e, h2, h3, h4, rfl⟩, h5⟩
  · intro i hi
    by_cases hih : i = h
    · subst hih; rw [hx]; intro e; cases e; exact hv rfl
    · exact hb.notv i (by omega)

/-- a walk that is shorter than the number at hand ends at a node that is through -/
theorem Bf.short (hb : Bf n off to km ok u v Q d pv h) (D : Nat) (hD : ∀ x, Q[h]? = some x → D ≤ d x) : ∀ k y, k < D → Wk (EdO n off to km ok) k u y → ∃ i, i < h ∧ Q[i]? = some y ∧ d y ≤ k := by
  have idx : ∀ y k, y ∈ Q → d y ≤ k → k < D → ∃ i, i < h ∧ Q[i]? = some y ∧ d y ≤ k := by
    intro y k hy hdy hk
    obtain ⟨i, hi⟩ := List.mem_iff_getElem?.1 hy
    refine ⟨i, ?_, hi, hdy⟩
    refine Classical.byContradiction fun hih => ?_
    have hil := (List.getElem?_eq_some_iff.1 hi).1
    have hq : Q[h]? = some (Q[h]'(by omega)) := List.getElem?_eq_getElem _
    have := hb.mono h i _ y hq hi (by omega)
    have := hD _ hq
    omega
  intro k
  induction k with
  | zero =>
    rintro y hk rfl
    exact idx _ 0 (List.mem_of_getElem? hb.q0) (by rw [hb.d0]; exact Nat.le_refl _) hk
  | succ k ih =>
    rintro y hk ⟨z, hz, he⟩
    obtain ⟨i, hi, hq, hdz⟩ := ih z (by omega) hz
    obtain ⟨h1, h2⟩ := hb.closed i z hi hq y he
    exact idx y (k + 1) h1 (by omega) hk

/-- the search does not run dry while v can be reached -/
theorem Bf.dry (hb : Bf n off to km ok u v Q d pv Q.length) {k : Nat} (hr : Wk (EdO n off to km ok) k u v) : False := by
  obtain ⟨i, hi, hq, _⟩ := hb.short (k + 1) (fun x hx => by simp at hx) k v (by omega) hr
  exact hb.notv i hi hq

theorem Bf.least (hb : Bf n off to km ok u v Q d pv h) (hv : Q[h]? = some v) {k : Nat} (hr : Wk (EdO n off to km ok) k u v) : d v ≤ k := by
  refine Classical.byContradiction fun hk => ?_
  obtain ⟨i, hi, hq, hd⟩ := hb.short (d v) (fun x hx => by rw [hv] at hx; cases hx; exact Nat.le_refl _) k v (by omega) hr
  omega

/-- the way back from v: k steps -/
def bk (pv : Nat → Nat) (v : Nat) : Nat → Nat
  | 0 => v
  | k + 1 => pv (bk pv v k)

theorem Bf.bkIn (hb : Bf n off to km ok u v Q d pv h) (hv : v ∈ Q) : ∀ k, k ≤ d v → bk pv v k ∈ Q ∧ d (bk pv v k) + k = d v
  | 0, _ => ⟨hv, rfl⟩
  | k + 1, hk => by
    obtain ⟨h1, h2⟩ := hb.bkIn hv k (by omega)
    have hne : bk pv v k ≠ u := fun e => by rw [e, hb.d0] at h2; omega
    obtain ⟨h3, h4, h5⟩ := hb.back _ h1 hne
    refine ⟨h3, ?_⟩
    show d (pv (bk pv v k)) + (k + 1) = d v
    omega

theorem Bf.bkNe (hb : Bf n off to km ok u v Q d pv h) (hv : v ∈ Q) {k : Nat} (hk : k < d v) : bk pv v k ≠ u := fun e => by
  have := (hb.bkIn hv k (by omega)).2
  rw [e, hb.d0] at this
  omega

theorem Bf.bkEd (hb : Bf n off to km ok u v Q d pv h) (hv : v ∈ Q) {k : Nat} (hk : k < d v) : EdO n off to km ok (bk pv v (k + 1)) (bk pv v k) :=
  (hb.back _ (hb.bkIn hv k (by omega)).1 (hb.bkNe hv hk)).2.1

theorem Bf.bkEnd (hb : Bf n off to km ok u v Q d pv h) (hv : v ∈ Q) : bk pv v (d v) = u := by
  obtain ⟨h1, h2⟩ := hb.bkIn hv (d v) (Nat.le_refl _)
  refine Classical.byContradiction fun hne => ?_
  have := (hb.back _ h1 hne).2.2
  omega

theorem Bf.bkWk (hb : Bf n off to km ok u v Q d pv h) (hv : v ∈ Q) : ∀ k, k ≤ d v → Wk (EdO n off to km ok) k (bk pv v k) v
  | 0, _ => rfl
  | k + 1, hk => by
    have := (Wk.one (hb.bkEd hv (k := k) (by omega))).trans (hb.bkWk hv k (by omega))
    rwa [Nat.add_comm] at this

end

/-- what the path is: its nodes, its ends, its edges; no walk is shorter -/
structure IsPath (n : Nat) (off to : Nat → Nat) (km ok : Nat → Bool) (u v : Nat) (p : Nat → Nat) (D : Nat) : Prop where
  first : p 0 = u
  last : p D = v
  edge : ∀ i, i < D → EdO n off to km ok (p i) (p (i + 1))
  inN : ∀ i, i ≤ D → p i < n
  least : ∀ k, Wk (EdO n off to km ok) k u v → D ≤ k
  walk : Wk (EdO n off to km ok) D u v
  small : D < n

theorem len_le_of_nodup : ∀ (n : Nat) (Q : List Nat), Q.Nodup → (∀ x, x ∈ Q → x < n) → Q.length ≤ n
  | 0, Q, _, h => by
    cases Q with
    | nil => simp
    | cons a Q => have := h a (by simp); omega
  | n + 1, Q, hn, h => by
    have h1 := len_le_of_nodup n (Q.filter (fun x => x != n)) (hn.filter _) (fun x hx => by
      have := List.mem_filter.1 hx
      have h2 := h x this.1
      have h3 : x ≠ n := by simpa using this.2
      omega)
    have h2 : Q.length ≤ (Q.filter (fun x => x != n)).length + 1 := by
      clear h1 h
      induction Q with
      | nil => simp
      | cons a Q ih =>
        have hn' := List.nodup_cons.1 hn
        by_cases ha : a = n
        · subst ha
          have : Q.filter (fun x => x != a) = Q := by
            apply List.filter_eq_self.2
            intro x hx
            have : x ≠ a := fun e => hn'.1 (e ▸ hx)
            simpa using this
          simp [this]
        · have : (a != n) = true := by simpa using ha
          have := ih hn'.2
          simp [List.filter_cons, *]
    omega

theorem Bf.path {n : Nat} {off to : Nat → Nat} {km ok : Nat → Bool} {u v : Nat} {Q : List Nat} {d pv : Nat → Nat} {h : Nat} (hb : Bf n off to km ok u v Q d pv h) (hv : Q[h]? = some v) :
    IsPath n off to km ok u v (fun i => bk pv v (d v - i)) (d v) := by
  have hvQ : v ∈ Q := List.mem_of_getElem? hv
  refine ⟨hb.bkEnd hvQ, by simp [bk], fun i hi => ?_, fun i hi => hb.qN _ (hb.bkIn hvQ _ (by omega)).1, fun k hk => hb.least hv hk, ?_, ?_⟩
  · have := hb.bkEd hvQ (k := d v - (i + 1)) (by omega)
    rwa [show d v - (i + 1) + 1 = d v - i by omega] at this
  · have := hb.bkWk hvQ (d v) (Nat.le_refl _)
    rwa [hb.bkEnd hvQ] at this
  · have h1 := hb.dIdx h v hv
    have h2 := (List.getElem?_eq_some_iff.1 hv).1
    have h3 := len_le_of_nodup n Q hb.nd hb.qN
    omega

/-- among the nodes of one component the walks of the whole graph are those that stay inside -/
theorem Wk.inside {n : Nat} {off to : Nat → Nat} {km ok : Nat → Bool} {u v : Nat} (hok : ∀ y, y < n → Reach (Ed n off to km) u y → Reach (Ed n off to km) y v → ok y = true) (hwf : WF n off to) :
    ∀ k y, Wk (Ed n off to km) k u y → Reach (Ed n off to km) y v → Wk (EdO n off to km ok) k u y
  | 0, y, h, _ => h
  | k + 1, y, ⟨z, hz, he⟩, hy => ⟨z, Wk.inside hok hwf k z hz ((Reach.one he).trans hy), he, hok y (he.lt hwf).2 (Reach.trans ⟨k, hz⟩ (Reach.one he)) hy⟩

theorem Wk.weak {n : Nat} {off to : Nat → Nat} {km ok : Nat → Bool} {u : Nat} : ∀ k y, Wk (EdO n off to km ok) k u y → Wk (Ed n off to km) k u y
  | 0, y, h => h
  | k + 1, y, ⟨z, hz, he⟩ => ⟨z, Wk.weak k z hz, he.1⟩

/-! ### relaxation in rounds -/
/-- the numbers found so far are lengths of walks; after r rounds every walk of at most r steps is taken up -/
structure Rx (n : Nat) (off to : Nat → Nat) (km : Nat → Bool) (u : Nat) (D : Nat → Int) (r b : Nat) : Prop where
  du : D u = 0
  sound : ∀ x, x < n → 0 ≤ D x → Wk (Ed n off to km) (D x).toNat u x
  upTo : ∀ k x, k ≤ r → x < n → Wk (Ed n off to km) k u x → 0 ≤ D x ∧ D x ≤ k
  low : ∀ x, -1 ≤ D x
  cap : ∀ x, D x ≤ (b : Int)

/-- at node x and edge e of the round -/
def Thr (n : Nat) (off : Nat → Nat) (km : Nat → Bool) (x e x' e' : Nat) : Prop := x' < n ∧ off x' ≤ e' ∧ e' < off (x' + 1) ∧ (x' < x ∨ (x' = x ∧ e' < e)) ∧ km e' = true

/-- during round r: what is through at node x and edge e -/
structure Rr (n : Nat) (off to : Nat → Nat) (km : Nat → Bool) (u : Nat) (D : Nat → Int) (r : Nat) (ch : Bool) (x e : Nat) : Prop where
  rx : Rx n off to km u D r (4096 * r + e)
  thr : ∀ x' e', Thr n off km x e x' e' → ∀ k, k ≤ r → Wk (Ed n off to km) k u x' → 0 ≤ D (to e') ∧ D (to e') ≤ k + 1
  un : ch = false → ∀ x' e', Thr n off km x e x' e' → 0 ≤ D x' → 0 ≤ D (to e') ∧ D (to e') ≤ D x' + 1

section
variable {n : Nat} {off to : Nat → Nat} {km : Nat → Bool} {u : Nat} {D : Nat → Int} {r x e b b' : Nat} {ch : Bool}

theorem Rx.mono (h : Rx n off to km u D r b) (hb : b ≤ b') : Rx n off to km u D r b' := { h with cap := fun x => by have := h.cap x; omega }

theorem Rx.start (n : Nat) (off to : Nat → Nat) (km : Nat → Bool) (u : Nat) : Rx n off to km u (up (fun _ => -1) u 0) 0 0 := by
  refine ⟨up_same _ _ _, fun x hx h0 => ?_, fun k x hk hx hw => ?_, fun x => ?_, fun x => ?_⟩
  · by_cases hxu : x = u
    · subst hxu; rw [up_same]; exact rfl
    · rw [up_ne _ _ hxu] at h0; omega
  · obtain rfl : k = 0 := by omega
    cases hw
    rw [up_same]; exact ⟨Int.le_refl _, Int.le_refl _⟩
  · by_cases hxu : x = u
    · subst hxu; rw [up_same]; omega
    · rw [up_ne _ _ hxu]; omega
  · by_cases hxu : x = u
    · subst hxu; rw [up_same]; omega
    · rw [up_ne _ _ hxu]; omega

theorem Rr.start (h : Rx n off to km u D r (4096 * r)) : Rr n off to km u D r false 0 (off 0) := by
  refine ⟨h.mono (by omega), ?_, ?_⟩
  · rintro x' e' ⟨h1, h2, h3, h4, h5⟩
    rcases h4 with h4 | ⟨rfl, h4⟩ <;> omega
  · rintro _ x' e' ⟨h1, h2, h3, h4, h5⟩
    rcases h4 with h4 | ⟨rfl, h4⟩ <;> omega

theorem Rr.nextNode (h : Rr n off to km u D r ch x (off (x + 1))) : Rr n off to km u D r ch (x + 1) (off (x + 1)) := by
  have key : ∀ x' e', Thr n off km (x + 1) (off (x + 1)) x' e' → Thr n off km x (off (x + 1)) x' e' := by
    rintro x' e' ⟨h1, h2, h3, h4, h5⟩
    refine ⟨h1, h2, h3, ?_, h5⟩
    rcases h4 with h4 | ⟨rfl, h4⟩
    · rcases Nat.lt_or_ge x' x with h | h
      · exact .inl h
      · obtain rfl : x' = x := by omega
        exact .inr ⟨rfl, h3⟩
    · omega
  exact ⟨h.rx, fun x' e' ht => h.thr x' e' (key x' e' ht), fun hc x' e' ht => h.un hc x' e' (key x' e' ht)⟩

theorem Rr.skipNode (hwf : WF n off to) (h : Rr n off to km u D r ch x (off x)) (hx : x < n) (hD : D x < 0) : Rr n off to km u D r ch (x + 1) (off (x + 1)) := by
  have key : ∀ x' e', Thr n off km (x + 1) (off (x + 1)) x' e' → Thr n off km x (off x) x' e' ∨ x' = x := by
    rintro x' e' ⟨h1, h2, h3, h4, h5⟩
    rcases h4 with h4 | ⟨rfl, h4⟩
    · rcases Nat.lt_or_ge x' x with h | h
      · exact .inl ⟨h1, h2, h3, .inl h, h5⟩
      · exact .inr (by omega)
    · omega
  have hm := hwf.mono x hx
  refine ⟨h.rx.mono (by omega), fun x' e' ht => ?_, fun hc x' e' ht => ?_⟩
  · rcases key x' e' ht with ht | rfl
    · exact h.thr x' e' ht
    · intro k hk hw
      have := (h.rx.upTo k x' hk hx hw).1
      omega
  · rcases key x' e' ht with ht | rfl
    · exact h.un hc x' e' ht
    · intro h0
      omega

theorem Thr.snoc {x' e' : Nat} (h : Thr n off km x (e + 1) x' e') : Thr n off km x e x' e' ∨ (x' = x ∧ e' = e ∧ km e = true) := by
  obtain ⟨h1, h2, h3, h4, h5⟩ := h
  rcases h4 with h4 | ⟨rfl, h4⟩
  · exact .inl ⟨h1, h2, h3, .inl h4, h5⟩
  · rcases Nat.lt_or_ge e' e with h | h
    · exact .inl ⟨h1, h2, h3, .inr ⟨rfl, h⟩, h5⟩
    · obtain rfl : e' = e := by omega
      exact .inr ⟨rfl, rfl, h5⟩

theorem Rr.skipEdge (h : Rr n off to km u D r ch x e) (hx : x < n) (hk : km e = true → 0 ≤ D x → 0 ≤ D (to e) ∧ D (to e) ≤ D x + 1) : Rr n off to km u D r ch x (e + 1) := by
  refine ⟨h.rx.mono (by omega), fun x' e' ht => ?_, fun hc x' e' ht => ?_⟩
  · rcases ht.snoc with ht | ⟨rfl, rfl, hke⟩
    · exact h.thr x' e' ht
    · intro k hk' hw
      have h1 := h.rx.upTo k x' hk' hx hw
      have h2 := hk hke h1.1
      omega
  · rcases ht.snoc with ht | ⟨rfl, rfl, hke⟩
    · exact h.un hc x' e' ht
    · exact hk hke

theorem Rr.set (h : Rr n off to km u D r ch x e) (hx : x < n) (h1 : off x ≤ e) (h2 : e < off (x + 1)) (hke : km e = true) (h0 : 0 ≤ D x) {y : Nat} (hy : to e = y) (hlt : D y < 0 ∨ D x + 1 < D y) :
    Rr n off to km u (up D y (D x + 1)) r true x (e + 1) := by
  have hyu : y ≠ u := fun q => by rw [q, h.rx.du] at hlt; omega
  have ev : ∀ z, (z = y ∧ up D y (D x + 1) z = D x + 1) ∨ (z ≠ y ∧ up D y (D x + 1) z = D z) := fun z => by
    by_cases q : z = y
    · exact .inl ⟨q, by rw [q, up_same]⟩
    · exact .inr ⟨q, up_ne _ _ q⟩
  have hxy : up D y (D x + 1) x = D x := by
    rcases ev x with ⟨q, _⟩ | ⟨_, q⟩
    · rw [← q] at hlt; omega
    · exact q
  have hcx := h.rx.cap x
  refine ⟨⟨?_, ?_, ?_, ?_, ?_⟩, ?_, fun hc => by simp at hc⟩
  · rw [up_ne _ _ (Ne.symm hyu)]; exact h.rx.du
  · intro z hz hz0
    rcases ev z with ⟨q, q'⟩ | ⟨q, q'⟩
    · rw [q'] at hz0 ⊢
      have hw := h.rx.sound x hx h0
      rw [show (D x + 1).toNat = (D x).toNat + 1 by omega]
      exact ⟨x, hw, hx, e, h1, h2, hke, by rw [hy, q]⟩
    · rw [q'] at hz0 ⊢; exact h.rx.sound z hz hz0
  · intro k z hk hz hw
    have := h.rx.upTo k z hk hz hw
    rcases ev z with ⟨q, q'⟩ | ⟨q, q'⟩
    · rw [q']; subst q; omega
    · rw [q']; exact this
  · intro z
    have := h.rx.low z
    rcases ev z with ⟨q, q'⟩ | ⟨q, q'⟩ <;> rw [q'] <;> omega
  · intro z
    have := h.rx.cap z
    rcases ev z with ⟨q, q'⟩ | ⟨q, q'⟩ <;> rw [q'] <;> omega
  · intro x' e' ht k hk hw
    rcases ht.snoc with ht | ⟨rfl, rfl, _⟩
    · have := h.thr x' e' ht k hk hw
      rcases ev (to e') with ⟨q, q'⟩ | ⟨q, q'⟩
      · rw [q']; rw [q] at this; omega
      · rw [q']; exact this
    · have := h.rx.upTo k x' hk hx hw
      rw [hy, up_same]; omega

theorem Rr.finish (h : Rr n off to km u D r ch n e) (he : e ≤ 4096) : Rx n off to km u D (r + 1) (4096 * (r + 1)) := by
  refine { h.rx.mono (b' := 4096 * (r + 1)) (by omega) with upTo := ?_ }
  intro k x hk hx hw
  by_cases hkr : k ≤ r
  · exact h.rx.upTo k x hkr hx hw
  · obtain rfl : k = r + 1 := by omega
    obtain ⟨z, hz, hzn, e', h1, h2, h3, rfl⟩ := hw
    have := h.thr z e' ⟨hzn, h1, h2, .inl hzn, h3⟩ r (Nat.le_refl _) hz
    omega

/-- what the numbers are worth at the end -/
structure Rf (n : Nat) (off to : Nat → Nat) (km : Nat → Bool) (u : Nat) (D : Nat → Int) : Prop where
  sound : ∀ x, x < n → 0 ≤ D x → Wk (Ed n off to km) (D x).toNat u x
  upTo : ∀ k x, k ≤ n → x < n → Wk (Ed n off to km) k u x → 0 ≤ D x ∧ D x ≤ k

theorem Rx.fin (h : Rx n off to km u D n b) : Rf n off to km u D := ⟨h.sound, h.upTo⟩

theorem Rr.fin (hwf : WF n off to) (h : Rr n off to km u D r false n e) : Rf n off to km u D := by
  refine ⟨h.rx.sound, fun k x _ hx hw => ?_⟩
  have : ∀ k x, Wk (Ed n off to km) k u x → 0 ≤ D x ∧ D x ≤ k := by
    intro k
    induction k with
    | zero => rintro x rfl; rw [h.rx.du]; exact ⟨Int.le_refl _, Int.le_refl _⟩
    | succ k ih =>
      rintro x ⟨z, hz, hzn, e', h1, h2, h3, rfl⟩
      have a := ih z hz
      have b := h.un rfl z e' ⟨hzn, h1, h2, .inl hzn, h3⟩ a.1
      omega
  exact this k x hw

end

end Go.Proofs.Qxb6602859a
