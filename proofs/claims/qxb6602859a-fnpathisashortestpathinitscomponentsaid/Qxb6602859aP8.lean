import Derived.Test.Qxb6602859aP7
namespace Go.Proofs.Qxb6602859a
open Go.RowKit Kit
set_option linter.unusedVariables false

theorem Try.info21 : (Try.prog.info? 21).map (fun i => (i.zero, i.size, i.bytes)) = some (some (.int .i32 0), 1, 4) := by kernel_rfl
theorem Try.info5 : (Try.prog.info? 5).map (fun i => (i.zero, i.size, i.bytes)) = some (some (.int .u8 0), 1, 1) := by kernel_rfl

def ZZOut (n M nr na : Nat) (C : Nat → Bool) (r a : Nat → Nat) (f t k : Nat → Int) (N : Nat) (w : World) (e : Ending) (w' : World) : Prop :=
  ∃ new fv tv kv, e = .returned (.tuple #[.int .i64 ((if oth r nr a na = [] then N else N + 1 : Nat) : Int), fv, tv, kv]) ∧
    Row w' 21 fv (M + new.length) (fun i => .int .i32 ((edges f t k M ++ new).getD i (0, 0, 0)).1) ∧
    Row w' 21 tv (M + new.length) (fun i => .int .i32 ((edges f t k M ++ new).getD i (0, 0, 0)).2.1) ∧
    Row w' 5 kv (M + new.length) (fun i => .int .u8 ((edges f t k M ++ new).getD i (0, 0, 0)).2.2) ∧
    NewIs C n new (PrSpec r nr (pick true r nr a na) (oth r nr a na) N) ∧ new.length ≤ 2 * na + 2 * nr ∧ Below w.heap.size w w'

/-- laying the edges -/
structure Lay (w0 wr : World) (eb M : Nat) (f t kk : Nat → Int) (k : Nat) : Prop where
  row : wr.rowIs eb 53 (M * 3) (edgeCell (upTo k f) (upTo k t) (upTo k kk))
  kept : Kept (fun g => g = eb) w0 wr

def boxed (w : World) (M : Nat) (cv : Value) (N : Nat) : World :=
  (w.alloc (.cells (madeCells #[.int .i32 0, .int .i32 0, .int .u8 0] (M * 3)) 53)).alloc (.cells #[cv, .int .i64 (N : Int), .slice (some ⟨w.heap.size, 0, none⟩) M M] 51)

theorem boxed_below (w : World) (M : Nat) (cv : Value) (N : Nat) : Below w.heap.size w (boxed w M cv N) :=
  ((Below.refl _ _).alloc (Nat.le_refl _) _).alloc (by simp) _

theorem boxed_cells (w : World) (M : Nat) (cv : Value) (N : Nat) : (boxed w M cv N).cell? ⟨w.heap.size + 1, 0, none⟩ = some cv ∧ (boxed w M cv N).cell? ⟨w.heap.size + 1, 1, none⟩ = some (.int .i64 (N : Int)) ∧ (boxed w M cv N).cell? ⟨w.heap.size + 1, 2, none⟩ = some (.slice (some ⟨w.heap.size, 0, none⟩) M M) ∧
    (∀ i, (boxed w M cv N).frozen? ⟨w.heap.size + 1, i, none⟩ = false) ∧ (boxed w M cv N).heap.size = w.heap.size + 2 := by
  have hb : (boxed w M cv N).heap[w.heap.size + 1]? = some (.cells #[cv, .int .i64 (N : Int), .slice (some ⟨w.heap.size, 0, none⟩) M M] 51) := by
    have := Deep.blk_alloc_new (w.alloc (.cells (madeCells #[.int .i32 0, .int .i32 0, .int .u8 0] (M * 3)) 53)) (.cells #[cv, .int .i64 (N : Int), .slice (some ⟨w.heap.size, 0, none⟩) M M] 51)
    simpa [boxed] using this
  refine ⟨?_, ?_, ?_, ?_, ?_⟩
  · simp [World.cell?, hb]
  · simp [World.cell?, hb]
  · simp [World.cell?, hb]
  · intro i; simp [World.frozen?, hb]
  · simp [boxed]

theorem Lay.start (w : World) (M : Nat) (cv : Value) (N : Nat) (f t kk : Nat → Int) : Lay (boxed w M cv N) (boxed w M cv N) w.heap.size M f t kk 0 :=
  ⟨((made53_row w M).alloc _).congr (fun i hi => by simp [edgeCell, upTo]), Kept.refl _ _⟩

theorem Kept.drew {S : Nat → Prop} {w w' : World} (h : Kept S w w') : Kept S w w'.drew := ⟨h.os, h.tape, h.output, h.size, h.block⟩

theorem Lay.step {w0 wr : World} {eb M : Nat} {f t kk : Nat → Int} {k : Nat} (h : Lay w0 wr eb M f t kk k) :
    Lay w0 (((wr.setCell ⟨eb, k * 3, none⟩ (.int .i32 (f k))).setCell ⟨eb, k * 3 + 1, none⟩ (.int .i32 (t k))).setCell ⟨eb, k * 3 + 2, none⟩ (.int .u8 (kk k))).drew eb M f t kk (k + 1) :=
  ⟨(row_set3 h.row).drew, (((h.kept.setCell (.inl rfl) _).setCell (.inl rfl) _).setCell (.inl rfl) _).drew⟩

theorem edges_upTo (f t kk : Nat → Int) (M : Nat) : edges (upTo M f) (upTo M t) (upTo M kk) M = edges f t kk M := by
  unfold edges
  apply List.map_congr_left
  intro i hi
  have : i < M := by simpa using hi
  simp [upTo, this]

theorem Lay.bs {w wr : World} {M n N : Nat} {ca : Option Addr} {cc : Nat} {f t kk : Nat → Int} (h : Lay (boxed w M (.slice ca n cc) N) wr w.heap.size M f t kk M) (hM : M ≤ 65536) :
    BS wr w.heap.size (w.heap.size + 1) (.slice ca n cc) (N : Int) (.slice (some ⟨w.heap.size, 0, none⟩) M M) (edges f t kk M) := by
  obtain ⟨b0, b1, b2, b3, b4⟩ := boxed_cells w M (.slice ca n cc) N
  have hne : ¬ (fun g => g = w.heap.size) (w.heap.size + 1) := by simp
  have hblk := h.kept.block (w.heap.size + 1) (by omega) hne
  have hfro : ∀ i, wr.frozen? ⟨w.heap.size + 1, i, none⟩ = false := fun i => (World.frozen?_of_block (a := ⟨w.heap.size + 1, i, none⟩) hblk).trans (b3 i)
  refine ⟨h.kept.cell b0 hne, h.kept.cell b1 hne, h.kept.cell b2 hne, hfro 1, hfro 2, ?_, by simp [Value.ownBlock], by have := h.kept.size; omega⟩
  have := own_of_rowIs (B := w.heap.size) h.row (Nat.le_refl _) (by unfold maxLen; omega)
  rw [edges_upTo] at this
  have hl : (edges f t kk M).length = M := by simp [edges]
  rw [hl]
  exact this

theorem Row.lt {w : World} {t : TypeId} {v : Value} {n : Nat} {f : Nat → Value} (h : Row w t v n f) (hn : 0 < n) {g c : Nat} (e : v = .slice (some ⟨g, 0, none⟩) n c) : g < w.heap.size := by
  obtain ⟨a, c', rfl, _, _, h0 | ⟨g', rfl, hr⟩⟩ := h
  · omega
  · cases e; exact hr.lt

/-- copying the edges out -/
structure Cpy (w2 wr : World) (H m : Nat) (ef et ek : Nat → Int) (k : Nat) : Prop where
  r0 : wr.rowIs H 21 m (fun i => .int .i32 (upTo k ef i))
  r1 : wr.rowIs (H + 1) 21 m (fun i => .int .i32 (upTo k et i))
  r2 : wr.rowIs (H + 1 + 1) 5 m (fun i => .int .u8 (upTo k ek i))
  kept : Kept (fun _ => False) w2 wr

theorem row_upTo {w : World} {g t m k : Nat} {K : IntKind} {f : Nat → Int} (h : w.rowIs g t m (fun i => .int K (upTo k f i))) : (w.setCell ⟨g, k, none⟩ (.int K (f k))).rowIs g t m (fun i => .int K (upTo (k + 1) f i)) := by
  refine (h.set k _).congr (fun i hi => ?_)
  unfold upTo
  by_cases e : i = k
  · subst e; simp
  · have : i < k ↔ i < k + 1 := by omega
    simp [e, this]

theorem Cpy.step {w2 wr : World} {H m : Nat} {ef et ek : Nat → Int} {k : Nat} (h : Cpy w2 wr H m ef et ek k) (hH : w2.heap.size ≤ H) :
    Cpy w2 (((wr.setCell ⟨H, k, none⟩ (.int .i32 (ef k))).setCell ⟨H + 1, k, none⟩ (.int .i32 (et k))).setCell ⟨H + 1 + 1, k, none⟩ (.int .u8 (ek k))) H m ef et ek (k + 1) :=
  ⟨((row_upTo h.r0).setOther (by first | (simp; done) | (simp; omega)) _).setOther (by first | (simp; done) | (simp; omega)) _, (row_upTo (h.r1.setOther (by first | (simp; done) | (simp; omega)) _)).setOther (by first | (simp; done) | (simp; omega)) _, row_upTo ((h.r2.setOther (by first | (simp; done) | (simp; omega)) _).setOther (by first | (simp; done) | (simp; omega)) _),
   ((h.kept.setCell (.inr hH) _).setCell (.inr (by simp; omega)) _).setCell (.inr (by simp; omega)) _⟩

theorem Cpy.start (w : World) (m : Nat) (ef et ek : Nat → Int) : Cpy w (((w.alloc (.cells (madeCells #[.int .i32 0] m) 21)).alloc (.cells (madeCells #[.int .i32 0] m) 21)).alloc (.cells (madeCells #[.int .u8 0] m) 5)) w.heap.size m ef et ek 0 := by
  have h0 := ((World.rowIs_made w (.int .i32 0) m 21).alloc (.cells (madeCells #[.int .i32 0] m) 21)).alloc (.cells (madeCells #[.int .u8 0] m) 5)
  have h1 := (World.rowIs_made (w.alloc (.cells (madeCells #[.int .i32 0] m) 21)) (.int .i32 0) m 21).alloc (.cells (madeCells #[.int .u8 0] m) 5)
  have h2 := World.rowIs_made ((w.alloc (.cells (madeCells #[.int .i32 0] m) 21)).alloc (.cells (madeCells #[.int .i32 0] m) 21)) (.int .u8 0) m 5
  simp only [World.size_alloc] at h1 h2
  exact ⟨h0.congr (fun i _ => by simp [upTo]), h1.congr (fun i _ => by simp [upTo]), h2.congr (fun i _ => by simp [upTo]),
    Kept.of_below ((((Below.refl w.heap.size w).alloc (Nat.le_refl _) _).alloc (by simp) _).alloc (by simp; omega) _)⟩

set_option maxHeartbeats 1000000 in
theorem zzp_any (n M nr na : Nat) (C : Nat → Bool) (r a : Nat → Nat) (f t k : Nat → Int) (cv fv tv kv rv av : Value) (N : Nat) (w : World)
    (hM : M ≤ 65536) (hnr2 : nr ≤ 4096) (hna2 : na ≤ 4096) (hn : n ≤ N) (hN : N ≤ 2147483647)
    (hr : ∀ i, i < nr → r i < n) (ha : ∀ i, i < na → a i < n)
    (rowF : Row w 21 fv M (fun i => .int .i32 (f i))) (rowT : Row w 21 tv M (fun i => .int .i32 (t i))) (rowK : Row w 5 kv M (fun i => .int .u8 (k i)))
    (rowR : Row w 3 rv nr (fun i => .int .i64 (r i : Int))) (rowA : Row w 3 av na (fun i => .int .i64 (a i : Int)))
    (hC : Row w 4 cv n (fun i => .bool (C i))) :
    Calls Try.prog 21 #[cv, .int .i64 (N : Int), fv, tv, kv, rv, av] w fun e w' => ZZOut n M nr na C r a f t k N w e w' := by
  obtain ⟨fa, fc, rfl, hf1, hf2, hff⟩ := rowF.parts
  obtain ⟨ta, tc, rfl, ht1, ht2, htt⟩ := rowT.parts
  obtain ⟨ka, kc, rfl, hk1, hk2, hkk⟩ := rowK.parts
  obtain ⟨ca, cc, rfl, hc1, hc2, hcc⟩ := hC.parts
  clear hcc
  have hmk := run_make53 M hM
  have HF := hid hff
  have HT := hid htt
  have HK := hid hkk
  have HC := hid hC
  have RR := hid rowR
  have RA := hid rowA
  have HR := hid hr
  have HA := hid ha
  clear hff htt hkk hC rowR rowA hr ha rowF rowT rowK
  go_enter Try.func21, Try.ntmps21
  go_wp2
  go_loopw [19, 33] (fun _ i wr => ∃ j : Nat, j ≤ M ∧ i = .int .i64 j ∧ Hid (Lay (boxed w M (.slice ca n cc) N) wr w.heap.size M f t k j)) (fun _ i _ => M - (intOf i).toNat)
  case atStart => exact ⟨0, Nat.zero_le _, rfl, hid (Lay.start w M _ N f t k)⟩
  case round =>
    obtain ⟨j, hj, rfl, HL⟩ := hrel
    obtain ⟨b0, b1, b2, b3, b4⟩ := boxed_cells w M (.slice ca n cc) N
    have HB := hid (HL.out.kept.below (boxed_below w M (.slice ca n cc) N) (by omega) (fun g h => by have h' : g = w.heap.size := h; omega))
    by_cases hlt : j < M
    · obtain ⟨fg, rfl, cf⟩ := HF.out j hlt
      obtain ⟨tg, rfl, ct⟩ := HT.out j hlt
      obtain ⟨kg, rfl, ck⟩ := HK.out j hlt
      have nf : w.heap.size ≠ fg := Nat.ne_of_gt (World.block_lt_of_cell? _ _ cf)
      have nt : w.heap.size ≠ tg := Nat.ne_of_gt (World.block_lt_of_cell? _ _ ct)
      have nk : w.heap.size ≠ kg := Nat.ne_of_gt (World.block_lt_of_cell? _ _ ck)
      have cf := cell_later HB.out cf
      have ct := cell_later HB.out ct
      have ck := cell_later HB.out ck
      have cb := HL.out.kept.cell b2 (fun e => by have e' : w.heap.size + 1 = w.heap.size := e; omega)
      have e0 := HL.out.row.cell (i := j * 3) (by omega)
      have e1 := HL.out.row.cell (i := j * 3 + 1) (by omega)
      have e2 := HL.out.row.cell (i := j * 3 + 2) (by omega)
      have z0 := HL.out.row.frozen (j * 3)
      have z1 := HL.out.row.frozen (j * 3 + 1)
      have z2 := HL.out.row.frozen (j * 3 + 2)
      have i0 : (0 : Int) ≤ (j : Int) := by omega
      have i1 : (j : Int) < (M : Int) := by omega
      generalize edgeCell (upTo j f) (upTo j t) (upTo j k) (j * 3) = v0 at e0
      generalize edgeCell (upTo j f) (upTo j t) (upTo j k) (j * 3 + 1) = v1 at e1
      generalize edgeCell (upTo j f) (upTo j t) (upTo j k) (j * 3 + 2) = v2 at e2
      clear b0 b1 b2 b3 b4
      go_wp2
      go_region_held3 (fun w' => w'.cell? ⟨w.heap.size + 1, 2, none⟩ = some (.slice (some ⟨w.heap.size, 0, none⟩) M M) ∧ w'.cell? ⟨fg, j, none⟩ = some (.int .i32 (f j)) ∧ w'.cell? ⟨tg, j, none⟩ = some (.int .i32 (t j)) ∧ w'.cell? ⟨kg, j, none⟩ = some (.int .u8 (k j))) (go_keep) (fail)
      all_goals go_wp2
      go_roundw
      case rel =>
        exact ⟨j + 1, by omega, by go_num, hid HL.out.step⟩
      case measure => simp [intOf]; omega
    · obtain rfl : M = j := by omega
      have hsz : w.heap.size + 2 ≤ wr.heap.size := by have := HL.out.kept.size; omega
      have HBS := hid (HL.out.bs hM)
      have hK : Kept (fun _ => False) w wr := Kept.of_below HB.out
      have hel : (edges f t k M).length ≤ 65536 := by simp [edges]; exact hM
      clear b0 b1 b2 b3 b4
      go_wp2_with fail
      refine (pre_any w.heap.size (w.heap.size + 1) n nr na C r a _ _ rv av N _ wr hnr2 hna2 hn hN hel HR.out HA.out (RR.out.kept hK (fun _ _ _ h => h)) (RA.out.kept hK (fun _ _ _ h => h)) (HC.out.kept hK (fun _ _ _ h => h)) HBS.out (fun h0 g c e hs => ?_) (fun h0 g c e hs => ?_)).mono ?_
      · have := RR.out.lt h0 e
        rcases hs with h | h
        · omega
        · simp [Value.ownBlock] at h; omega
      · have := HC.out.lt h0 e
        rcases hs with h | h
        · omega
        · simp [Value.ownBlock] at h; omega
      rintro e w2 ⟨rfl, ev', new, hbs2, hnew, hnl, hk2, hloc⟩
      obtain ⟨ea, ec, rfl, he1, he2, hcells⟩ := own53_cell hbs2.own rfl
      have hB2 : Below w.heap.size w w2 := hk2.below HB.out (by omega) (fun g hs => by
        rcases hs with h | h
        · omega
        · simp [Value.ownBlock] at h; omega)
      have hml : (edges f t k M ++ new).length = M + new.length := by simp [edges]
      obtain ⟨m, em⟩ : ∃ m, m = (edges f t k M ++ new).length := ⟨_, rfl⟩
      obtain ⟨ef, eef⟩ : ∃ ef : Nat → Int, ef = fun i => ((edges f t k M ++ new).getD i (0, 0, 0)).1 := ⟨_, rfl⟩
      obtain ⟨et, eet⟩ : ∃ et : Nat → Int, et = fun i => ((edges f t k M ++ new).getD i (0, 0, 0)).2.1 := ⟨_, rfl⟩
      obtain ⟨ek, eek⟩ : ∃ ek : Nat → Int, ek = fun i => ((edges f t k M ++ new).getD i (0, 0, 0)).2.2 := ⟨_, rfl⟩
      have hcells' : ∀ i, i < m → ∃ g, ea = some ⟨g, 0, none⟩ ∧ w2.cell? ⟨g, i * 3, none⟩ = some (.int .i32 (ef i)) ∧ w2.cell? ⟨g, i * 3 + 1, none⟩ = some (.int .i32 (et i)) ∧ w2.cell? ⟨g, i * 3 + 2, none⟩ = some (.int .u8 (ek i)) := by
        rw [em, eef, eet, eek]; exact hcells
      have c2 := hbs2.c2
      have c1 := hbs2.c1
      rw [← em] at c2 he1
      obtain ⟨NN, eNN⟩ : ∃ NN : Int, NN = ((if oth r nr a na = [] then N else N + 1 : Nat) : Int) := ⟨_, rfl⟩
      rw [← eNN] at c1
      have hbb := hbs2.lt
      have hm : m ≤ 131072 := by omega
      have HC2 := hid hcells'
      have HNEW := hid hnew
      have HB2 := hid hB2
      have EM := hid (em.trans hml)
      have EF := hid eef
      have ET := hid eet
      have EK := hid eek
      have ENN := hid eNN
      unfold maxLen at he2
      clear hcells hcells' hbs2 hnew hB2 hml em eef eet eek eNN hk2 hloc HBS HL hel hmk
      have mk1 := fun z => run_make_row' (P := Try.prog) 22 21 (.int .i32 0) 4 Try.underlying22 Try.info21 rfl .i64 .i64 m (by omega) (by omega) z
      have mk2 := fun z => run_make_row' (P := Try.prog) 23 5 (.int .u8 0) 1 Try.underlying23 Try.info5 rfl .i64 .i64 m (by omega) (by omega) z
      obtain ⟨H, eH⟩ : ∃ H, H = w2.heap.size := ⟨_, rfl⟩
      generalize ebb : w.heap.size + 1 = bb at c1 c2 hbb ⊢
      have EBB := hid ebb
      have n0 : bb ≠ w2.heap.size := by omega
      have n1 : bb ≠ w2.heap.size + 1 := by omega
      have n2 : bb ≠ w2.heap.size + 1 + 1 := by omega
      have a3 := (Cpy.start w2 m ef et ek).kept.cell c2 (fun h => h)
      clear ebb hsz
      go_wp2
      go_loopw [23, 83] (fun _ i wr => ∃ j : Nat, j ≤ m ∧ i = .int .i64 j ∧ Hid (Cpy w2 wr w2.heap.size m ef et ek j)) (fun _ i _ => m - (intOf i).toNat)
      case atStart => exact ⟨0, Nat.zero_le _, rfl, hid (Cpy.start w2 m ef et ek)⟩
      case round =>
        clear hj hlt
        obtain ⟨j, hj, rfl, HL⟩ := hrel
        have d1 := HL.out.kept.cell c1 (fun h => h)
        have d2 := HL.out.kept.cell c2 (fun h => h)
        by_cases hlt : j < m
        · obtain ⟨g, rfl, g0, g1, g2⟩ := HC2.out j hlt
          have m0 : w2.heap.size ≠ g := Nat.ne_of_gt (World.block_lt_of_cell? _ _ g0)
          have m1 : w2.heap.size + 1 ≠ g := by have : g < w2.heap.size := World.block_lt_of_cell? _ _ g0; omega
          have m2 : w2.heap.size + 1 + 1 ≠ g := by have : g < w2.heap.size := World.block_lt_of_cell? _ _ g0; omega
          have n0 := n0.symm
          have n1 := n1.symm
          have n2 := n2.symm
          have g0 := HL.out.kept.cell g0 (fun h => h)
          have g1 := HL.out.kept.cell g1 (fun h => h)
          have g2 := HL.out.kept.cell g2 (fun h => h)
          have e0 := HL.out.r0.cell hlt
          have e1 := HL.out.r1.cell hlt
          have e2 := HL.out.r2.cell hlt
          have z0 := HL.out.r0.frozen j
          have z1 := HL.out.r1.frozen j
          have z2 := HL.out.r2.frozen j
          go_wp2
          go_roundw
          case rel => exact ⟨j + 1, by omega, by go_num, hid (HL.out.step (Nat.le_refl _))⟩
          case measure => simp [intOf]; omega
        · obtain rfl : m = j := by omega
          go_wp2
          refine bodyPost_ret (v := .tuple #[.int .i64 NN, .slice (some ⟨w2.heap.size, 0, none⟩) m m, .slice (some ⟨w2.heap.size + 1, 0, none⟩) m m, .slice (some ⟨w2.heap.size + 1 + 1, 0, none⟩) m m]) (by simp [results, Try.results21, go_sem]) rfl ?_
          have EM' := EM.out
          refine ⟨new, _, _, _, by rw [ENN.out], ?_, ?_, ?_, HNEW.out, hnl, ?_⟩
          · rw [← EM']
            refine ⟨_, _, rfl, Nat.le_refl _, by omega, .inr ⟨_, rfl, HL.out.r0.congr (fun i hi => ?_)⟩⟩
            rw [EF.out]; simp [upTo, hi]
          · rw [← EM']
            refine ⟨_, _, rfl, Nat.le_refl _, by omega, .inr ⟨_, rfl, HL.out.r1.congr (fun i hi => ?_)⟩⟩
            rw [ET.out]; simp [upTo, hi]
          · rw [← EM']
            refine ⟨_, _, rfl, Nat.le_refl _, by omega, .inr ⟨_, rfl, HL.out.r2.congr (fun i hi => ?_)⟩⟩
            rw [EK.out]; simp [upTo, hi]
          · exact HL.out.kept.below HB2.out HB2.out.size (fun g h => h.elim)

end Go.Proofs.Qxb6602859a
