import Derived.Test.Qxb6602859aP6
import Derived.Deep.RegionHeld3
namespace Go.Proofs.Qxb6602859a
open Go.RowKit Kit
set_option linter.unusedVariables false

/-- the appenders that are no readers, where there are readers -/
def oth (r : Nat → Nat) (nr : Nat) (a : Nat → Nat) (na : Nat) : List Nat := if nr = 0 then [] else pick false r nr a na

def PreOut2 (B bb n nr na : Nat) (C : Nat → Bool) (r a : Nat → Nat) (cv ev : Value) (N : Nat) (E : List Edge) (w w' : World) : Prop :=
  ∃ ev' new, BS w' B bb cv ((if oth r nr a na = [] then N else N + 1 : Nat) : Int) ev' (E ++ new) ∧
    NewIs C n new (PrSpec r nr (pick true r nr a na) (oth r nr a na) N) ∧ new.length ≤ 2 * na + 2 * nr ∧ Kept (SB bb ev) w w' ∧ Loc w ev ev'

theorem PreOut2.early {B bb n nr na : Nat} {C : Nat → Bool} {r a : Nat → Nat} {cv ev : Value} {N : Nat} {E : List Edge} {w : World} (h : nr = 0 ∨ na = 0) (hbs : BS w B bb cv (N : Int) ev E) : PreOut2 B bb n nr na C r a cv ev N E w w := by
  have ho : oth r nr a na = [] := by
    unfold oth
    rcases h with h | h
    · rw [if_pos h]
    · subst h; split <;> simp [pick]
  have hb : pick true r nr a na = [] := by
    rcases h with h | h
    · subst h; simp [pick, memI]
    · subst h; simp [pick]
  refine ⟨ev, [], by rw [List.append_nil, if_pos ho]; exact hbs, (NewIs.nil C n).congr (fun u v => ?_), Nat.zero_le _, Kept.refl _ _, .inl rfl⟩
  rw [ho, hb]
  unfold PrSpec
  constructor
  · exact fun h => h.elim
  · rintro (⟨_, h⟩ | ⟨i, h, _⟩ | ⟨i, _, ⟨h, _⟩ | ⟨_, h, _⟩⟩)
    · cases h
    · simp at h
    · exact absurd rfl h
    · exact absurd rfl h

set_option maxHeartbeats 400000 in
theorem pre_any (B bb n nr na : Nat) (C : Nat → Bool) (r a : Nat → Nat) (cv ev rv av : Value) (N : Nat) (E : List Edge) (w : World)
    (hnr2 : nr ≤ 4096) (hna2 : na ≤ 4096) (hn : n ≤ N) (hN : N ≤ 2147483647) (hlen : E.length ≤ 65536)
    (hr : ∀ i, i < nr → r i < n) (ha : ∀ i, i < na → a i < n)
    (rowR : Row w 3 rv nr (fun i => .int .i64 (r i : Int))) (rowA : Row w 3 av na (fun i => .int .i64 (a i : Int)))
    (hC : Row w 4 cv n (fun i => .bool (C i))) (hbs : BS w B bb cv (N : Int) ev E) (sepR : 0 < nr → ∀ g c, rv = .slice (some ⟨g, 0, none⟩) nr c → ¬ SB bb ev g) (sepC : 0 < n → ∀ g c, cv = .slice (some ⟨g, 0, none⟩) n c → ¬ SB bb ev g) :
    Calls Try.prog 29 #[.pointer (some ⟨bb, 0, none⟩), rv, av] w fun e w' => e = .returned (.tuple #[]) ∧ PreOut2 B bb n nr na C r a cv ev N E w w' := by
  obtain ⟨ra, rc, rfl, hr1, hr2, hrr⟩ := rowR
  obtain ⟨aa, ac, rfl, ha1, ha2, har⟩ := rowA
  by_cases h0 : nr = 0
  · subst h0
    have HB := hid hbs
    clear hbs
    go_enter Try.func29, Try.ntmps29
    go_wp2
    exact bodyPost_ret (v := .tuple #[]) (by simp [results, Try.results29, go_sem]) rfl ⟨rfl, .early (.inl rfl) HB.out⟩
  by_cases h1 : na = 0
  · subst h1
    have HB := hid hbs
    have q : ((nr : Int) == 0) = false := by simp; omega
    clear hbs
    go_enter Try.func29, Try.ntmps29
    go_wp2
    exact bodyPost_ret (v := .tuple #[]) (by simp [results, Try.results29, go_sem]) rfl ⟨rfl, .early (.inr rfl) HB.out⟩
  obtain ⟨rg, rfl, rowR⟩ := hrr.resolve_left h0
  obtain ⟨ag, rfl, rowA⟩ := har.resolve_left h1
  refine (pre_main B bb n nr na rg ag rc ac C r a cv ev N E w (by omega) (by omega) hnr2 hna2 hn hN hlen hr ha rowR rowA hC hbs (sepR (by omega) rg rc rfl) (sepC (by have := hr 0 (by omega); omega))).mono ?_
  rintro e w' ⟨rfl, h⟩
  refine ⟨rfl, ?_⟩
  have ho : oth r nr a na = pick false r nr a na := if_neg h0
  unfold PreOut2
  rw [ho]
  exact h

/-- cell j of the flat row -/
def edgeCell (f t k : Nat → Int) (j : Nat) : Value := if j % 3 = 0 then .int .i32 (f (j / 3)) else if j % 3 = 1 then .int .i32 (t (j / 3)) else .int .u8 (k (j / 3))

def edges (f t k : Nat → Int) (M : Nat) : List Edge := (List.range M).map fun i => (f i, t i, k i)

theorem flat_edges (f t k : Nat → Int) : ∀ M, flat (edges f t k M) = (List.range (M * 3)).map (edgeCell f t k)
  | 0 => rfl
  | M + 1 => by
    have e : edges f t k (M + 1) = edges f t k M ++ [(f M, t M, k M)] := by simp [edges, List.range_succ]
    have e2 : (M + 1) * 3 = M * 3 + 1 + 1 + 1 := by omega
    have d0 : edgeCell f t k (M * 3) = .int .i32 (f M) := by unfold edgeCell; rw [if_pos (by omega)]; congr; omega
    have d1 : edgeCell f t k (M * 3 + 1) = .int .i32 (t M) := by unfold edgeCell; rw [if_neg (by omega), if_pos (by omega)]; congr; omega
    have d2 : edgeCell f t k (M * 3 + 1 + 1) = .int .u8 (k M) := by unfold edgeCell; rw [if_neg (by omega), if_neg (by omega)]; congr; omega
    rw [e, flat_snoc, flat_edges f t k M, e2, List.range_succ, List.range_succ, List.range_succ]
    simp [d0, d1, d2]

theorem own_of_rowIs {w : World} {g M B : Nat} {f t k : Nat → Int} (h : w.rowIs g 53 (M * 3) (edgeCell f t k)) (hB : B ≤ g) (hM : M ≤ maxLen) :
    w.ownsRow B 53 3 (.slice (some ⟨g, 0, none⟩) M M) M (flat (edges f t k M)) := by
  obtain ⟨c, hg, hs, hc⟩ := h
  refine ⟨by rw [flat_edges]; simp, .inr ⟨g, M, c, rfl, hB, hg, Nat.le_refl _, hM, hs, ?_⟩⟩
  rw [List.take_of_length_le (by simp; omega), flat_edges]
  apply List.ext_getElem?
  intro i
  by_cases hi : i < M * 3
  · rw [List.getElem?_map, List.getElem?_range hi]
    have := hc i hi
    simpa using this
  · rw [List.getElem?_eq_none (by simp; omega), List.getElem?_eq_none (by simp; omega)]

theorem flat_get : ∀ (L : List Edge) (i : Nat), i < L.length → (flat L)[i * 3]? = some (.int .i32 (L.getD i (0, 0, 0)).1) ∧ (flat L)[i * 3 + 1]? = some (.int .i32 (L.getD i (0, 0, 0)).2.1) ∧ (flat L)[i * 3 + 2]? = some (.int .u8 (L.getD i (0, 0, 0)).2.2)
  | [], i, h => by simp at h
  | e :: L, 0, _ => by simp [flat]
  | e :: L, i + 1, h => by
    have := flat_get L i (by simpa using h)
    have e2 : flat (e :: L) = [.int .i32 e.1, .int .i32 e.2.1, .int .u8 e.2.2] ++ flat L := by simp [flat]
    rw [e2]
    rw [List.getElem?_append_right (by simp; omega), List.getElem?_append_right (by simp; omega), List.getElem?_append_right (by simp; omega)]
    simp only [List.length_cons, List.length_nil]
    rw [show (i + 1) * 3 - (0 + 1 + 1 + 1) = i * 3 by omega, show (i + 1) * 3 + 1 - (0 + 1 + 1 + 1) = i * 3 + 1 by omega, show (i + 1) * 3 + 2 - (0 + 1 + 1 + 1) = i * 3 + 2 by omega]
    simpa using this

/-- the edges of such a row -/
theorem own53_cell {w : World} {B n : Nat} {v : Value} {L : List Edge} (h : w.ownsRow B 53 3 v n (flat L)) (hn : n = L.length) : ∃ a c, v = .slice a n c ∧ n ≤ c ∧ c ≤ maxLen ∧ ∀ i, i < n → ∃ g, a = some ⟨g, 0, none⟩ ∧ w.cell? ⟨g, i * 3, none⟩ = some (.int .i32 (L.getD i (0, 0, 0)).1) ∧ w.cell? ⟨g, i * 3 + 1, none⟩ = some (.int .i32 (L.getD i (0, 0, 0)).2.1) ∧ w.cell? ⟨g, i * 3 + 2, none⟩ = some (.int .u8 (L.getD i (0, 0, 0)).2.2) := by
  obtain ⟨hl, h⟩ := h
  rcases h with ⟨rfl, h0⟩ | ⟨g, cap, cur, rfl, hB, hg, h1, h2, h3, h4⟩
  · exact ⟨none, 0, by rw [h0], by omega, by unfold maxLen; omega, fun i hi => by omega⟩
  · refine ⟨_, cap, rfl, h1, h2, fun i hi => ⟨g, rfl, ?_⟩⟩
    obtain ⟨e0, e1, e2⟩ := flat_get L i (by omega)
    rw [← h4, List.getElem?_take_of_lt (by omega)] at e0 e1 e2
    unfold World.cell?
    simp only [hg]
    exact ⟨by simpa using e0, by simpa using e1, by simpa using e2⟩

/-- a law of make for edges -/
theorem run_make53 (M : Nat) (hM : M ≤ 65536) (w : World) : (Instr.makeSlice 49 (.int .i64 (M : Int)) (.int .i64 (M : Int))).run Try.prog w = .ok (.slice (some ⟨w.heap.size, 0, none⟩) M M) (w.alloc (.cells (madeCells #[.int .i32 0, .int .i32 0, .int .u8 0] (M * 3)) 53)) := by
  obtain ⟨i0, hi, hz0, hz1, hz2⟩ := info_parts Try.info53
  have h := run_make (P := Try.prog) w 49 53 i0 _ Try.underlying49 hi hz0 .i64 .i64 M M (by omega) (Int.le_refl _) (by rw [hz2]; omega) (by omega)
  rw [hz1] at h
  simpa [Value.cells] using h

theorem made53_row (w : World) (M : Nat) : (w.alloc (.cells (madeCells #[.int .i32 0, .int .i32 0, .int .u8 0] (M * 3)) 53)).rowIs w.heap.size 53 (M * 3) (edgeCell (fun _ => 0) (fun _ => 0) (fun _ => 0)) := by
  refine ⟨_, Deep.blk_alloc_new _ _, size_madeCells _ _, fun i hi => ?_⟩
  unfold edgeCell
  have h3 : i % 3 = 0 ∨ i % 3 = 1 ∨ i % 3 = 2 := by omega
  rcases h3 with h | h | h <;> simp [madeCells, hi, h]

def upTo (k : Nat) (f : Nat → Int) (i : Nat) : Int := if i < k then f i else 0

theorem row_set3 {w : World} {g M : Nat} {f t kk : Nat → Int} {k : Nat} (h : w.rowIs g 53 (M * 3) (edgeCell (upTo k f) (upTo k t) (upTo k kk))) :
    (((w.setCell ⟨g, k * 3, none⟩ (.int .i32 (f k))).setCell ⟨g, k * 3 + 1, none⟩ (.int .i32 (t k))).setCell ⟨g, k * 3 + 2, none⟩ (.int .u8 (kk k))).rowIs g 53 (M * 3) (edgeCell (upTo (k + 1) f) (upTo (k + 1) t) (upTo (k + 1) kk)) := by
  refine (((h.set (k * 3) _).set (k * 3 + 1) _).set (k * 3 + 2) _).congr (fun i hi => ?_)
  unfold edgeCell upTo
  by_cases h2 : i = k * 3 + 2
  · subst h2
    rw [if_pos rfl, if_neg (by omega), if_neg (by omega), if_pos (by omega)]; congr; omega
  rw [if_neg h2]
  by_cases h1 : i = k * 3 + 1
  · subst h1
    rw [if_pos rfl, if_neg (by omega), if_pos (by omega), if_pos (by omega)]; congr; omega
  rw [if_neg h1]
  by_cases h0 : i = k * 3
  · subst h0
    rw [if_pos rfl, if_pos (by omega), if_pos (by omega)]; congr; omega
  rw [if_neg h0]
  have : i / 3 < k ↔ i / 3 < k + 1 := by omega
  simp only [this]

end Go.Proofs.Qxb6602859a
