import Derived.Test.Qxb6602859aP8
import Derived.Test.Qxb6602859aR2
namespace Go.Proofs.Qxb6602859a
open Go.RowKit Kit
set_option linter.unusedVariables false
set_option linter.unusedSimpArgs false

theorem Try.info46 : (Try.prog.info? 46).map (fun i => (i.zero, i.size, i.bytes)) = some (some (.int .u8 0), 1, 1) := by kernel_rfl



theorem Row.slice {w : World} {t : TypeId} {a : Option Addr} {n c : Nat} {f : Nat → Value} (h : Row w t (.slice a n c) n f) : n ≤ c ∧ c ≤ 9223372036854775807 ∧ ∀ i, i < n → ∃ g, a = some ⟨g, 0, none⟩ ∧ w.cell? ⟨g, i, none⟩ = some (f i) := by
  obtain ⟨a', c', e, h1, h2, h3⟩ := h.parts
  cases e
  exact ⟨h1, h2, h3⟩

/-- a graph at block gb -/
structure Gr (w : World) (gb n no nt nk oc tc kc : Nat) (oa ta ka : Option Addr) (off : Nat → Nat) (tz kz : Nat → Int) : Prop where
  c1 : w.cell? ⟨gb, 1, none⟩ = some (.int .i64 (n : Int))
  c2 : w.cell? ⟨gb, 2, none⟩ = some (.slice oa no oc)
  c3 : w.cell? ⟨gb, 3, none⟩ = some (.slice ta nt tc)
  c4 : w.cell? ⟨gb, 4, none⟩ = some (.slice ka nk kc)
  rO : Row w 21 (.slice oa no oc) no (fun i => .int .i32 ((off i : Nat) : Int))
  rT : Row w 21 (.slice ta nt tc) nt (fun i => .int .i32 (tz i))
  rK : Row w 46 (.slice ka nk kc) nk (fun i => .int .u8 (kz i))

theorem Row.below {w w' : World} {t : TypeId} {v : Value} {n : Nat} {f : Nat → Value} (h : Row w t v n f) (hb : Below w.heap.size w w') : Row w' t v n f :=
  h.kept (S := fun _ => False) (Kept.of_below hb) (fun _ _ _ => id)

theorem Gr.below {w w' : World} {gb n no nt nk oc tc kc : Nat} {oa ta ka : Option Addr} {off : Nat → Nat} {tz kz : Nat → Int} (h : Gr w gb n no nt nk oc tc kc oa ta ka off tz kz) (hb : Below w.heap.size w w') : Gr w' gb n no nt nk oc tc kc oa ta ka off tz kz :=
  ⟨cell_later hb h.c1, cell_later hb h.c2, cell_later hb h.c3, cell_later hb h.c4, h.rO.below hb, h.rT.below hb, h.rK.below hb⟩

theorem below_alloc0 (w : World) (o : Obj) : Below w.heap.size w (w.alloc o) := (Below.refl _ _).alloc (Nat.le_refl _) _

structure Kcp (w wr : World) (nk : Nat) (kz : Nat → Int) (k : Nat) : Prop where
  row : wr.rowIs w.heap.size 46 nk (fun i => .int .u8 (upTo k kz i))
  bel : Below w.heap.size w wr
  size : wr.heap.size = w.heap.size + 1

set_option maxHeartbeats 1000000 in
theorem zzg_any (real : Int) (n no nt nk oc tc kc : Nat) (oa ta ka : Option Addr) (off : Nat → Nat) (tz kz : Nat → Int) (w : World) (hnk : nk ≤ 65536)
    (rO : Row w 21 (.slice oa no oc) no (fun i => .int .i32 ((off i : Nat) : Int)))
    (rT : Row w 21 (.slice ta nt tc) nt (fun i => .int .i32 (tz i)))
    (rK : Row w 5 (.slice ka nk kc) nk (fun i => .int .u8 (kz i))) :
    Calls Try.prog 26 #[.int .i64 real, .int .i64 (n : Int), .slice oa no oc, .slice ta nt tc, .slice ka nk kc] w fun e w' =>
      ∃ gb, e = .returned (.pointer (some ⟨gb, 0, none⟩)) ∧ Below w.heap.size w w' ∧ w.heap.size ≤ gb ∧ Gr w' gb n no nt nk oc tc nk oa ta (some ⟨w.heap.size, 0, none⟩) off tz kz := by
  have mk := fun z => run_make_row' (P := Try.prog) 55 46 (.int .u8 0) 1 Try.underlying55 Try.info46 rfl .i64 .i64 nk (by omega) (by omega) z
  have HK := hid rK
  have HO := hid (And.intro rO rT)
  clear rO rT rK
  go_enter Try.func26, Try.ntmps26
  go_wp2
  go_loopw [12, 18] (fun _ i wr => ∃ j : Nat, j ≤ nk ∧ i = .int .i64 j ∧ Hid (Kcp w wr nk kz j)) (fun _ i _ => nk - (intOf i).toNat)
  case atStart =>
    refine ⟨0, Nat.zero_le _, rfl, hid ⟨?_, below_alloc0 _ _, by simp⟩⟩
    exact (World.rowIs_made w (.int .u8 0) nk 46).congr (fun i _ => by simp [upTo])
  case round =>
    obtain ⟨j, hj, rfl, HL⟩ := hrel
    by_cases hlt : j < nk
    · obtain ⟨g, rfl, ck⟩ := HK.out.slice.2.2 j hlt
      have ck := cell_later HL.out.bel ck
      have e0 := HL.out.row.cell hlt
      have z0 := HL.out.row.frozen j
      have i0 : (0 : Int) ≤ (j : Int) := by omega
      have i1 : (j : Int) < (nk : Int) := by omega
      generalize (Value.int .u8 (upTo j kz j)) = v0 at e0
      go_wp2
      go_roundw
      case rel =>
        exact ⟨j + 1, by omega, by go_num, hid ⟨row_upTo HL.out.row, HL.out.bel.setCell (Nat.le_refl _) _, by have := HL.out.size; simpa [World.setCell] using this⟩⟩
      case measure => simp [intOf]; omega
    · obtain rfl : nk = j := by omega
      clear hj hlt
      go_wp2
      go_ret
      have hs := HL.out.size
      have hb : Below w.heap.size w (wr.alloc (.cells #[.int .i64 real, .int .i64 (n : Int), .slice oa no oc, .slice ta nt tc, .slice (some ⟨w.heap.size, 0, none⟩) nk nk] 57)) := HL.out.bel.alloc (by omega) _
      refine ⟨wr.heap.size, rfl, hb, by omega, ⟨by simp, by simp, by simp, by simp, HO.out.1.below hb, HO.out.2.below hb, ⟨_, _, rfl, Nat.le_refl _, by omega, .inr ⟨_, rfl, (HL.out.row.alloc _).congr (fun i hi => by simp [upTo, hi])⟩⟩⟩⟩

end Go.Proofs.Qxb6602859a
