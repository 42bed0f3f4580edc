import Derived.Test.Qxb6602859aS13
import Derived.ArgAppend
namespace Go.Proofs.Qxb6602859a
open Go.RowKit Kit
set_option linter.unusedVariables false
set_option linter.unusedSimpArgs false

set_option maxHeartbeats 1000000 in
theorem zzc_any (real : Int) (n nt nk oc tc kc : Nat) (m : Int) (oa ta ka : Option Addr) (off T : Nat → Nat) (tz kz : Nat → Int) (w : World)
    (rO : Row w 21 (.slice oa (n + 1) oc) (n + 1) (fun i => .int .i32 ((off i : Nat) : Int)))
    (rT : Row w 21 (.slice ta nt tc) nt (fun i => .int .i32 (tz i)))
    (rK : Row w 5 (.slice ka nk kc) nk (fun i => .int .u8 (kz i))) (hF : GF n nt nk off tz T) :
    Calls Try.prog 11 #[.int .i64 real, .int .i64 (n : Int), .slice oa (n + 1) oc, .slice ta nt tc, .slice ka nk kc, .int .u8 m] w (CompOut n off T (kmB kz m) w) := by
  go_enter Try.func11, Try.ntmps11
  go_wp2_with fail
  refine (zzg_any real n (n + 1) nt nk oc tc kc oa ta ka off tz kz w hF.nk rO rT rK).mono ?_
  rintro e w1 ⟨gb, rfl, hb1, hg, hG⟩
  go_wp2_with fail
  refine (comps_any gb n nt nk oc tc nk m oa ta _ off T tz kz w1 hG hF).mono ?_
  rintro e w2 ⟨cb, comp, rfl, hb2, hcb, hr, hc⟩
  go_wp2
  go_ret
  exact ⟨cb, comp, rfl, hb1.trans (hb2.mono hb1.size), Nat.le_trans hb1.size hcb, hr, hc⟩

/-! ### a map from nodes to nodes that the call has made -/
def MapI (w : World) (b n : Nat) (mem : Nat → Bool) (val : Nat → Nat) : Prop :=
  ∃ D : DataW Unit, w.ownsMap Try.prog 21 (plainElem Try.prog 21) b n D ∧ (∀ x : Nat, Maps.has D (Lit.int .i32 (x : Int)) = mem x) ∧ ∀ (x : Nat) z, D.atKey (Lit.int .i32 (x : Int)) z = if mem x then .lit (.int .i32 ((val x : Nat) : Int)) else z

theorem law21 : Maps.Keyed Try.prog 21 := Maps.int_keyed Try.underlying21
theorem zero21 (w : World) : (zeroValue 21).run Try.prog w = .ok (.int .i32 0) w := by kernel_rfl
theorem wf32 {x : Nat} (h : x ≤ 65536) : (Lit.int .i32 (x : Int)).wf = true := by
  simp [Lit.wf, IntKind.min, IntKind.max, IntKind.signed, IntKind.bits]
  omega
theorem key21 {x : Nat} (h : x ≤ 65536) : keyOf Try.prog 21 (.int .i32 (x : Int)) = some (.int .i32 (x : Int)) := Maps.keyOf_int_mk Try.underlying21 (wf32 h)

theorem MapI.made (w : World) : MapI (w.alloc (.map #[] 0)) w.heap.size 0 (fun _ => false) (fun _ => 0) :=
  ⟨.map [], World.ownsMap_made _ _ _ _, fun _ => rfl, fun _ _ => rfl⟩

theorem MapI.lt {w : World} {b n : Nat} {mem : Nat → Bool} {val : Nat → Nat} (h : MapI w b n mem val) : b < w.heap.size := by
  obtain ⟨D, ho, _⟩ := h
  exact ho.lt

theorem MapI.kept {S : Nat → Prop} {w w' : World} {b n : Nat} {mem : Nat → Bool} {val : Nat → Nat} (h : MapI w b n mem val) (hk : Kept S w w') (hs : ¬ S b) : MapI w' b n mem val := by
  obtain ⟨D, ho, h1, h2⟩ := h
  refine ⟨D, ?_, h1, h2⟩
  obtain ⟨es, clock, hh, r⟩ := ho
  exact ⟨es, clock, (hk.block b (Array.getElem?_eq_some_iff.1 hh).1 hs).trans hh, r⟩

theorem MapI.look {w : World} {b n : Nat} {mem : Nat → Bool} {val : Nat → Nat} (h : MapI w b n mem val) {x : Nat} (hx : x ≤ 65536) (hm : mem x = true) :
    (Instr.lookup 63 (.map (some b)) (.int .i32 (x : Int)) false).run Try.prog w = .ok (.int .i32 ((val x : Nat) : Int)) w := by
  obtain ⟨D, ho, h1, h2⟩ := h
  obtain ⟨c, hrun, hat, hw⟩ := ho.lookup_int law21 Try.underlying63 Try.underlying21 (zero21 w) (key21 hx)
  rw [h2, hm] at hat
  simp at hat
  rw [hrun, hat]

theorem MapI.lookOk {w : World} {b n : Nat} {mem : Nat → Bool} {val : Nat → Nat} (h : MapI w b n mem val) {x : Nat} (hx : x ≤ 65536) :
    ∃ c : Int, (Instr.lookup 63 (.map (some b)) (.int .i32 (x : Int)) true).run Try.prog w = .ok (.tuple #[.int .i32 c, .bool (mem x)]) w := by
  obtain ⟨D, ho, h1, h2⟩ := h
  obtain ⟨v, ps, hrun, hv⟩ := ho.look_ok law21 Try.underlying63 (zero21 w) (plainElem_int Try.underlying21 (by decide)) (key21 hx)
  obtain ⟨c, rfl, hc, hwc⟩ := plainElem_int_inv Try.underlying21 hv
  rw [h1] at hrun
  exact ⟨c, hrun⟩

theorem MapI.put {w : World} {b n : Nat} {mem : Nat → Bool} {val : Nat → Nat} (h : MapI w b n mem val) {x y : Nat} (hx : x ≤ 65536) (hy : y ≤ 65536) (hn : n ≤ 65536) :
    ∃ w', (Instr.mapUpdate 63 (.map (some b)) (.int .i32 (x : Int)) (.int .i32 (y : Int))).run Try.prog w = .ok () w' ∧ MapI w' b (n + 1) (up mem x true) (up val x y) ∧ w.grownBy w' (some b) := by
  obtain ⟨D, ho, h1, h2⟩ := h
  obtain ⟨w', hrun, ho', hg⟩ := ho.update law21 Try.underlying63 (by unfold maxLen; omega) (key21 hx) (plainElem_int Try.underlying21 (wf32 hy))
  refine ⟨w', hrun, ⟨_, ho', ?_, ?_⟩, hg⟩
  · intro z
    by_cases hz : z = x
    · subst hz; rw [up_same, Maps.has_put_same ho.isMap (by simp [WideAt.IsKeyLit])]
    · rw [up_ne _ _ hz, Maps.has_put_other (fun e => hz (by simp at e; omega)), h1 z]
  · intro z d
    by_cases hz : z = x
    · subst hz; rw [up_same, up_same, Maps.atKey_put_same ho.isMap (by simp [WideAt.IsKeyLit])]; simp
    · rw [up_ne _ _ hz, up_ne _ _ hz, Maps.atKey_put_other (fun e => hz (by simp at e; omega)), h2 z d]

end Go.Proofs.Qxb6602859a
