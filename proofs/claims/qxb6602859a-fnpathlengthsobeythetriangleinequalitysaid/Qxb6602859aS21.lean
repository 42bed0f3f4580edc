import Derived.Test.Qxb6602859aS20
namespace Go.Proofs.Qxb6602859a
open Go.RowKit Kit
set_option linter.unusedVariables false
set_option linter.unusedSimpArgs false

/-- true, and what was there is as it was -/
def PostT (w0 : World) (e : Ending) (w' : World) : Prop := e = .returned (.bool true) ∧ Below w0.heap.size w0 w'

set_option maxHeartbeats 1000000 in
theorem zzpath_any (real : Int) (n nt nk oc tc kc cc : Nat) (m : Int) (oa ta ka ca : Option Addr) (off T comp : Nat → Nat) (tz kz : Nat → Int) (w : World) (u v : Nat)
    (rO : Row w 21 (.slice oa (n + 1) oc) (n + 1) (fun i => .int .i32 ((off i : Nat) : Int)))
    (rT : Row w 21 (.slice ta nt tc) nt (fun i => .int .i32 (tz i)))
    (rK : Row w 5 (.slice ka nk kc) nk (fun i => .int .u8 (kz i))) (hF : GF n nt nk off tz T)
    (hC : Row w 21 (.slice ca n cc) n (fun i => .int .i32 ((comp i : Nat) : Int))) (hu : u < n) (hv : v < n) (hr : Reach (EdO n off T (kmB kz m) (fun y => comp y == comp u)) u v) :
    Calls Try.prog 16 #[.int .i64 real, .int .i64 (n : Int), .slice oa (n + 1) oc, .slice ta nt tc, .slice ka nk kc, .int .i32 (u : Int), .int .i32 (v : Int), .slice ca n cc, .int .u8 m] w (PathOut n off T (kmB kz m) (fun y => comp y == comp u) u v w) := by
  have HC := hid hC
  have HR := hid hr
  have HF := hid hF
  have hz := zzg_any real n (n + 1) nt nk oc tc kc oa ta ka off tz kz w hF.nk rO rT rK
  clear rO rT rK hC hr hF
  go_enter Try.func16, Try.ntmps16
  go_wp2_with fail
  refine hz.mono ?_
  rintro e w1 ⟨gb, rfl, hb1, hg, hG⟩
  have HG := hid hG
  clear hG hz
  go_wp2_with fail
  refine (path_any gb n nt nk oc tc nk cc m oa ta _ ca off T comp tz kz w1 u v HG.out HF.out (HC.out.below hb1) hu hv HR.out).mono ?_
  rintro e w2 ⟨pb, cap, D, p, rfl, h1, h2, hb2, hcell, hp⟩
  have HCL := hid hcell
  have HPP := hid hp
  clear hcell hp
  go_wp2
  go_ret
  exact ⟨pb, cap, D, p, rfl, h1, h2, hb1.trans (hb2.mono hb1.size), HCL.out, HPP.out⟩

/-- a slice that came in: nil, or n cells from an address on -/
def ArgS (w : World) (a : Option Addr) (n c : Nat) (f : Nat → Value) : Prop :=
  (a = none ∧ n = 0 ∧ c = 0) ∨ ∃ x, a = some x ∧ ∀ i, i < n → w.cell? (x.add i) = some (f i)

theorem ArgS.cel {w : World} {a : Option Addr} {n c : Nat} {f : Nat → Value} (h : ArgS w a n c f) : Cel w a n f := fun i hi => by
  rcases h with ⟨_, h, _⟩ | ⟨x, e, hx⟩
  · omega
  · exact ⟨x, e, hx i hi⟩

theorem ArgS.below {w w' : World} {a : Option Addr} {n c : Nat} {f : Nat → Value} (h : ArgS w a n c f) (hb : Below w.heap.size w w') : ArgS w' a n c f :=
  h.elim .inl fun ⟨x, e, hx⟩ => .inr ⟨x, e, fun i hi => cell_later hb (hx i hi)⟩

theorem ArgS.congr {w : World} {a : Option Addr} {n c : Nat} {f f' : Nat → Value} (h : ArgS w a n c f) (hf : ∀ i, i < n → f i = f' i) : ArgS w a n c f' :=
  h.elim .inl fun ⟨x, e, hx⟩ => .inr ⟨x, e, fun i hi => by rw [← hf i hi]; exact hx i hi⟩

theorem row_copyS (w : World) (t : TypeId) (n : Nat) (f : Nat → Value) (hn : n ≤ 131072) : Row (w.alloc (.cells ((List.range n).map f).toArray t)) t (.slice (some ⟨w.heap.size, 0, none⟩) n n) n f :=
  ⟨_, _, rfl, Nat.le_refl _, by omega, .inr ⟨_, rfl, rowIs_range w t n f⟩⟩

theorem row_noneS (w : World) (t : TypeId) (f : Nat → Value) : Row w t (.slice none 0 0) 0 f := ⟨_, _, rfl, Nat.le_refl _, by omega, .inl rfl⟩

theorem size_upS {a : Nat} {w : World} {o : Obj} (h : a ≤ w.heap.size) : a ≤ (w.alloc o).heap.size := by simp; omega

/-- of two nodes of one component each can be reached from the other inside it -/
theorem reach_in {n : Nat} {off T comp : Nat → Nat} {km : Nat → Bool} (hwf : WF n off T) (hc : ∀ x y, x < n → y < n → (comp x = comp y ↔ Reach (Ed n off T km) x y ∧ Reach (Ed n off T km) y x)) {u v : Nat} (hu : u < n) (hv : v < n) (h : comp u = comp v) :
    (∀ k, Wk (Ed n off T km) k u v → Wk (EdO n off T km (fun y => comp y == comp u)) k u v) ∧ Reach (EdO n off T km (fun y => comp y == comp u)) u v := by
  obtain ⟨h1, h2⟩ := (hc u v hu hv).1 h
  have key : ∀ k, Wk (Ed n off T km) k u v → Wk (EdO n off T km (fun y => comp y == comp u)) k u v := fun k hk =>
    Wk.inside (ok := fun y => comp y == comp u) (v := v) (fun y hy r1 r2 => by
      have := (hc y u hy hu).2 ⟨r2.trans h2, r1⟩
      simpa using this) hwf k v hk (Reach.refl _ _)
  obtain ⟨k, hk⟩ := h1
  exact ⟨key, k, key k hk⟩


end Go.Proofs.Qxb6602859a
