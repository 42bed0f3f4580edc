import Derived.Test.Qxb6602859aS5
import Derived.StillTailTactics
namespace Go.Proofs.Qxb6602859a
open Go.RowKit Kit
set_option linter.unusedVariables false
set_option linter.unusedSimpArgs false

theorem ownS_top {w : World} {B x a : Nat} {v : Value} {A : List Nat} (h : w.ownsRow B 21 1 v (A ++ [x]).length (cellsS (A ++ [x]))) (ha : A.length = a) :
    ∃ g cap, v = .slice (some ⟨g, 0, none⟩) (a + 1) cap ∧ a + 1 ≤ cap ∧ cap ≤ 9223372036854775807 ∧ w.cell? ⟨g, a, none⟩ = some (.int .i32 (x : Int)) ∧ B ≤ g ∧ g < w.heap.size := by
  have hl : (A ++ [x]).length = a + 1 := by simp [ha]
  have hfl : (cellsS A).length = a := by simp [cellsS, ha]
  rw [hl] at h
  have hlt := h.lt
  have hh := h
  obtain ⟨h1, ⟨_, h0⟩ | ⟨g, cap, cur, rfl, hb, hg, hle, hm, hs, ht⟩⟩ := h
  · omega
  refine ⟨g, cap, rfl, hle, by simpa [maxLen] using hm, ?_, hlt g rfl⟩
  have := hh.cellAt a (by omega)
  rw [this, cellsS_snoc, List.getElem?_append_right (by omega), hfl]; simp

/-- the frame while a component leaves the stack -/
def FR3 (H gb n : Nat) (m : Int) (cv rv vv : Value) (g : Nat → Value) : Act := ⟨#[.pointer (some ⟨gb, 0, none⟩), .int .u8 m, .pointer (some ⟨H, 0, none⟩), g 3, g 4, .pointer (some ⟨H + 2, 0, none⟩), .pointer (some ⟨H + 4, 0, none⟩), .slice (some ⟨H + 5, 0, none⟩) n n, .pointer (some ⟨H + 7, 0, none⟩), .pointer (some ⟨H + 8, 0, none⟩), .pointer (some ⟨H + 9, 0, none⟩), .pointer (some ⟨H + 10, 0, none⟩), cv, .func (.func 30) #[] #[.pointer (some ⟨H + 10, 0, none⟩), .pointer (some ⟨H + 2, 0, none⟩), .pointer (some ⟨H + 4, 0, none⟩), .pointer (some ⟨H + 8, 0, none⟩), .pointer (some ⟨H + 7, 0, none⟩), .pointer (some ⟨H + 9, 0, none⟩), .pointer (some ⟨H, 0, none⟩)], g 14, g 15, vv, g 17, g 18, g 19, g 20, g 21, g 22, g 23, g 24, g 25, g 26, g 27, g 28, g 29, g 30, g 31, g 32, g 33, g 34, g 35, g 36, g 37, g 38, g 39, g 40, g 41, g 42, g 43, g 44, g 45, .int .i32 (n : Int), rv, g 48, g 49, g 50, g 51, g 52, g 53, g 54, g 55, g 56, g 57, g 58, g 59, g 60, g 61, g 62, g 63, g 64, g 65, g 66, g 67, g 68, g 69, g 70, g 71, g 72, g 73, g 74, g 75, g 76, g 77, g 78, g 79, g 80, g 81, g 82, g 83, g 84, g 85, g 86, g 87, g 88, g 89, g 90, g 91, g 92, g 93, g 94, g 95, g 96, g 97, g 98, g 99, g 100, g 101, g 102, g 103, g 104, g 105, g 106, g 107, g 108, g 109, g 110, g 111, g 112, g 113, g 114, g 115, g 116, g 117, g 118, g 119, g 120, g 121, g 122, g 123, g 124, g 125, g 126, g 127, g 128, g 129, g 130, g 131, g 132, g 133, g 134, g 135, g 136, g 137, g 138, g 139, g 140, g 141, g 142, g 143, g 144, g 145, g 146, g 147, g 148, g 149, g 150, g 151, g 152, g 153, g 154, g 155, g 156, g 157, g 158, g 159, g 160, g 161, g 162, g 163, g 164, g 165, g 166, g 167, g 168, g 169, g 170, g 171, g 172, g 173, g 174, g 175, g 176, g 177, g 178, g 179, g 180, g 181, g 182, g 183, g 184, g 185, g 186, g 187, g 188, g 189, g 190, g 191, g 192, g 193, g 194, g 195, g 196, g 197, g 198, g 199, g 200, g 201], []⟩
def Fits3 (H gb n : Nat) (m : Int) (cv rv vv : Value) (a : Act) : Prop := a = FR3 H gb n m cv rv vv (fun i => a.tmps.getD i undef)

/-- while a component leaves the stack -/
structure Pop (n c : Nat) (comp : Nat → Nat) (S1 S2 : List Nat) (v : Nat) (S2a : List Nat) (comp' : Nat → Nat) (on' : Nat → Bool) : Prop where
  split : ∃ S2b, S2 = S2a ++ S2b ∧ ∀ x, comp' x = if x ∈ S2b then c else comp x
  on : ∀ x, x < n → (on' x = true ↔ x ∈ S1 ++ v :: S2a)

theorem Pop.step {n c : Nat} {comp : Nat → Nat} {S1 S2 : List Nat} {v : Nat} {S2c : List Nat} {x : Nat} {comp' : Nat → Nat} {on' : Nat → Bool} (h : Pop n c comp S1 S2 v (S2c ++ [x]) comp' on') (hnd : (S1 ++ v :: S2).Nodup) :
    Pop n c comp S1 S2 v S2c (up comp' x c) (up on' x false) ∧ x ≠ v := by
  obtain ⟨S2b, e, hc⟩ := h.split
  subst e
  have hnd' : (S1 ++ v :: (S2c ++ [x])).Nodup := by
    refine hnd.sublist ?_
    simp
  have hxn : x ∉ S1 ++ v :: S2c := by
    have : ((S1 ++ v :: S2c) ++ [x]).Nodup := by simpa using hnd'
    have h2 := (List.nodup_append.1 this).2.2
    intro hx
    exact h2 x hx x (by simp) rfl
  refine ⟨⟨⟨x :: S2b, by simp, fun y => ?_⟩, fun y hy => ?_⟩, fun q => hxn (by simp [q])⟩
  · by_cases q : y = x
    · subst q; rw [up_same]; simp
    · rw [up_ne _ _ q, hc y]; simp [q]
  · by_cases q : y = x
    · subst q; rw [up_same]; simp only [Bool.false_eq_true, false_iff]; exact hxn
    · rw [up_ne _ _ q, h.on y hy]; simp [q]

theorem Pop.last {n c : Nat} {comp : Nat → Nat} {S1 S2 : List Nat} {v : Nat} {comp' : Nat → Nat} {on' : Nat → Bool} (h : Pop n c comp S1 S2 v [] comp' on') (hnd : (S1 ++ v :: S2).Nodup) :
    (∀ x, up comp' v c x = if x ∈ v :: S2 then c else comp x) ∧ (∀ x, x < n → (up on' v false x = true ↔ x ∈ S1)) := by
  obtain ⟨S2b, e, hc⟩ := h.split
  simp at e
  subst e
  have hvn : v ∉ S1 := fun hv => (List.nodup_append.1 hnd).2.2 v hv v (by simp) rfl
  refine ⟨fun y => ?_, fun y hy => ?_⟩
  · by_cases q : y = v
    · subst q; rw [up_same]; simp
    · rw [up_ne _ _ q, hc y]; simp [q]
  · by_cases q : y = v
    · subst q; rw [up_same]; simp only [Bool.false_eq_true, false_iff]; exact hvn
    · rw [up_ne _ _ q, h.on y hy]; simp [q]

set_option maxHeartbeats 4000000 in
set_option maxRecDepth 100000 in
theorem r3_loop (H gb n : Nat) (m : Int) (w wr : World) (c : Nat) (ord low comp : Nat → Nat) (on : Nat → Bool) (sv fv : Value) (S1 S2 : List Nat) (v : Nat) (A : List (Nat × Nat)) (r : Nat) (rv : Value) (a0 : Act) (Q0 : Exit → Act → World → Prop) (hfit : Fits3 H gb n m (.int .i32 (c : Int)) rv (.int .i32 (v : Int)) a0)
    (hT : TS H gb n w wr ord low comp on sv fv (S1 ++ v :: S2) A r) (hnd : (S1 ++ v :: S2).Nodup) (hS : ∀ x, x ∈ S1 ++ v :: S2 → x < n) (hon : ∀ x, x < n → (on x = true ↔ x ∈ S1 ++ v :: S2)) (hn : n ≤ 65536) (hc : c ≤ 65536)
    (hX : ∀ (a' : Act) (w' : World) (sv' : Value) (comp' : Nat → Nat) (on' : Nat → Bool), Fits3 H gb n m (.int .i32 (c : Int)) rv (.int .i32 (v : Int)) a' → TS H gb n w w' ord low comp' on' sv' fv S1 A r → (∀ x, comp' x = if x ∈ v :: S2 then c else comp x) → (∀ x, x < n → (on' x = true ↔ x ∈ S1)) → Q0 (.exit 5) a' w') :
    Code.wp Try.prog (Code.loop (L3 Try.f27)) Q0 a0 wr := by
  obtain ⟨g, rfl⟩ : ∃ g, a0 = FR3 H gb n m (.int .i32 (c : Int)) rv (.int .i32 (v : Int)) g := ⟨_, hfit⟩
  clear hfit
  unfold FR3
  have HT := hid hT
  have HND := hid hnd
  have HS := hid hS
  have HX := hid hX
  have HON := hid hon
  clear hT hnd hS hX hon
  conv => arg 2; arg 1; whnf
  dsimp only
  go_loopg [19] S2.length (fun k x wr => ∃ (S2a : List Nat) (sv' : Value) (comp' : Nat → Nat) (on' : Nat → Bool), k = S2a.length ∧ Hid (TS H gb n w wr ord low comp' on' sv' fv (S1 ++ v :: S2a) A r) ∧ Hid (Pop n c comp S1 S2 v S2a comp' on'))
  case atStart => exact ⟨S2, sv, comp, on, rfl, HT, hid ⟨⟨[], by simp, by simp⟩, HON.out⟩⟩
  case round =>
    obtain ⟨S2a, sv', comp', on', hk, HT2, HP⟩ := hrel
    clear HT HON
    rcases List.eq_nil_or_concat S2a with hnil | ⟨S2c, x, hcon⟩
    · subst hnil
      obtain ⟨a, ha⟩ : ∃ a, S1.length = a := ⟨_, rfl⟩
      obtain ⟨sg, scap, rfl, s1, s2, cs, sl, sh⟩ := ownS_top HT2.out.oS ha
      have hv := HS.out v (by simp)
      have cS := HT2.out.cS
      have zS := HT2.out.zS
      have cN := HT2.out.cN
      have cn := HT2.out.rN.cell hv
      have zn := HT2.out.rN.frozen v
      have cc := HT2.out.rC.cell hv
      have zc := HT2.out.rC.frozen v
      have i0 : (0 : Int) ≤ (a : Int) := by omega
      have i1 : (a : Int) < (a : Int) + 1 := by omega
      have i2 : (0 : Int) ≤ (v : Int) := by omega
      have i3 : (v : Int) < (n : Int) := by omega
      generalize (Value.bool (on' v)) = b0 at cn
      generalize (Value.int .i32 ((comp' v : Nat) : Int)) = b1 at cc
      have HA := hid ha
      clear ha hk
      go_wp2
      exact HX.out _ _ _ _ _ rfl (((HT2.out.popS HA.out).setN v false).setC v c rfl) (HP.out.last HND.out).1 (HP.out.last HND.out).2
    · rw [List.concat_eq_append] at hcon
      subst hcon
      have T2 := HT2.out
      rw [show S1 ++ v :: (S2c ++ [x]) = (S1 ++ v :: S2c) ++ [x] by simp] at T2
      have HT2 := hid T2
      clear T2
      obtain ⟨a, ha⟩ : ∃ a, (S1 ++ v :: S2c).length = a := ⟨_, rfl⟩
      obtain ⟨sg, scap, rfl, s1, s2, cs, sl, sh⟩ := ownS_top HT2.out.oS ha
      obtain ⟨HP2, hxv⟩ := HP.out.step HND.out
      have hx : x < n := by
        obtain ⟨S2b, e2, _⟩ := HP.out.split
        exact HS.out x (by rw [e2]; simp)
      have cS := HT2.out.cS
      have zS := HT2.out.zS
      have cN := HT2.out.cN
      have cn := HT2.out.rN.cell hx
      have zn := HT2.out.rN.frozen x
      have cc := HT2.out.rC.cell hx
      have zc := HT2.out.rC.frozen x
      have i0 : (0 : Int) ≤ (a : Int) := by omega
      have i1 : (a : Int) < (a : Int) + 1 := by omega
      have i2 : (0 : Int) ≤ (x : Int) := by omega
      have i3 : (x : Int) < (n : Int) := by omega
      have q : ((x : Int) == (v : Int)) = false := by simp; omega
      generalize (Value.bool (on' x)) = b0 at cn
      generalize (Value.int .i32 ((comp' x : Nat) : Int)) = b1 at cc
      have HA := hid ha
      have HK := hid hk
      have HP2 := hid HP2
      clear ha hk hxv
      go_wp2
      go_roundg S2c.length
      case measure => rw [HK.out]; simp
      case rel =>
        exact ⟨S2c, _, _, _, rfl, hid (((HT2.out.popS HA.out).setN x false).setC x c rfl), HP2⟩


end Go.Proofs.Qxb6602859a
