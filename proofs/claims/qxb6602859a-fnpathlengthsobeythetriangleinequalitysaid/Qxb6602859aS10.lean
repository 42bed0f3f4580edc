import Derived.Test.Qxb6602859aS9
import Derived.StillTailTactics
namespace Go.Proofs.Qxb6602859a
open Go.RowKit Kit
set_option linter.unusedVariables false
set_option linter.unusedSimpArgs false

set_option maxHeartbeats 4000000 in
set_option maxRecDepth 100000 in
theorem r2_root1 (H gb n nt nk oc tc kc : Nat) (m : Int) (oa ta ka : Option Addr) (off T : Nat → Nat) (tz kz : Nat → Int) (w wr : World) (root k c : Nat) (ord low comp : Nat → Nat) (on : Nat → Bool) (sv fv : Value) (S : List Nat) (r : Nat) (rv : Value) (g : Nat → Value) (K : Act → World → Prop) (Q0 : Exit → Act → World → Prop)
    (hG : Gr w gb n (n + 1) nt nk oc tc kc oa ta ka off tz kz) (hF : GF n nt nk off tz T) (hH : w.heap.size = H) (v e : Nat) (he : e = off (v + 1)) (hne : low v = ord v)
    (hT : TS H gb n w wr ord low comp on sv fv S ([] ++ [(v, e)]) r) (hI : Iv n off T (kmB kz m) root k ord low comp on S ([] ++ [(v, e)]) r c)
    (hK : ∀ (a' : Act) (w' : World) (c' k' : Nat) (ord' low' comp' : Nat → Nat) (on' : Nat → Bool) (sv' fv' : Value) (S' : List Nat) (F' : List (Nat × Nat)) (r' : Nat), Fits H gb n m (.int .i32 (c' : Int)) rv a' → TS H gb n w w' ord' low' comp' on' sv' fv' S' F' r' → Iv n off T (kmB kz m) root k' ord' low' comp' on' S' F' r' c' → k' < k → K a' w') :
    Code.wp Try.prog (L2 Try.f27) (Exit.then K Q0) ⟨#[.pointer (some ⟨gb, 0, none⟩), .int .u8 m, .pointer (some ⟨H, 0, none⟩), g 3, g 4, .pointer (some ⟨H + 2, 0, none⟩), .pointer (some ⟨H + 4, 0, none⟩), .slice (some ⟨H + 5, 0, none⟩) n n, .pointer (some ⟨H + 7, 0, none⟩), .pointer (some ⟨H + 8, 0, none⟩), .pointer (some ⟨H + 9, 0, none⟩), .pointer (some ⟨H + 10, 0, none⟩), .int .i32 (c : Int), .func (.func 30) #[] #[.pointer (some ⟨H + 10, 0, none⟩), .pointer (some ⟨H + 2, 0, none⟩), .pointer (some ⟨H + 4, 0, none⟩), .pointer (some ⟨H + 8, 0, none⟩), .pointer (some ⟨H + 7, 0, none⟩), .pointer (some ⟨H + 9, 0, none⟩), .pointer (some ⟨H, 0, none⟩)], g 14, g 15, g 16, g 17, g 18, g 19, g 20, g 21, g 22, g 23, g 24, g 25, g 26, g 27, g 28, g 29, g 30, g 31, g 32, g 33, g 34, g 35, g 36, g 37, g 38, g 39, g 40, g 41, g 42, g 43, g 44, g 45, .int .i32 (n : Int), rv, g 48, g 49, g 50, g 51, g 52, g 53, g 54, g 55, g 56, g 57, g 58, g 59, g 60, g 61, g 62, g 63, g 64, g 65, g 66, g 67, g 68, g 69, g 70, g 71, g 72, g 73, g 74, g 75, g 76, g 77, g 78, g 79, g 80, g 81, g 82, g 83, g 84, g 85, g 86, g 87, g 88, g 89, g 90, g 91, g 92, g 93, g 94, g 95, g 96, g 97, g 98, g 99, g 100, g 101, g 102, g 103, g 104, g 105, g 106, g 107, g 108, g 109, g 110, g 111, g 112, g 113, g 114, g 115, g 116, g 117, g 118, g 119, g 120, g 121, g 122, g 123, g 124, g 125, g 126, g 127, g 128, g 129, g 130, g 131, g 132, g 133, g 134, g 135, g 136, g 137, g 138, g 139, g 140, g 141, g 142, g 143, g 144, g 145, g 146, g 147, g 148, g 149, g 150, g 151, g 152, g 153, g 154, g 155, g 156, g 157, g 158, g 159, g 160, g 161, g 162, g 163, g 164, g 165, g 166, g 167, g 168, g 169, g 170, g 171, g 172, g 173, g 174, g 175, g 176, g 177, g 178, g 179, g 180, g 181, g 182, g 183, g 184, g 185, g 186, g 187, g 188, g 189, g 190, g 191, g 192, g 193, g 194, g 195, g 196, g 197, g 198, g 199, g 200, g 201], []⟩ wr := by
  obtain ⟨a, ha⟩ : ∃ a, ([] : List (Nat × Nat)).length = a := ⟨_, rfl⟩
  obtain ⟨fg, fcap, rfl, f1, f2, cv, ce, ze, fl, fh⟩ := ownF_top (e0 := 0) hT.oF ha
  have cF := hT.cF
  have cG := hT.cG
  have hv := hI.tj.sN v (hI.tj.fS (v, e) (by simp))
  have hn := hF.small
  have Gr1 := hG.below (by rw [hH]; exact hT.bel)
  have g2 := Gr1.c2
  have g3 := Gr1.c3
  have g4 := Gr1.c4
  obtain ⟨og, eo, co⟩ := Gr1.rO.slice.2.2 (v + 1) (by omega)
  subst eo
  have i0 : (0 : Int) ≤ (v : Int) + 1 := by omega
  have i1 : (v : Int) + 1 < (n : Int) + 1 := by omega
  have i2 : (0 : Int) ≤ (a : Int) := by omega
  have i3 : (a : Int) < (a : Int) + 1 := by omega
  have w32 : IntKind.i32.wrap ((v : Int) + 1) = (v : Int) + 1 := by rw [IntKind.wrap_i32]; omega
  obtain ⟨S1, S2, hsp⟩ := List.append_of_mem (hI.tj.fS (v, e) (by simp))
  simp only at hsp
  subst hsp
  have hnd : (S1 ++ v :: S2).Nodup := List.Pairwise.imp_of_mem (fun {x y} _ _ (h : ord x < ord y) (q : x = y) => by rw [q] at h; exact Nat.lt_irrefl _ h) hI.tj.sInc
  have hSn := hI.tj.sN
  have hon := hI.tj.on_iff
  have hcb : c + 1 ≤ 65536 := by have h1 := hI.cS; have h2 := hI.rLe; simp at h1; omega
  have HND := hid hnd
  have HSN := hid hSn
  have HON := hid hon
  clear hnd hSn hon
  simp at ha
  subst ha
  have cL := hT.cL
  have cO := hT.cO
  have zF := hT.zF
  have HK := hid hK
  have HT := hid hT
  have HI := hid hI
  have HE := hid he
  rw [← he] at co
  have hlt : decide ((e : Int) < (e : Int)) = false := by simp
  have HF := hid hF
  clear hK hG hT hI Gr1 he hF g3 g4
  conv => arg 2; whnf
  go_wp2
  go_quiet (fail)
  obtain ⟨q1, rfl⟩ : ∃ q1, q1 = nq := ⟨_, rfl⟩
  go_wp2
  have T1 := (HT.out.drewN q1).popF (A := []) rfl
  generalize ((wr.drewN q1).setCell ⟨H + 9, 0, none⟩ (.slice (some ⟨fg, 0, none⟩) 0 fcap)) = w1 at T1 ⊢
  clear cF cG cv ce ze co cL cO zF g2
  have cO := T1.cO
  have cL := T1.cL
  have clv := T1.rL.cell hv
  have cov := T1.rO.cell hv
  have j0 : (0 : Int) ≤ (v : Int) := by omega
  have j1 : (v : Int) < (n : Int) := by omega
  rw [hne] at clv
  obtain ⟨ov, hov⟩ : ∃ ov, ord v = ov := ⟨_, rfl⟩
  rw [hov] at clv cov
  have HL := hid hov
  have HNE := hid hne
  have HT1 := hid T1
  clear T1 hov hne
  go_quiet (fail)
  go_wp2
  refine r3_loop H gb n m w _ c ord low comp on _ _ S1 S2 v [] r rv _ _ rfl (HT1.out.drewN nq) HND.out HSN.out HON.out hn (by omega) ?_
  rintro a' w' sv' comp' on' hfit T3 hcm hon'
  obtain ⟨g', rfl⟩ : ∃ g', a' = FR3 H gb n m (.int .i32 (c : Int)) rv (.int .i32 (v : Int)) g' := ⟨_, hfit⟩
  clear hfit
  have cF := T3.cF
  have HT3 := hid T3
  have HCM := hid hcm
  have HON2 := hid hon'
  clear T3 hcm hon'
  unfold FR3
  dsimp only
  go_wp2
  have I0 := HI.out
  rw [HE.out] at I0
  obtain ⟨k1, I1⟩ := I0.popRoot HF.out.wf HNE.out HON2.out HCM.out
  exact HK.out _ _ (c + 1) (k - 1) ord low comp' on' sv' _ S1 [] r rfl HT3.out I1 (by omega)

end Go.Proofs.Qxb6602859a
