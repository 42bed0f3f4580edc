import Derived.Test.Qxb6602859aS6
import Derived.Test.Qxb6602859aS7
import Derived.Test.Qxb6602859aS8
import Derived.Test.Qxb6602859aS10
import Derived.Test.Qxb6602859aS11
namespace Go.Proofs.Qxb6602859a
open Go.RowKit Kit
set_option linter.unusedVariables false
set_option linter.unusedSimpArgs false

/-- at the head of the inner loop -/
def I2 (H gb n : Nat) (m : Int) (w : World) (off T : Nat → Nat) (km : Nat → Bool) (root : Nat) (rv : Value) (k : Nat) (a : Act) (wr : World) : Prop :=
  ∃ (c : Nat) (ord low comp : Nat → Nat) (on : Nat → Bool) (sv fv : Value) (S : List Nat) (F : List (Nat × Nat)) (r : Nat), Fits H gb n m (.int .i32 (c : Int)) rv a ∧ TS H gb n w wr ord low comp on sv fv S F r ∧ Iv n off T km root k ord low comp on S F r c

/-- behind the inner loop -/
def X2 (H gb n : Nat) (m : Int) (w : World) (off T : Nat → Nat) (km : Nat → Bool) (root : Nat) (rv : Value) (a : Act) (wr : World) : Prop :=
  ∃ (k c : Nat) (ord low comp : Nat → Nat) (on : Nat → Bool) (sv fv : Value) (S : List Nat) (r : Nat), Fits H gb n m (.int .i32 (c : Int)) rv a ∧ TS H gb n w wr ord low comp on sv fv S [] r ∧ Iv n off T km root k ord low comp on S [] r c

set_option maxRecDepth 100000 in
set_option maxHeartbeats 2000000 in
theorem r2_round (H gb n nt nk oc tc kc : Nat) (m : Int) (oa ta ka : Option Addr) (off T : Nat → Nat) (tz kz : Nat → Int) (w : World) (root : Nat) (rv : Value) (Q0 : Exit → Act → World → Prop)
    (hG : Gr w gb n (n + 1) nt nk oc tc kc oa ta ka off tz kz) (hF : GF n nt nk off tz T) (hH : w.heap.size = H)
    (hX : ∀ a' w', X2 H gb n m w off T (kmB kz m) root rv a' w' → Q0 (.exit 2) a' w')
    (k : Nat) (a : Act) (wr : World) (hI2 : I2 H gb n m w off T (kmB kz m) root rv k a wr) :
    Code.wp Try.prog (L2 Try.f27) (Exit.then (fun a' w' => ∃ k', k' < k ∧ I2 H gb n m w off T (kmB kz m) root rv k' a' w') Q0) a wr := by
  obtain ⟨c, ord, low, comp, on, sv, fv, S, F, r, hfit, hT, hI⟩ := hI2
  obtain ⟨g, rfl⟩ : ∃ g, a = FR H gb n m (.int .i32 (c : Int)) rv g := ⟨_, hfit⟩
  have hK : ∀ (a' : Act) (w' : World) (c' k' : Nat) (ord' low' comp' : Nat → Nat) (on' : Nat → Bool) (sv' fv' : Value) (S' : List Nat) (F' : List (Nat × Nat)) (r' : Nat), Fits H gb n m (.int .i32 (c' : Int)) rv a' → TS H gb n w w' ord' low' comp' on' sv' fv' S' F' r' → Iv n off T (kmB kz m) root k' ord' low' comp' on' S' F' r' c' → k' < k → (fun a' w' => ∃ k', k' < k ∧ I2 H gb n m w off T (kmB kz m) root rv k' a' w') a' w' :=
    fun a' w' c' k' ord' low' comp' on' sv' fv' S' F' r' h1 h2 h3 h4 => ⟨k', h4, c', ord', low', comp', on', sv', fv', S', F', r', h1, h2, h3⟩
  rcases List.eq_nil_or_concat F with rfl | ⟨A, ⟨v, e⟩, hFF⟩
  · exact r2_out H gb n nt nk oc tc kc m oa ta ka off T tz kz w wr root k c ord low comp on sv fv S r rv g _ Q0 hG hF hH (fun a' h => hX a' wr ⟨k, c, ord, low, comp, on, sv, fv, S, r, h, hT, hI⟩) hT hI hK
  rw [List.concat_eq_append] at hFF
  subst hFF
  have hnx := (hI.tj.fNext (v, e) (by simp)).2
  simp only at hnx
  by_cases he : e < off (v + 1)
  · cases hke : kmB kz m e
    · exact r2_skip H gb n nt nk oc tc kc m oa ta ka off T tz kz w wr root k c ord low comp on sv fv S r rv g _ Q0 hG hF hH A v e he hke hT hI hK
    · by_cases hoy : ord (T e) = 0
      · exact r2_visit H gb n nt nk oc tc kc m oa ta ka off T tz kz w wr root k c ord low comp on sv fv S r rv g _ Q0 hG hF hH A v e he hke hoy hT hI hK
      · cases hon : on (T e)
        · exact r2_done H gb n nt nk oc tc kc m oa ta ka off T tz kz w wr root k c ord low comp on sv fv S r rv g _ Q0 hG hF hH A v e he hke hoy hon hT hI hK
        · exact r2_low H gb n nt nk oc tc kc m oa ta ka off T tz kz w wr root k c ord low comp on sv fv S r rv g _ Q0 hG hF hH A v e he hke hoy hon hT hI hK
  · have he : e = off (v + 1) := by omega
    by_cases hlo : low v = ord v
    · rcases List.eq_nil_or_concat A with rfl | ⟨B, ⟨u, eu⟩, hA⟩
      · exact r2_root1 H gb n nt nk oc tc kc m oa ta ka off T tz kz w wr root k c ord low comp on sv fv S r rv g _ Q0 hG hF hH v e he hlo hT hI hK
      · rw [List.concat_eq_append] at hA
        subst hA
        exact r2_root2 H gb n nt nk oc tc kc m oa ta ka off T tz kz w wr root k c ord low comp on sv fv S r rv g _ Q0 hG hF hH B u eu v e he hlo hT hI hK
    · rcases List.eq_nil_or_concat A with rfl | ⟨B, ⟨u, eu⟩, hA⟩
      · exact absurd rfl (hI.tj.popNe hlo)
      · rw [List.concat_eq_append] at hA
        subst hA
        exact r2_popLow H gb n nt nk oc tc kc m oa ta ka off T tz kz w wr root k c ord low comp on sv fv S r rv g _ Q0 hG hF hH B u eu v e he hlo hT hI hK

theorem r2_loop (H gb n nt nk oc tc kc : Nat) (m : Int) (oa ta ka : Option Addr) (off T : Nat → Nat) (tz kz : Nat → Int) (w : World) (root : Nat) (rv : Value) (Q0 : Exit → Act → World → Prop)
    (hG : Gr w gb n (n + 1) nt nk oc tc kc oa ta ka off tz kz) (hF : GF n nt nk off tz T) (hH : w.heap.size = H) (k : Nat) (a : Act) (wr : World) (hI : I2 H gb n m w off T (kmB kz m) root rv k a wr)
    (hX : ∀ a' w', X2 H gb n m w off T (kmB kz m) root rv a' w' → Q0 (.exit 2) a' w') :
    Code.wp Try.prog (Code.loop (L2 Try.f27)) Q0 a wr :=
  wp_loop_ghost (I2 H gb n m w off T (kmB kz m) root rv) k hI (fun k a w1 h => r2_round H gb n nt nk oc tc kc m oa ta ka off T tz kz w root rv Q0 hG hF hH hX k a w1 h)

set_option maxHeartbeats 4000000 in
set_option maxRecDepth 100000 in
theorem r1_out (H gb n nt nk oc tc kc : Nat) (m : Int) (oa ta ka : Option Addr) (off T : Nat → Nat) (tz kz : Nat → Int) (w wr : World) (root k c : Nat) (ord low comp : Nat → Nat) (on : Nat → Bool) (sv fv : Value) (S : List Nat) (r : Nat) (g : Nat → Value) (K : Act → World → Prop) (Q0 : Exit → Act → World → Prop)
    (hG : Gr w gb n (n + 1) nt nk oc tc kc oa ta ka off tz kz) (hF : GF n nt nk off tz T) (hH : w.heap.size = H) (hr : root = n)
    (hT : TS H gb n w wr ord low comp on sv fv S [] r) (hI : Iv n off T (kmB kz m) root k ord low comp on S [] r c)
    (hX : ∀ (a' : Act), Fits H gb n m (.int .i32 (c : Int)) (.int .i32 (root : Int)) a' → Q0 (.exit 0) a' wr) :
    Code.wp Try.prog (L1 Try.f27) (Exit.then K Q0) ⟨#[.pointer (some ⟨gb, 0, none⟩), .int .u8 m, .pointer (some ⟨H, 0, none⟩), g 3, g 4, .pointer (some ⟨H + 2, 0, none⟩), .pointer (some ⟨H + 4, 0, none⟩), .slice (some ⟨H + 5, 0, none⟩) n n, .pointer (some ⟨H + 7, 0, none⟩), .pointer (some ⟨H + 8, 0, none⟩), .pointer (some ⟨H + 9, 0, none⟩), .pointer (some ⟨H + 10, 0, none⟩), .int .i32 (c : Int), .func (.func 30) #[] #[.pointer (some ⟨H + 10, 0, none⟩), .pointer (some ⟨H + 2, 0, none⟩), .pointer (some ⟨H + 4, 0, none⟩), .pointer (some ⟨H + 8, 0, none⟩), .pointer (some ⟨H + 7, 0, none⟩), .pointer (some ⟨H + 9, 0, none⟩), .pointer (some ⟨H, 0, none⟩)], g 14, g 15, g 16, g 17, g 18, g 19, g 20, g 21, g 22, g 23, g 24, g 25, g 26, g 27, g 28, g 29, g 30, g 31, g 32, g 33, g 34, g 35, g 36, g 37, g 38, g 39, g 40, g 41, g 42, g 43, g 44, g 45, .int .i32 (n : Int), .int .i32 (root : Int), g 48, g 49, g 50, g 51, g 52, g 53, g 54, g 55, g 56, g 57, g 58, g 59, g 60, g 61, g 62, g 63, g 64, g 65, g 66, g 67, g 68, g 69, g 70, g 71, g 72, g 73, g 74, g 75, g 76, g 77, g 78, g 79, g 80, g 81, g 82, g 83, g 84, g 85, g 86, g 87, g 88, g 89, g 90, g 91, g 92, g 93, g 94, g 95, g 96, g 97, g 98, g 99, g 100, g 101, g 102, g 103, g 104, g 105, g 106, g 107, g 108, g 109, g 110, g 111, g 112, g 113, g 114, g 115, g 116, g 117, g 118, g 119, g 120, g 121, g 122, g 123, g 124, g 125, g 126, g 127, g 128, g 129, g 130, g 131, g 132, g 133, g 134, g 135, g 136, g 137, g 138, g 139, g 140, g 141, g 142, g 143, g 144, g 145, g 146, g 147, g 148, g 149, g 150, g 151, g 152, g 153, g 154, g 155, g 156, g 157, g 158, g 159, g 160, g 161, g 162, g 163, g 164, g 165, g 166, g 167, g 168, g 169, g 170, g 171, g 172, g 173, g 174, g 175, g 176, g 177, g 178, g 179, g 180, g 181, g 182, g 183, g 184, g 185, g 186, g 187, g 188, g 189, g 190, g 191, g 192, g 193, g 194, g 195, g 196, g 197, g 198, g 199, g 200, g 201], []⟩ wr := by
  subst hr
  have hlt : decide ((root : Int) < (root : Int)) = false := by simp
  have HX := hid hX
  clear hG hF hT hI hX
  conv => arg 2; whnf
  go_wp2
  exact HX.out _ rfl
set_option maxHeartbeats 4000000 in
set_option maxRecDepth 100000 in
theorem r1_met (H gb n nt nk oc tc kc : Nat) (m : Int) (oa ta ka : Option Addr) (off T : Nat → Nat) (tz kz : Nat → Int) (w wr : World) (root k c : Nat) (ord low comp : Nat → Nat) (on : Nat → Bool) (sv fv : Value) (S : List Nat) (r : Nat) (g : Nat → Value) (K : Act → World → Prop) (Q0 : Exit → Act → World → Prop)
    (hG : Gr w gb n (n + 1) nt nk oc tc kc oa ta ka off tz kz) (hF : GF n nt nk off tz T) (hH : w.heap.size = H) (hr : root < n) (ho : ord root ≠ 0)
    (hT : TS H gb n w wr ord low comp on sv fv S [] r) (hI : Iv n off T (kmB kz m) root k ord low comp on S [] r c)
    (hK : ∀ (a' : Act) (w' : World) (c' k' : Nat) (ord' low' comp' : Nat → Nat) (on' : Nat → Bool) (sv' fv' : Value) (S' : List Nat) (r' : Nat), Fits H gb n m (.int .i32 (c' : Int)) (.int .i32 ((root + 1 : Nat) : Int)) a' → TS H gb n w w' ord' low' comp' on' sv' fv' S' [] r' → Iv n off T (kmB kz m) (root + 1) k' ord' low' comp' on' S' [] r' c' → K a' w') :
    Code.wp Try.prog (L1 Try.f27) (Exit.then K Q0) ⟨#[.pointer (some ⟨gb, 0, none⟩), .int .u8 m, .pointer (some ⟨H, 0, none⟩), g 3, g 4, .pointer (some ⟨H + 2, 0, none⟩), .pointer (some ⟨H + 4, 0, none⟩), .slice (some ⟨H + 5, 0, none⟩) n n, .pointer (some ⟨H + 7, 0, none⟩), .pointer (some ⟨H + 8, 0, none⟩), .pointer (some ⟨H + 9, 0, none⟩), .pointer (some ⟨H + 10, 0, none⟩), .int .i32 (c : Int), .func (.func 30) #[] #[.pointer (some ⟨H + 10, 0, none⟩), .pointer (some ⟨H + 2, 0, none⟩), .pointer (some ⟨H + 4, 0, none⟩), .pointer (some ⟨H + 8, 0, none⟩), .pointer (some ⟨H + 7, 0, none⟩), .pointer (some ⟨H + 9, 0, none⟩), .pointer (some ⟨H, 0, none⟩)], g 14, g 15, g 16, g 17, g 18, g 19, g 20, g 21, g 22, g 23, g 24, g 25, g 26, g 27, g 28, g 29, g 30, g 31, g 32, g 33, g 34, g 35, g 36, g 37, g 38, g 39, g 40, g 41, g 42, g 43, g 44, g 45, .int .i32 (n : Int), .int .i32 (root : Int), g 48, g 49, g 50, g 51, g 52, g 53, g 54, g 55, g 56, g 57, g 58, g 59, g 60, g 61, g 62, g 63, g 64, g 65, g 66, g 67, g 68, g 69, g 70, g 71, g 72, g 73, g 74, g 75, g 76, g 77, g 78, g 79, g 80, g 81, g 82, g 83, g 84, g 85, g 86, g 87, g 88, g 89, g 90, g 91, g 92, g 93, g 94, g 95, g 96, g 97, g 98, g 99, g 100, g 101, g 102, g 103, g 104, g 105, g 106, g 107, g 108, g 109, g 110, g 111, g 112, g 113, g 114, g 115, g 116, g 117, g 118, g 119, g 120, g 121, g 122, g 123, g 124, g 125, g 126, g 127, g 128, g 129, g 130, g 131, g 132, g 133, g 134, g 135, g 136, g 137, g 138, g 139, g 140, g 141, g 142, g 143, g 144, g 145, g 146, g 147, g 148, g 149, g 150, g 151, g 152, g 153, g 154, g 155, g 156, g 157, g 158, g 159, g 160, g 161, g 162, g 163, g 164, g 165, g 166, g 167, g 168, g 169, g 170, g 171, g 172, g 173, g 174, g 175, g 176, g 177, g 178, g 179, g 180, g 181, g 182, g 183, g 184, g 185, g 186, g 187, g 188, g 189, g 190, g 191, g 192, g 193, g 194, g 195, g 196, g 197, g 198, g 199, g 200, g 201], []⟩ wr := by
  have hn := hF.small
  have hlt : decide ((root : Int) < (n : Int)) = true := by simp; omega
  have cO := hT.cO
  have co := hT.rO.cell hr
  have i0 : (0 : Int) ≤ (root : Int) := by omega
  have i1 : (root : Int) < (n : Int) := by omega
  have HK := hid hK
  have HT := hid hT
  have HI := hid hI
  have q : (((ord root : Nat) : Int) != 0) = true := by simp; omega
  have HO := hid ho
  clear hG hF hT hI hK ho
  conv => arg 2; whnf
  go_wp2
  exact HK.out _ _ c k ord low comp on sv fv S r rfl HT.out ⟨HI.out.tj, HI.out.cnt, HI.out.cS, fun x hx => by
    by_cases q : x = root
    · rw [q]; exact HO.out
    · exact HI.out.rt x (by omega), HI.out.pot⟩
set_option maxHeartbeats 4000000 in
set_option maxRecDepth 100000 in
theorem r1_new (H gb n nt nk oc tc kc : Nat) (m : Int) (oa ta ka : Option Addr) (off T : Nat → Nat) (tz kz : Nat → Int) (w wr : World) (root k c : Nat) (ord low comp : Nat → Nat) (on : Nat → Bool) (sv fv : Value) (S : List Nat) (r : Nat) (g : Nat → Value) (K : Act → World → Prop) (Q0 : Exit → Act → World → Prop)
    (hG : Gr w gb n (n + 1) nt nk oc tc kc oa ta ka off tz kz) (hF : GF n nt nk off tz T) (hH : w.heap.size = H) (hr : root < n) (ho : ord root = 0)
    (hT : TS H gb n w wr ord low comp on sv fv S [] r) (hI : Iv n off T (kmB kz m) root k ord low comp on S [] r c)
    (hK : ∀ (a' : Act) (w' : World) (c' k' : Nat) (ord' low' comp' : Nat → Nat) (on' : Nat → Bool) (sv' fv' : Value) (S' : List Nat) (r' : Nat), Fits H gb n m (.int .i32 (c' : Int)) (.int .i32 ((root + 1 : Nat) : Int)) a' → TS H gb n w w' ord' low' comp' on' sv' fv' S' [] r' → Iv n off T (kmB kz m) (root + 1) k' ord' low' comp' on' S' [] r' c' → K a' w') :
    Code.wp Try.prog (L1 Try.f27) (Exit.then K Q0) ⟨#[.pointer (some ⟨gb, 0, none⟩), .int .u8 m, .pointer (some ⟨H, 0, none⟩), g 3, g 4, .pointer (some ⟨H + 2, 0, none⟩), .pointer (some ⟨H + 4, 0, none⟩), .slice (some ⟨H + 5, 0, none⟩) n n, .pointer (some ⟨H + 7, 0, none⟩), .pointer (some ⟨H + 8, 0, none⟩), .pointer (some ⟨H + 9, 0, none⟩), .pointer (some ⟨H + 10, 0, none⟩), .int .i32 (c : Int), .func (.func 30) #[] #[.pointer (some ⟨H + 10, 0, none⟩), .pointer (some ⟨H + 2, 0, none⟩), .pointer (some ⟨H + 4, 0, none⟩), .pointer (some ⟨H + 8, 0, none⟩), .pointer (some ⟨H + 7, 0, none⟩), .pointer (some ⟨H + 9, 0, none⟩), .pointer (some ⟨H, 0, none⟩)], g 14, g 15, g 16, g 17, g 18, g 19, g 20, g 21, g 22, g 23, g 24, g 25, g 26, g 27, g 28, g 29, g 30, g 31, g 32, g 33, g 34, g 35, g 36, g 37, g 38, g 39, g 40, g 41, g 42, g 43, g 44, g 45, .int .i32 (n : Int), .int .i32 (root : Int), g 48, g 49, g 50, g 51, g 52, g 53, g 54, g 55, g 56, g 57, g 58, g 59, g 60, g 61, g 62, g 63, g 64, g 65, g 66, g 67, g 68, g 69, g 70, g 71, g 72, g 73, g 74, g 75, g 76, g 77, g 78, g 79, g 80, g 81, g 82, g 83, g 84, g 85, g 86, g 87, g 88, g 89, g 90, g 91, g 92, g 93, g 94, g 95, g 96, g 97, g 98, g 99, g 100, g 101, g 102, g 103, g 104, g 105, g 106, g 107, g 108, g 109, g 110, g 111, g 112, g 113, g 114, g 115, g 116, g 117, g 118, g 119, g 120, g 121, g 122, g 123, g 124, g 125, g 126, g 127, g 128, g 129, g 130, g 131, g 132, g 133, g 134, g 135, g 136, g 137, g 138, g 139, g 140, g 141, g 142, g 143, g 144, g 145, g 146, g 147, g 148, g 149, g 150, g 151, g 152, g 153, g 154, g 155, g 156, g 157, g 158, g 159, g 160, g 161, g 162, g 163, g 164, g 165, g 166, g 167, g 168, g 169, g 170, g 171, g 172, g 173, g 174, g 175, g 176, g 177, g 178, g 179, g 180, g 181, g 182, g 183, g 184, g 185, g 186, g 187, g 188, g 189, g 190, g 191, g 192, g 193, g 194, g 195, g 196, g 197, g 198, g 199, g 200, g 201], []⟩ wr := by
  have hn := hF.small
  have hlt : decide ((root : Int) < (n : Int)) = true := by simp; omega
  have cO := hT.cO
  have co := hT.rO.cell hr
  have i0 : (0 : Int) ≤ (root : Int) := by omega
  have i1 : (root : Int) < (n : Int) := by omega
  have HK := hid hK
  have HT := hid hT
  have HI := hid hI
  obtain rfl := hI.tj.empty
  rw [ho] at co
  have hr1 : r ≤ 65536 := by have := hI.rLe; omega
  have hoy1 : off root ≤ 65536 := by
    have h1 := hF.le (x := root) (y := n) (by omega) (Nat.le_refl _)
    have h2 := hF.le1
    have h3 := hF.nt
    omega
  have HG := hid hG
  have HF := hid hF
  have HH := hid hH
  clear hG hF hT hI hK hH
  conv => arg 2; whnf
  go_wp2_with fail
  refine (visit_any H gb n nt nk oc tc kc root r _ _ _ off tz kz w _ ord low comp on sv fv [] [] HT.out HG.out HH.out hr hn hr1 (by simp) (by simp) hoy1).mono ?_
  rintro e1 w1 ⟨rfl, sv', fv', T2⟩
  have HT2 := hid T2
  clear T2
  go_wp2
  refine r2_loop H gb n nt nk oc tc kc m oa ta ka off T tz kz w (root + 1) (.int .i32 (root : Int)) _ HG.out HF.out HH.out k _ w1 ⟨c, _, _, comp, _, sv', fv', _, _, _, rfl, HT2.out, HI.out.root HF.out.wf hr ho⟩ ?_
  rintro a' w' ⟨k2, c2, ord2, low2, comp2, on2, sv2, fv2, S2, r2, hfit, T3, I3⟩
  obtain ⟨g', rfl⟩ : ∃ g', a' = FR H gb n m (.int .i32 (c2 : Int)) (.int .i32 (root : Int)) g' := ⟨_, hfit⟩
  have HT3 := hid T3
  have HI3 := hid I3
  clear hfit T3 I3
  unfold FR
  dsimp only
  go_wp2
  exact HK.out _ _ c2 k2 ord2 low2 comp2 on2 sv2 fv2 S2 r2 rfl HT3.out HI3.out

end Go.Proofs.Qxb6602859a
