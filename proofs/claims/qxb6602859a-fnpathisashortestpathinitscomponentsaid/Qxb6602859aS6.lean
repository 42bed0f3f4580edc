import Derived.Test.Qxb6602859aS5
namespace Go.Proofs.Qxb6602859a
open Go.RowKit Kit
set_option linter.unusedVariables false
set_option linter.unusedSimpArgs false

set_option maxHeartbeats 4000000 in
set_option maxRecDepth 100000 in
theorem r2_out (H gb n nt nk oc tc kc : Nat) (m : Int) (oa ta ka : Option Addr) (off T : Nat → Nat) (tz kz : Nat → Int) (w wr : World) (root k c : Nat) (ord low comp : Nat → Nat) (on : Nat → Bool) (sv fv : Value) (S : List Nat) (r : Nat) (rv : Value) (g : Nat → Value) (K : Act → World → Prop) (Q0 : Exit → Act → World → Prop)
    (hG : Gr w gb n (n + 1) nt nk oc tc kc oa ta ka off tz kz) (hF : GF n nt nk off tz T) (hH : w.heap.size = H) (hX : ∀ (a' : Act), Fits H gb n m (.int .i32 (c : Int)) rv a' → Q0 (.exit 2) a' wr)
    (hT : TS H gb n w wr ord low comp on sv fv S [] r) (hI : Iv n off T (kmB kz m) root k ord low comp on S [] r c)
    (hK : ∀ (a' : Act) (w' : World) (c' k' : Nat) (ord' low' comp' : Nat → Nat) (on' : Nat → Bool) (sv' fv' : Value) (S' : List Nat) (F' : List (Nat × Nat)) (r' : Nat), Fits H gb n m (.int .i32 (c' : Int)) rv a' → TS H gb n w w' ord' low' comp' on' sv' fv' S' F' r' → Iv n off T (kmB kz m) root k' ord' low' comp' on' S' F' r' c' → k' < k → K a' w') :
    Code.wp Try.prog (L2 Try.f27) (Exit.then K Q0) ⟨#[.pointer (some ⟨gb, 0, none⟩), .int .u8 m, .pointer (some ⟨H, 0, none⟩), g 3, g 4, .pointer (some ⟨H + 2, 0, none⟩), .pointer (some ⟨H + 4, 0, none⟩), .slice (some ⟨H + 5, 0, none⟩) n n, .pointer (some ⟨H + 7, 0, none⟩), .pointer (some ⟨H + 8, 0, none⟩), .pointer (some ⟨H + 9, 0, none⟩), .pointer (some ⟨H + 10, 0, none⟩), .int .i32 (c : Int), .func (.func 30) #[] #[.pointer (some ⟨H + 10, 0, none⟩), .pointer (some ⟨H + 2, 0, none⟩), .pointer (some ⟨H + 4, 0, none⟩), .pointer (some ⟨H + 8, 0, none⟩), .pointer (some ⟨H + 7, 0, none⟩), .pointer (some ⟨H + 9, 0, none⟩), .pointer (some ⟨H, 0, none⟩)], g 14, g 15, g 16, g 17, g 18, g 19, g 20, g 21, g 22, g 23, g 24, g 25, g 26, g 27, g 28, g 29, g 30, g 31, g 32, g 33, g 34, g 35, g 36, g 37, g 38, g 39, g 40, g 41, g 42, g 43, g 44, g 45, .int .i32 (n : Int), rv, g 48, g 49, g 50, g 51, g 52, g 53, g 54, g 55, g 56, g 57, g 58, g 59, g 60, g 61, g 62, g 63, g 64, g 65, g 66, g 67, g 68, g 69, g 70, g 71, g 72, g 73, g 74, g 75, g 76, g 77, g 78, g 79, g 80, g 81, g 82, g 83, g 84, g 85, g 86, g 87, g 88, g 89, g 90, g 91, g 92, g 93, g 94, g 95, g 96, g 97, g 98, g 99, g 100, g 101, g 102, g 103, g 104, g 105, g 106, g 107, g 108, g 109, g 110, g 111, g 112, g 113, g 114, g 115, g 116, g 117, g 118, g 119, g 120, g 121, g 122, g 123, g 124, g 125, g 126, g 127, g 128, g 129, g 130, g 131, g 132, g 133, g 134, g 135, g 136, g 137, g 138, g 139, g 140, g 141, g 142, g 143, g 144, g 145, g 146, g 147, g 148, g 149, g 150, g 151, g 152, g 153, g 154, g 155, g 156, g 157, g 158, g 159, g 160, g 161, g 162, g 163, g 164, g 165, g 166, g 167, g 168, g 169, g 170, g 171, g 172, g 173, g 174, g 175, g 176, g 177, g 178, g 179, g 180, g 181, g 182, g 183, g 184, g 185, g 186, g 187, g 188, g 189, g 190, g 191, g 192, g 193, g 194, g 195, g 196, g 197, g 198, g 199, g 200, g 201], []⟩ wr := by
  have cF := hT.cF
  have oF := hT.oF
  obtain ⟨_, ⟨rfl, _⟩ | ⟨fg, cap, cur, rfl, _⟩⟩ := oF
  · have HX := hid hX
    clear hK hG hF hT hI hX
    conv => arg 2; whnf
    go_wp2
    exact HX.out _ rfl
  · have HX := hid hX
    clear hK hG hF hT hI hX
    conv => arg 2; whnf
    go_wp2
    exact HX.out _ rfl
set_option maxHeartbeats 4000000 in
set_option maxRecDepth 100000 in
theorem r2_skip (H gb n nt nk oc tc kc : Nat) (m : Int) (oa ta ka : Option Addr) (off T : Nat → Nat) (tz kz : Nat → Int) (w wr : World) (root k c : Nat) (ord low comp : Nat → Nat) (on : Nat → Bool) (sv fv : Value) (S : List Nat) (r : Nat) (rv : Value) (g : Nat → Value) (K : Act → World → Prop) (Q0 : Exit → Act → World → Prop)
    (hG : Gr w gb n (n + 1) nt nk oc tc kc oa ta ka off tz kz) (hF : GF n nt nk off tz T) (hH : w.heap.size = H) (A : List (Nat × Nat)) (v e : Nat) (he : e < off (v + 1)) (hke : kmB kz m e = false)
    (hT : TS H gb n w wr ord low comp on sv fv S (A ++ [(v, e)]) r) (hI : Iv n off T (kmB kz m) root k ord low comp on S (A ++ [(v, e)]) r c)
    (hK : ∀ (a' : Act) (w' : World) (c' k' : Nat) (ord' low' comp' : Nat → Nat) (on' : Nat → Bool) (sv' fv' : Value) (S' : List Nat) (F' : List (Nat × Nat)) (r' : Nat), Fits H gb n m (.int .i32 (c' : Int)) rv a' → TS H gb n w w' ord' low' comp' on' sv' fv' S' F' r' → Iv n off T (kmB kz m) root k' ord' low' comp' on' S' F' r' c' → k' < k → K a' w') :
    Code.wp Try.prog (L2 Try.f27) (Exit.then K Q0) ⟨#[.pointer (some ⟨gb, 0, none⟩), .int .u8 m, .pointer (some ⟨H, 0, none⟩), g 3, g 4, .pointer (some ⟨H + 2, 0, none⟩), .pointer (some ⟨H + 4, 0, none⟩), .slice (some ⟨H + 5, 0, none⟩) n n, .pointer (some ⟨H + 7, 0, none⟩), .pointer (some ⟨H + 8, 0, none⟩), .pointer (some ⟨H + 9, 0, none⟩), .pointer (some ⟨H + 10, 0, none⟩), .int .i32 (c : Int), .func (.func 30) #[] #[.pointer (some ⟨H + 10, 0, none⟩), .pointer (some ⟨H + 2, 0, none⟩), .pointer (some ⟨H + 4, 0, none⟩), .pointer (some ⟨H + 8, 0, none⟩), .pointer (some ⟨H + 7, 0, none⟩), .pointer (some ⟨H + 9, 0, none⟩), .pointer (some ⟨H, 0, none⟩)], g 14, g 15, g 16, g 17, g 18, g 19, g 20, g 21, g 22, g 23, g 24, g 25, g 26, g 27, g 28, g 29, g 30, g 31, g 32, g 33, g 34, g 35, g 36, g 37, g 38, g 39, g 40, g 41, g 42, g 43, g 44, g 45, .int .i32 (n : Int), rv, g 48, g 49, g 50, g 51, g 52, g 53, g 54, g 55, g 56, g 57, g 58, g 59, g 60, g 61, g 62, g 63, g 64, g 65, g 66, g 67, g 68, g 69, g 70, g 71, g 72, g 73, g 74, g 75, g 76, g 77, g 78, g 79, g 80, g 81, g 82, g 83, g 84, g 85, g 86, g 87, g 88, g 89, g 90, g 91, g 92, g 93, g 94, g 95, g 96, g 97, g 98, g 99, g 100, g 101, g 102, g 103, g 104, g 105, g 106, g 107, g 108, g 109, g 110, g 111, g 112, g 113, g 114, g 115, g 116, g 117, g 118, g 119, g 120, g 121, g 122, g 123, g 124, g 125, g 126, g 127, g 128, g 129, g 130, g 131, g 132, g 133, g 134, g 135, g 136, g 137, g 138, g 139, g 140, g 141, g 142, g 143, g 144, g 145, g 146, g 147, g 148, g 149, g 150, g 151, g 152, g 153, g 154, g 155, g 156, g 157, g 158, g 159, g 160, g 161, g 162, g 163, g 164, g 165, g 166, g 167, g 168, g 169, g 170, g 171, g 172, g 173, g 174, g 175, g 176, g 177, g 178, g 179, g 180, g 181, g 182, g 183, g 184, g 185, g 186, g 187, g 188, g 189, g 190, g 191, g 192, g 193, g 194, g 195, g 196, g 197, g 198, g 199, g 200, g 201], []⟩ wr := by
  obtain ⟨a, ha⟩ : ∃ a, A.length = a := ⟨_, rfl⟩
  obtain ⟨fg, fcap, rfl, f1, f2, cv, ce, ze, fl, fh⟩ := ownF_top (e0 := 0) hT.oF ha
  have cF := hT.cF
  have cG := hT.cG
  have hv := hI.tj.sN v (hI.tj.fS (v, e) (by simp))
  have hn := hF.small
  have Gr1 := hG.below (by rw [hH]; exact hT.bel)
  have g2 := Gr1.c2
  have g3 := Gr1.c3
  have g4 := Gr1.c4
  obtain ⟨og, eo, co⟩ := Gr1.rO.slice.2.2 (v + 1) (by omega)
  subst eo
  have i0 : (0 : Int) ≤ (v : Int) + 1 := by omega
  have i1 : (v : Int) + 1 < (n : Int) + 1 := by omega
  have i2 : (0 : Int) ≤ (a : Int) := by omega
  have i3 : (a : Int) < (a : Int) + 1 := by omega
  have w32 : IntKind.i32.wrap ((v : Int) + 1) = (v : Int) + 1 := by rw [IntKind.wrap_i32]; omega
  have hoe : off v ≤ e := (hI.tj.fNext (v, e) (by simp)).1
  have hen : e < off n := Nat.lt_of_lt_of_le he (hF.le (x := v + 1) (by omega) (Nat.le_refl _))
  have he0 : off 0 ≤ e := Nat.le_trans (hF.le (Nat.zero_le v) (by omega)) hoe
  have hent : e < nt := Nat.lt_of_lt_of_le hen hF.le1
  have henk : e < nk := Nat.lt_of_lt_of_le hen hF.le2
  have hnt := hF.nt
  obtain ⟨tg, et, ct⟩ := Gr1.rT.slice.2.2 e hent
  obtain ⟨kg, ek, ck⟩ := Gr1.rK.slice.2.2 e henk
  subst et
  subst ek
  obtain ⟨hte, htn⟩ := hF.tgt e he0 hen
  rw [hte] at ct
  have i4 : (0 : Int) ≤ (e : Int) := by omega
  have i5 : (e : Int) < (nt : Int) := by omega
  have i6 : (e : Int) < (nk : Int) := by omega
  obtain ⟨y, hy⟩ : ∃ y, T e = y := ⟨_, rfl⟩
  rw [hy] at ct
  obtain ⟨kv, hkv⟩ : ∃ kv, kz e = kv := ⟨_, rfl⟩
  rw [hkv] at ck
  have HA := hid ha
  have HK := hid hK
  have HT := hid hT
  have HI := hid hI
  have HE := hid (And.intro he (And.intro hoe (And.intro (show T e = y from hy) (And.intro hkv htn))))
  obtain ⟨o1, ho1⟩ : ∃ o1, off (v + 1) = o1 := ⟨_, rfl⟩
  rw [ho1] at co
  have HO1 := hid ho1
  have hlt : decide ((e : Int) < (o1 : Int)) = true := by simp; omega
  have hlt' : e < o1 := by omega
  have HGr := hid Gr1
  have HF := hid hF
  have HG := hid hG
  have hz : (bits .and .u8 kv m == 0) = true := by rw [← hkv]; simpa [kmB] using hke
  clear hK hG hT hI Gr1 hte hy hkv he hoe hen he0 ho1 ha hF htn
  conv => arg 2; whnf
  go_wp2
  go_quiet (fail)
  go_wp2
  go_quiet (fail)
  go_wp2
  obtain ⟨k1, I1⟩ := HI.out.skip HE.out.1 (lo := low v) (Nat.le_refl _) (.inl rfl) (fun h => by rw [hke] at h; cases h) (fun h => by rw [hke] at h; cases h)
  rw [up_id] at I1
  exact HK.out _ _ c (k - 1) ord low comp on sv _ S _ r rfl ((HT.out.drewN _).nextF HA.out (by omega)) I1 (by omega)
set_option maxHeartbeats 4000000 in
set_option maxRecDepth 100000 in
theorem r2_done (H gb n nt nk oc tc kc : Nat) (m : Int) (oa ta ka : Option Addr) (off T : Nat → Nat) (tz kz : Nat → Int) (w wr : World) (root k c : Nat) (ord low comp : Nat → Nat) (on : Nat → Bool) (sv fv : Value) (S : List Nat) (r : Nat) (rv : Value) (g : Nat → Value) (K : Act → World → Prop) (Q0 : Exit → Act → World → Prop)
    (hG : Gr w gb n (n + 1) nt nk oc tc kc oa ta ka off tz kz) (hF : GF n nt nk off tz T) (hH : w.heap.size = H) (A : List (Nat × Nat)) (v e : Nat) (he : e < off (v + 1)) (hke : kmB kz m e = true) (hoy : ord (T e) ≠ 0) (hon : on (T e) = false)
    (hT : TS H gb n w wr ord low comp on sv fv S (A ++ [(v, e)]) r) (hI : Iv n off T (kmB kz m) root k ord low comp on S (A ++ [(v, e)]) r c)
    (hK : ∀ (a' : Act) (w' : World) (c' k' : Nat) (ord' low' comp' : Nat → Nat) (on' : Nat → Bool) (sv' fv' : Value) (S' : List Nat) (F' : List (Nat × Nat)) (r' : Nat), Fits H gb n m (.int .i32 (c' : Int)) rv a' → TS H gb n w w' ord' low' comp' on' sv' fv' S' F' r' → Iv n off T (kmB kz m) root k' ord' low' comp' on' S' F' r' c' → k' < k → K a' w') :
    Code.wp Try.prog (L2 Try.f27) (Exit.then K Q0) ⟨#[.pointer (some ⟨gb, 0, none⟩), .int .u8 m, .pointer (some ⟨H, 0, none⟩), g 3, g 4, .pointer (some ⟨H + 2, 0, none⟩), .pointer (some ⟨H + 4, 0, none⟩), .slice (some ⟨H + 5, 0, none⟩) n n, .pointer (some ⟨H + 7, 0, none⟩), .pointer (some ⟨H + 8, 0, none⟩), .pointer (some ⟨H + 9, 0, none⟩), .pointer (some ⟨H + 10, 0, none⟩), .int .i32 (c : Int), .func (.func 30) #[] #[.pointer (some ⟨H + 10, 0, none⟩), .pointer (some ⟨H + 2, 0, none⟩), .pointer (some ⟨H + 4, 0, none⟩), .pointer (some ⟨H + 8, 0, none⟩), .pointer (some ⟨H + 7, 0, none⟩), .pointer (some ⟨H + 9, 0, none⟩), .pointer (some ⟨H, 0, none⟩)], g 14, g 15, g 16, g 17, g 18, g 19, g 20, g 21, g 22, g 23, g 24, g 25, g 26, g 27, g 28, g 29, g 30, g 31, g 32, g 33, g 34, g 35, g 36, g 37, g 38, g 39, g 40, g 41, g 42, g 43, g 44, g 45, .int .i32 (n : Int), rv, g 48, g 49, g 50, g 51, g 52, g 53, g 54, g 55, g 56, g 57, g 58, g 59, g 60, g 61, g 62, g 63, g 64, g 65, g 66, g 67, g 68, g 69, g 70, g 71, g 72, g 73, g 74, g 75, g 76, g 77, g 78, g 79, g 80, g 81, g 82, g 83, g 84, g 85, g 86, g 87, g 88, g 89, g 90, g 91, g 92, g 93, g 94, g 95, g 96, g 97, g 98, g 99, g 100, g 101, g 102, g 103, g 104, g 105, g 106, g 107, g 108, g 109, g 110, g 111, g 112, g 113, g 114, g 115, g 116, g 117, g 118, g 119, g 120, g 121, g 122, g 123, g 124, g 125, g 126, g 127, g 128, g 129, g 130, g 131, g 132, g 133, g 134, g 135, g 136, g 137, g 138, g 139, g 140, g 141, g 142, g 143, g 144, g 145, g 146, g 147, g 148, g 149, g 150, g 151, g 152, g 153, g 154, g 155, g 156, g 157, g 158, g 159, g 160, g 161, g 162, g 163, g 164, g 165, g 166, g 167, g 168, g 169, g 170, g 171, g 172, g 173, g 174, g 175, g 176, g 177, g 178, g 179, g 180, g 181, g 182, g 183, g 184, g 185, g 186, g 187, g 188, g 189, g 190, g 191, g 192, g 193, g 194, g 195, g 196, g 197, g 198, g 199, g 200, g 201], []⟩ wr := by
  obtain ⟨a, ha⟩ : ∃ a, A.length = a := ⟨_, rfl⟩
  obtain ⟨fg, fcap, rfl, f1, f2, cv, ce, ze, fl, fh⟩ := ownF_top (e0 := 0) hT.oF ha
  have cF := hT.cF
  have cG := hT.cG
  have hv := hI.tj.sN v (hI.tj.fS (v, e) (by simp))
  have hn := hF.small
  have Gr1 := hG.below (by rw [hH]; exact hT.bel)
  have g2 := Gr1.c2
  have g3 := Gr1.c3
  have g4 := Gr1.c4
  obtain ⟨og, eo, co⟩ := Gr1.rO.slice.2.2 (v + 1) (by omega)
  subst eo
  have i0 : (0 : Int) ≤ (v : Int) + 1 := by omega
  have i1 : (v : Int) + 1 < (n : Int) + 1 := by omega
  have i2 : (0 : Int) ≤ (a : Int) := by omega
  have i3 : (a : Int) < (a : Int) + 1 := by omega
  have w32 : IntKind.i32.wrap ((v : Int) + 1) = (v : Int) + 1 := by rw [IntKind.wrap_i32]; omega
  have hoe : off v ≤ e := (hI.tj.fNext (v, e) (by simp)).1
  have hen : e < off n := Nat.lt_of_lt_of_le he (hF.le (x := v + 1) (by omega) (Nat.le_refl _))
  have he0 : off 0 ≤ e := Nat.le_trans (hF.le (Nat.zero_le v) (by omega)) hoe
  have hent : e < nt := Nat.lt_of_lt_of_le hen hF.le1
  have henk : e < nk := Nat.lt_of_lt_of_le hen hF.le2
  have hnt := hF.nt
  obtain ⟨tg, et, ct⟩ := Gr1.rT.slice.2.2 e hent
  obtain ⟨kg, ek, ck⟩ := Gr1.rK.slice.2.2 e henk
  subst et
  subst ek
  obtain ⟨hte, htn⟩ := hF.tgt e he0 hen
  rw [hte] at ct
  have i4 : (0 : Int) ≤ (e : Int) := by omega
  have i5 : (e : Int) < (nt : Int) := by omega
  have i6 : (e : Int) < (nk : Int) := by omega
  obtain ⟨y, hy⟩ : ∃ y, T e = y := ⟨_, rfl⟩
  rw [hy] at ct
  obtain ⟨kv, hkv⟩ : ∃ kv, kz e = kv := ⟨_, rfl⟩
  rw [hkv] at ck
  have HA := hid ha
  have HK := hid hK
  have HT := hid hT
  have HI := hid hI
  have HE := hid (And.intro he (And.intro hoe (And.intro (show T e = y from hy) (And.intro hkv htn))))
  obtain ⟨o1, ho1⟩ : ∃ o1, off (v + 1) = o1 := ⟨_, rfl⟩
  rw [ho1] at co
  have HO1 := hid ho1
  have hlt : decide ((e : Int) < (o1 : Int)) = true := by simp; omega
  have hlt' : e < o1 := by omega
  have HGr := hid Gr1
  have HF := hid hF
  have HG := hid hG
  have m1 : fg ≠ H + 1 := by omega
  have m2 : fg ≠ H + 2 := by omega
  have m3 : fg ≠ H + 3 := by omega
  have m4 : fg ≠ H + 4 := by omega
  have m6 : fg ≠ H + 6 := by omega
  have m7 : fg ≠ H + 7 := by omega
  have i7 : (0 : Int) ≤ (y : Int) := by omega
  have hyn : y < n := by rw [← hy]; exact htn
  have i8 : (y : Int) < (n : Int) := by omega
  have hz : (bits .and .u8 kv m == 0) = false := by rw [← hkv]; simpa [kmB] using hke
  have cO := hT.cO
  have cL := hT.cL
  have cN := hT.cN
  have coy := hT.rO.cell hyn
  have cny := hT.rN.cell hyn
  have clv := hT.rL.cell hv
  have zlv := hT.rL.frozen v
  have ho0 : (((ord y : Nat) : Int) == 0) = false := by rw [← hy]; simpa using hoy
  rw [← hy, hon, hy] at cny
  obtain ⟨oy, hoy'⟩ : ∃ oy, ord y = oy := ⟨_, rfl⟩
  rw [hoy'] at coy ho0
  clear hoy'
  clear hK hG hT hI Gr1 hte hy hkv he hoe hen he0 ho1 ha hF htn
  conv => arg 2; whnf
  go_wp2
  go_quiet (fail)
  go_wp2
  go_quiet (fail)
  go_wp2
  obtain ⟨k1, I1⟩ := HI.out.skip HE.out.1 (lo := low v) (Nat.le_refl _) (.inl rfl) (fun _ => hoy) (fun _ hS => by
    have := (HI.out.tj.on_iff _ HE.out.2.2.2.2).2 hS
    rw [hon] at this
    cases this)
  rw [up_id] at I1
  exact HK.out _ _ c (k - 1) ord low comp on sv _ S _ r rfl ((HT.out.drewN _).nextF HA.out (by omega)) I1 (by omega)
set_option maxHeartbeats 4000000 in
set_option maxRecDepth 100000 in
theorem r2_visit (H gb n nt nk oc tc kc : Nat) (m : Int) (oa ta ka : Option Addr) (off T : Nat → Nat) (tz kz : Nat → Int) (w wr : World) (root k c : Nat) (ord low comp : Nat → Nat) (on : Nat → Bool) (sv fv : Value) (S : List Nat) (r : Nat) (rv : Value) (g : Nat → Value) (K : Act → World → Prop) (Q0 : Exit → Act → World → Prop)
    (hG : Gr w gb n (n + 1) nt nk oc tc kc oa ta ka off tz kz) (hF : GF n nt nk off tz T) (hH : w.heap.size = H) (A : List (Nat × Nat)) (v e : Nat) (he : e < off (v + 1)) (hke : kmB kz m e = true) (hoy : ord (T e) = 0)
    (hT : TS H gb n w wr ord low comp on sv fv S (A ++ [(v, e)]) r) (hI : Iv n off T (kmB kz m) root k ord low comp on S (A ++ [(v, e)]) r c)
    (hK : ∀ (a' : Act) (w' : World) (c' k' : Nat) (ord' low' comp' : Nat → Nat) (on' : Nat → Bool) (sv' fv' : Value) (S' : List Nat) (F' : List (Nat × Nat)) (r' : Nat), Fits H gb n m (.int .i32 (c' : Int)) rv a' → TS H gb n w w' ord' low' comp' on' sv' fv' S' F' r' → Iv n off T (kmB kz m) root k' ord' low' comp' on' S' F' r' c' → k' < k → K a' w') :
    Code.wp Try.prog (L2 Try.f27) (Exit.then K Q0) ⟨#[.pointer (some ⟨gb, 0, none⟩), .int .u8 m, .pointer (some ⟨H, 0, none⟩), g 3, g 4, .pointer (some ⟨H + 2, 0, none⟩), .pointer (some ⟨H + 4, 0, none⟩), .slice (some ⟨H + 5, 0, none⟩) n n, .pointer (some ⟨H + 7, 0, none⟩), .pointer (some ⟨H + 8, 0, none⟩), .pointer (some ⟨H + 9, 0, none⟩), .pointer (some ⟨H + 10, 0, none⟩), .int .i32 (c : Int), .func (.func 30) #[] #[.pointer (some ⟨H + 10, 0, none⟩), .pointer (some ⟨H + 2, 0, none⟩), .pointer (some ⟨H + 4, 0, none⟩), .pointer (some ⟨H + 8, 0, none⟩), .pointer (some ⟨H + 7, 0, none⟩), .pointer (some ⟨H + 9, 0, none⟩), .pointer (some ⟨H, 0, none⟩)], g 14, g 15, g 16, g 17, g 18, g 19, g 20, g 21, g 22, g 23, g 24, g 25, g 26, g 27, g 28, g 29, g 30, g 31, g 32, g 33, g 34, g 35, g 36, g 37, g 38, g 39, g 40, g 41, g 42, g 43, g 44, g 45, .int .i32 (n : Int), rv, g 48, g 49, g 50, g 51, g 52, g 53, g 54, g 55, g 56, g 57, g 58, g 59, g 60, g 61, g 62, g 63, g 64, g 65, g 66, g 67, g 68, g 69, g 70, g 71, g 72, g 73, g 74, g 75, g 76, g 77, g 78, g 79, g 80, g 81, g 82, g 83, g 84, g 85, g 86, g 87, g 88, g 89, g 90, g 91, g 92, g 93, g 94, g 95, g 96, g 97, g 98, g 99, g 100, g 101, g 102, g 103, g 104, g 105, g 106, g 107, g 108, g 109, g 110, g 111, g 112, g 113, g 114, g 115, g 116, g 117, g 118, g 119, g 120, g 121, g 122, g 123, g 124, g 125, g 126, g 127, g 128, g 129, g 130, g 131, g 132, g 133, g 134, g 135, g 136, g 137, g 138, g 139, g 140, g 141, g 142, g 143, g 144, g 145, g 146, g 147, g 148, g 149, g 150, g 151, g 152, g 153, g 154, g 155, g 156, g 157, g 158, g 159, g 160, g 161, g 162, g 163, g 164, g 165, g 166, g 167, g 168, g 169, g 170, g 171, g 172, g 173, g 174, g 175, g 176, g 177, g 178, g 179, g 180, g 181, g 182, g 183, g 184, g 185, g 186, g 187, g 188, g 189, g 190, g 191, g 192, g 193, g 194, g 195, g 196, g 197, g 198, g 199, g 200, g 201], []⟩ wr := by
  obtain ⟨a, ha⟩ : ∃ a, A.length = a := ⟨_, rfl⟩
  obtain ⟨fg, fcap, rfl, f1, f2, cv, ce, ze, fl, fh⟩ := ownF_top (e0 := 0) hT.oF ha
  have cF := hT.cF
  have cG := hT.cG
  have hv := hI.tj.sN v (hI.tj.fS (v, e) (by simp))
  have hn := hF.small
  have Gr1 := hG.below (by rw [hH]; exact hT.bel)
  have g2 := Gr1.c2
  have g3 := Gr1.c3
  have g4 := Gr1.c4
  obtain ⟨og, eo, co⟩ := Gr1.rO.slice.2.2 (v + 1) (by omega)
  subst eo
  have i0 : (0 : Int) ≤ (v : Int) + 1 := by omega
  have i1 : (v : Int) + 1 < (n : Int) + 1 := by omega
  have i2 : (0 : Int) ≤ (a : Int) := by omega
  have i3 : (a : Int) < (a : Int) + 1 := by omega
  have w32 : IntKind.i32.wrap ((v : Int) + 1) = (v : Int) + 1 := by rw [IntKind.wrap_i32]; omega
  have hoe : off v ≤ e := (hI.tj.fNext (v, e) (by simp)).1
  have hen : e < off n := Nat.lt_of_lt_of_le he (hF.le (x := v + 1) (by omega) (Nat.le_refl _))
  have he0 : off 0 ≤ e := Nat.le_trans (hF.le (Nat.zero_le v) (by omega)) hoe
  have hent : e < nt := Nat.lt_of_lt_of_le hen hF.le1
  have henk : e < nk := Nat.lt_of_lt_of_le hen hF.le2
  have hnt := hF.nt
  obtain ⟨tg, et, ct⟩ := Gr1.rT.slice.2.2 e hent
  obtain ⟨kg, ek, ck⟩ := Gr1.rK.slice.2.2 e henk
  subst et
  subst ek
  obtain ⟨hte, htn⟩ := hF.tgt e he0 hen
  rw [hte] at ct
  have i4 : (0 : Int) ≤ (e : Int) := by omega
  have i5 : (e : Int) < (nt : Int) := by omega
  have i6 : (e : Int) < (nk : Int) := by omega
  obtain ⟨y, hy⟩ : ∃ y, T e = y := ⟨_, rfl⟩
  rw [hy] at ct
  obtain ⟨kv, hkv⟩ : ∃ kv, kz e = kv := ⟨_, rfl⟩
  rw [hkv] at ck
  have HA := hid ha
  have HK := hid hK
  have HT := hid hT
  have HI := hid hI
  have HE := hid (And.intro he (And.intro hoe (And.intro (show T e = y from hy) (And.intro hkv htn))))
  obtain ⟨o1, ho1⟩ : ∃ o1, off (v + 1) = o1 := ⟨_, rfl⟩
  rw [ho1] at co
  have HO1 := hid ho1
  have hlt : decide ((e : Int) < (o1 : Int)) = true := by simp; omega
  have hlt' : e < o1 := by omega
  have HGr := hid Gr1
  have HF := hid hF
  have HG := hid hG
  have m1 : fg ≠ H + 1 := by omega
  have m2 : fg ≠ H + 2 := by omega
  have m3 : fg ≠ H + 3 := by omega
  have m4 : fg ≠ H + 4 := by omega
  have m6 : fg ≠ H + 6 := by omega
  have m7 : fg ≠ H + 7 := by omega
  have i7 : (0 : Int) ≤ (y : Int) := by omega
  have hyn : y < n := by rw [← hy]; exact htn
  have i8 : (y : Int) < (n : Int) := by omega
  have hz : (bits .and .u8 kv m == 0) = false := by rw [← hkv]; simpa [kmB] using hke
  have cO := hT.cO
  have cL := hT.cL
  have cN := hT.cN
  have coy := hT.rO.cell hyn
  have cny := hT.rN.cell hyn
  have clv := hT.rL.cell hv
  have zlv := hT.rL.frozen v
  have hw0 : ord y = 0 := by rw [← hy]; exact hoy
  have hoy1 : off y ≤ 65536 := by
    have h1 := hF.le (x := y) (y := n) (by omega) (Nat.le_refl _)
    have h2 := hF.le1
    omega
  have hr : r ≤ 65536 := by have := hI.rLe; omega
  have hSl : S.length ≤ 65536 := by have := hI.cS; omega
  have hFl : (A ++ [(v, e + 1)]).length ≤ 65536 := by have := hI.lenF; simp at this ⊢; omega
  rw [hw0] at coy
  have HH := hid hH
  clear hK hG hT hI Gr1 hte hy hkv he hoe hen he0 ho1 ha hF htn
  conv => arg 2; whnf
  go_wp2
  go_quiet (fail)
  go_wp2
  go_quiet (fail)
  go_wp2_with fail
  refine (visit_any H gb n nt nk oc tc kc y r _ _ _ off tz kz w _ ord low comp on sv _ S _ ((HT.out.drewN _).nextF HA.out (z := (e : Int) + 1) (by omega)) HG.out HH.out hyn hn hr hSl hFl hoy1).mono ?_
  rintro e1 w1 ⟨rfl, sv', fv', T2⟩
  have HT2 := hid T2
  clear T2
  go_wp2
  obtain ⟨k1, I1⟩ := HI.out.visit HF.out.wf HE.out.1 hke HE.out.2.2.1 hw0
  exact HK.out _ _ c (k - 1) _ _ comp _ sv' fv' _ _ _ rfl HT2.out I1 (by omega)

end Go.Proofs.Qxb6602859a
