import Derived.Test.Qxb6602859aS17
namespace Go.Proofs.Qxb6602859a
open Go.RowKit Kit
set_option linter.unusedVariables false
set_option linter.unusedSimpArgs false

/-- 'append' at the operation, its run known -/
theorem wpList_append_eq {P : Program} (w : World) {ops : Array Oper} {rest : List Oper} {o : Oper} {a : Act} {Q : Exit → Act → World → Prop}
    (hg : o.guard = none) (s x : Operand) (t : TypeId) (hop : o.op = Op.call { callee := Callee.builtin Builtin.append, args := #[s, x], argTypes := #[t, t] })
    (vs vx : Value) (hs : a.eval s = vs) (hx : a.eval x = vx) (v' : Value) (w' : World) (hrun : (Builtin.append_ #[t, t] o.type #[vs, vx]).run P w = .ok v' w')
    (hK : wpList P ops Q rest (a.put o.dst v') w') : wpList P ops Q (o :: rest) a w := by
  refine wpList_plain hg fun K hK' => ?_
  unfold Oper.wp
  simp [execOp, hop, resolve, invoke, builtin, hs, hx, hrun, Result.andThen]
  exact hK' _ _ hK

set_option maxHeartbeats 4000000 in
set_option maxRecDepth 100000 in
theorem p2_new (gb n nt nk oc tc kc cc : Nat) (m : Int) (oa ta ka ca : Option Addr) (off T comp : Nat → Nat) (tz kz : Nat → Int) (w wr : World) (u v x e h N mb : Nat) (qv : Value) (Q : List Nat) (d pv : Nat → Nat) (g : Nat → Value) (K : Act → World → Prop) (Q0 : Exit → Act → World → Prop)
    (hG : Gr w gb n (n + 1) nt nk oc tc kc oa ta ka off tz kz) (hF : GF n nt nk off tz T) (hC : Row w 21 (.slice ca n cc) n (fun i => .int .i32 ((comp i : Nat) : Int))) (hu : u < n)
    (hP : PS w wr mb qv N Q pv (Q.drop h)) (hB : Bf n off T (kmB kz m) (fun y => comp y == comp u) u v Q d pv h) (hx : Q[h]? = some x) (hpt : Part off T (kmB kz m) (fun y => comp y == comp u) Q d x e) (hoe : off x ≤ e) (hee : e ≤ off (x + 1)) (he : e < off (x + 1)) (hin : T e ∉ Q) (hke : kmB kz m e = true) (hco : comp (T e) = comp u)
    (hK : ∀ (a' : Act) (w' : World) (N' : Nat) (qv' : Value) (Q' : List Nat) (d' pv' : Nat → Nat), FitsP gb n cc ca u v m mb qv' (.int .i32 (x : Int)) (.int .i32 ((e + 1 : Nat) : Int)) a' → PS w w' mb qv' N' Q' pv' (Q'.drop h) → Bf n off T (kmB kz m) (fun y => comp y == comp u) u v Q' d' pv' h → Q'[h]? = some x → Part off T (kmB kz m) (fun y => comp y == comp u) Q' d' x (e + 1) → K a' w') :
    Code.wp Try.prog (L2 Try.f28) (Exit.then K Q0) ⟨#[.pointer (some ⟨gb, 0, none⟩), .int .i32 (u : Int), .int .i32 (v : Int), .slice ca n cc, .int .u8 m, g 5, g 6, g 7, g 8, g 9, g 10, .map (some mb), qv, .int .i32 (x : Int), .int .i32 (e : Int), g 15, g 16, g 17, g 18, g 19, g 20, g 21, g 22, g 23, g 24, g 25, g 26, g 27, g 28, g 29, g 30, g 31, g 32, g 33, g 34, g 35, g 36, g 37, g 38, g 39, g 40, g 41, g 42, g 43, g 44, g 45, g 46, g 47, g 48, g 49, g 50, g 51, g 52, g 53, g 54, g 55, g 56, g 57, g 58, g 59, g 60, g 61, g 62, g 63, g 64, g 65, g 66, g 67, g 68, g 69, g 70, g 71, g 72, g 73, g 74, g 75, g 76, g 77, g 78, g 79, g 80, g 81, g 82, g 83, g 84, g 85, g 86, g 87, g 88, g 89, g 90, g 91, g 92, g 93, g 94, g 95, g 96, g 97, g 98, g 99, g 100, g 101, g 102, g 103, g 104, g 105, g 106, g 107, g 108, g 109, g 110, g 111, g 112, g 113, g 114, g 115, g 116, g 117], []⟩ wr := by
  have hxQ : x ∈ Q := List.mem_of_getElem? hx
  have hxn := hB.qN x hxQ
  have hn := hF.small
  have Gr1 := hG.below hP.bel
  have g2 := Gr1.c2
  have g3 := Gr1.c3
  have g4 := Gr1.c4
  obtain ⟨og, eo, co⟩ := Gr1.rO.slice.2.2 (x + 1) (by omega)
  subst eo
  have i0 : (0 : Int) ≤ (x : Int) + 1 := by omega
  have i1 : (x : Int) + 1 < (n : Int) + 1 := by omega
  have w32 : IntKind.i32.wrap ((x : Int) + 1) = (x : Int) + 1 := by rw [IntKind.wrap_i32]; omega
  have hen : e < off n := Nat.lt_of_lt_of_le he (hF.le (x := x + 1) (by omega) (Nat.le_refl _))
  have he0 : off 0 ≤ e := Nat.le_trans (hF.le (Nat.zero_le x) (by omega)) hoe
  have hent : e < nt := Nat.lt_of_lt_of_le hen hF.le1
  have henk : e < nk := Nat.lt_of_lt_of_le hen hF.le2
  have hnt := hF.nt
  obtain ⟨tg, et, ct⟩ := Gr1.rT.slice.2.2 e hent
  obtain ⟨kg, ek, ck⟩ := Gr1.rK.slice.2.2 e henk
  subst et
  subst ek
  obtain ⟨hte, htn⟩ := hF.tgt e he0 hen
  rw [hte] at ct
  have i4 : (0 : Int) ≤ (e : Int) := by omega
  have i5 : (e : Int) < (nt : Int) := by omega
  have i6 : (e : Int) < (nk : Int) := by omega
  obtain ⟨y, hy⟩ : ∃ y, T e = y := ⟨_, rfl⟩
  rw [hy] at ct htn
  obtain ⟨kv, hkv⟩ : ∃ kv, kz e = kv := ⟨_, rfl⟩
  rw [hkv] at ck
  have C1 := hC.below hP.bel
  obtain ⟨cg, ec, ccy⟩ := C1.slice.2.2 y htn
  obtain ⟨cg', ec', ccu⟩ := C1.slice.2.2 u hu
  rw [ec] at ec'
  cases ec'
  subst ec
  have i7 : (0 : Int) ≤ (y : Int) := by omega
  have i8 : (y : Int) < (n : Int) := by omega
  have i9 : (0 : Int) ≤ (u : Int) := by omega
  have i10 : (u : Int) < (n : Int) := by omega
  obtain ⟨mem, hm, hmem⟩ := hP.map
  obtain ⟨cz, hlook⟩ := hm.lookOk (x := y) (by omega)
  have HK := hid hK
  have HP := hid hP
  have HB := hid hB
  have HX := hid hx
  have HPT := hid hpt
  have HE := hid (And.intro he (And.intro hoe (And.intro hy (And.intro hkv htn))))
  have HM := hid hmem
  obtain ⟨o1, ho1⟩ : ∃ o1, off (x + 1) = o1 := ⟨_, rfl⟩
  rw [ho1] at co
  have hlt : decide ((e : Int) < (o1 : Int)) = true := by simp; omega
  have hlt' : e < o1 := by omega
  have HF := hid hF
  obtain ⟨cy, hcy⟩ : ∃ cy, comp y = cy := ⟨_, rfl⟩
  obtain ⟨cu, hcu⟩ : ∃ cu, comp u = cu := ⟨_, rfl⟩
  rw [hcy] at ccy
  rw [hcu] at ccu
  have HCC := hid (And.intro hcy hcu)
  have he32 : e ≤ 65536 := by omega
  have hmy : mem y = false := by
    cases q : mem y
    · rfl
    · exact absurd ((hmem y).1 q) (by rw [← hy]; exact hin)
  rw [hmy] at hlook
  have hz : (bits .and .u8 kv m == 0) = false := by rw [← hkv]; simpa [kmB] using hke
  have hcn : ((cy : Int) != (cu : Int)) = false := by
    have : cy = cu := by rw [← hcy, ← hcu, ← hy]; exact hco
    simp; omega
  have HCO := hid hco
  have HIN := hid hin
  have hQl := len_le_of_nodup n Q hB.nd hB.qN
  have hhl := (List.getElem?_eq_some_iff.1 hx).1
  clear hK hG hP hB hx hpt hoe hee Gr1 C1 hte hy hkv he hen he0 ho1 hF hcy hcu hC hm hmem
  clear hin hco
  conv => arg 2; whnf
  go_wp2
  go_quiet (fail)
  obtain ⟨w1, a', c', w2, hrun1, hrun2, P2⟩ := (HP.out.drewN nq).push (x := x) (y := y) (by omega) (by omega) (by rw [← HE.out.2.2.1]; exact HIN.out) (by omega) (by simp; omega) (by simp; omega)
  have HP2 := hid P2
  clear P2 hlook
  go_wp2_with (at_builtin; refine wpList_append_eq _ rfl _ _ 22 rfl qv (.slice (some ⟨w1.heap.size, 0, none⟩) 1 1) rfl rfl _ _ hrun2 ?_)
  have hy' := HE.out.2.2.1
  have hed : EdO n off T (kmB kz m) (fun y => comp y == comp u) x y := ⟨⟨hxn, e, HE.out.2.1, HE.out.1, hke, hy'⟩, by rw [← hy']; simp [HCO.out]⟩
  have hyQ : y ∉ Q := by rw [← hy']; exact HIN.out
  have P3 := HP2.out
  rw [List.length_drop] at P3
  rw [show Q.drop h ++ [y] = (Q ++ [y]).drop h from (List.drop_append_of_le_length (by omega)).symm] at P3
  exact HK.out _ _ (N + 1) _ (Q ++ [y]) (up d y (d x + 1)) (up pv y x) rfl P3 (HB.out.push HX.out hyQ htn hed) (by rw [List.getElem?_append_left (by omega)]; exact HX.out) (HPT.out.push hxQ hyQ hy')

end Go.Proofs.Qxb6602859a
