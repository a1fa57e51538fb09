import JvmDerived
import JvmDerived.Pilot.@@N@@Statement
import JvmDerived.Pilot.@@N@@Code
set_option linter.unusedVariables false
set_option linter.unusedSimpArgs false
namespace Jvm.Pilot.@@N@@
open Jvm Jvm.ClassFile Sem Op Lib Jvm.Free Jvm.Stand Jvm.LawKit Jvm.RoadKit Bundle Jvm.Pilot.@@N@@.Jvm.D
section OwnKit
variable {p : Program} {l : Launch} {e : Env} {R : Room} {s : State} {m : MethodId} {args : Array Value} {below : List Frame} {meth : Method} {c : Code} {T : State} {locs : List Loc} {cells slots : Nat} {Z : State} {a0 : Array Value} {h h' h0 : Heap} {a b : Addr} {sl : Nat} {v w : Value} {C n d : String}
theorem own_retZ (X : Stand p l e R s m args below meth c T locs cells slots) (hx : p.tables.exec = Jvm.exec) {pc : Nat} {Ls : Array Slot} {z : Int32} {rest : List Value} (hz : nar .boolean z = z) (hret : meth.sig.returnType = some .boolean) (hd : decode c.code pc = .ok (.ireturn, 1)) {fs : List Frame}
    (hl : ∀ (f : JFrame) (acts : List Action), f.method = m → f.locked = none → f.entered = [] → (doReturn e (T.setTop f) acts (some (.int z))).1 = T.setFrames fs) : Steps p.tables e below (T.setTop (mkF m pc Ls (.int z :: rest))) (T.setFrames fs) :=
  retN X hx hret (Or.inl rfl) hd (by rw [hz]; exact hl)
theorem own_retI (X : Stand p l e R s m args below meth c T locs cells slots) (hx : p.tables.exec = Jvm.exec) {pc : Nat} {Ls : Array Slot} {z : Int32} {rest : List Value} (hret : meth.sig.returnType = some .int) (hd : decode c.code pc = .ok (.ireturn, 1)) {fs : List Frame}
    (hl : ∀ (f : JFrame) (acts : List Action), f.method = m → f.locked = none → f.entered = [] → (doReturn e (T.setTop f) acts (some (.int z))).1 = T.setFrames fs) : Steps p.tables e below (T.setTop (mkF m pc Ls (.int z :: rest))) (T.setFrames fs) :=
  retOut X hx hret rfl (Or.inl ⟨rfl, Or.inl rfl, z, rfl⟩) hd hl
theorem own_retJ (X : Stand p l e R s m args below meth c T locs cells slots) (hx : p.tables.exec = Jvm.exec) {pc : Nat} {Ls : Array Slot} {z : Int64} {rest : List Value} (hret : meth.sig.returnType = some .long) (hd : decode c.code pc = .ok (.lreturn, 1)) {fs : List Frame}
    (hl : ∀ (f : JFrame) (acts : List Action), f.method = m → f.locked = none → f.entered = [] → (doReturn e (T.setTop f) acts (some (.long z))).1 = T.setFrames fs) : Steps p.tables e below (T.setTop (mkF m pc Ls (.long z :: rest))) (T.setFrames fs) :=
  retOut X hx hret rfl (Or.inr (Or.inl ⟨rfl, rfl, z, rfl⟩)) hd hl
theorem own_narR {t : FieldType} (ht : t.isReference = true) (hw : w.isRef = true) : narrow t w = w := by
  cases t <;> first | (cases ht; done) | (cases w <;> first | rfl | (cases hw; done))
theorem own_retA (X : Stand p l e R s m args below meth c T locs cells slots) (hx : p.tables.exec = Jvm.exec) {pc : Nat} {Ls : Array Slot} {t : FieldType} {rest : List Value} (ht : t.isReference = true) (hw : w.isRef = true) (hret : meth.sig.returnType = some t) (hd : decode c.code pc = .ok (.areturn, 1)) {fs : List Frame}
    (hl : ∀ (f : JFrame) (acts : List Action), f.method = m → f.locked = none → f.entered = [] → (doReturn e (T.setTop f) acts (some w)).1 = T.setFrames fs) : Steps p.tables e below (T.setTop (mkF m pc Ls (w :: rest))) (T.setFrames fs) :=
  retOut X hx hret (own_narR ht hw) (Or.inr (Or.inr (Or.inr (Or.inr ⟨rfl, ht, hw⟩)))) hd hl
theorem own_join (X : Stand p l e R s m args below meth c T locs cells slots) {h : Heap} {g g' : JFrame} (K : ∃ T', Stand p l e R s m args below meth c T' locs cells slots ∧ T'.heap = h ∧ ∀ target, Steps p.tables e below (T'.setTop g') target → Steps p.tables e below (T.setTop g) target) :
    ∃ T', Stand p l e R s m args below meth c T' locs cells slots ∧ T'.heap = h ∧ ∀ target, Steps p.tables e below (T'.setTop g') target → Steps p.tables e below (T.setTop g) target := K
theorem own_ext_refl (h : Heap) : Ext h h := ⟨Nat.le_refl _, fun _ _ q => q⟩
theorem own_ext_tr (E : Ext h0 h) (E' : Ext h h') : Ext h0 h' := ⟨Nat.le_trans E.1 E'.1, fun x y q => E'.2 x y (E.2 x y q)⟩
theorem own_ext_wr (E : Ext h0 h) (W : Wr h h' a sl v) (g : h0.size ≤ a) : Ext h0 h' := ⟨by rw [W.size]; exact E.1, fun x y q => by
  obtain ⟨cb', h1, -, -, -, h5, -⟩ := wr_at W (E.2 x y q)
  rw [h1, h5 (fun r => by subst r; exact absurd (Array.getElem?_eq_some_iff.mp q).1 (Nat.not_lt.mpr g))]⟩
theorem own_fld_inj (F : Fld Z h a C n d v) (G : Fld Z h a C n d w) : v = w := by
  obtain ⟨cell, cf, k, i, f, h1, h2, h3, h4, h5, h6, h7⟩ := F
  obtain ⟨cell', cf', k', i', f', g1, g2, g3, g4, g5, g6, g7⟩ := G
  cases h1.symm.trans g1
  cases h2.symm.trans g2
  exact Option.some.inj (h7.symm.trans g7)
theorem own_fld_ne (F : Fld Z h a C n d v) (G : Fld Z h b C n d w) (q : v ≠ w) : a ≠ b := fun r => by subst r; exact q (own_fld_inj F G)
theorem own_ref_ne (q : a ≠ b) : ¬ Value.ref a = Value.ref b := fun r => q (Value.ref.inj r)
theorem own_ref_eq (q : a = b) : Value.ref a = Value.ref b := congrArg Value.ref q
/-- the array at a, of class k, holds just xs -/
def OwnLst (Z : State) (h : Heap) (a : Addr) (ty : FieldType) (k : ClassId) (xs : List Value) : Prop := ∃ cl : Cell, Arr Z h a cl ty ∧ cl.cls = k ∧ cl.slots.toList = xs
theorem OwnLst.ext {ty : FieldType} {k : ClassId} {xs : List Value} (F : OwnLst Z h a ty k xs) (E : Ext h h') : OwnLst Z h' a ty k xs := by obtain ⟨cl, A, q, G⟩ := F; exact ⟨cl, A.ext E, q, G⟩
theorem OwnLst.other {ty : FieldType} {k : ClassId} {xs : List Value} (F : OwnLst Z h b ty k xs) (W : Wr h h' a sl v) (q : b ≠ a) : OwnLst Z h' b ty k xs := by obtain ⟨cl, A, q1, G⟩ := F; exact ⟨cl, A.other W q, q1, G⟩
theorem OwnLst.keep {ty : FieldType} {k : ClassId} {xs : List Value} {ws : List Addr} (F : OwnLst Z h a ty k xs) (K : Keep h h' ws) (q : a ∉ ws) : OwnLst Z h' a ty k xs := by obtain ⟨cl, A, q1, G⟩ := F; exact ⟨cl, ⟨K.2.1 _ _ A.1 q, A.2⟩, q1, G⟩
theorem own_lst_set {ty : FieldType} {k : ClassId} {xs : List Value} {cl : Cell} (A : Arr Z h a cl ty) (q : cl.cls = k) (G : cl.slots.toList = xs) (W : Wr h h' a sl v) : OwnLst Z h' a ty k (xs.set sl v) :=
  ⟨cl.setSlot sl v, A.same W, q, by rw [← G]; simp [Cell.setSlot]⟩
theorem own_lst_new {ty : FieldType} {k : ClassId} {z : Int32} (A : Arr Z h a (newA k ty z) ty) : OwnLst Z h a ty k (List.replicate z.toNatClampNeg (defaultValue ty)) := ⟨_, A, rfl, by simp [newA]⟩
theorem own_inb {xs : List Value} {cl : Cell} {j : Int32} (G : cl.slots.toList = xs) (k : Nat) (hk : xs.length = k) (q : ¬ (j < 0 ∨ k ≤ j.toNatClampNeg)) : ¬ (j < 0 ∨ cl.slots.size ≤ j.toNatClampNeg) := by
  have r : cl.slots.size = k := by rw [← hk, ← G]; simp
  rw [r]; exact q
theorem own_get {xs : List Value} {cl : Cell} {i : Nat} (G : cl.slots.toList = xs) (q : xs[i]? = some v) : cl.slots[i]? = some v := by rw [← Array.getElem?_toList, G]; exact q
theorem own_len {xs : List Value} {cl : Cell} {z : Int32} (G : cl.slots.toList = xs) (q : xs.length.toInt32 = z) : cl.slots.size.toInt32 = z := by rw [← q, ← G]; simp
theorem own_fI {t : Term} {k : Int32} (ht : t.eval args s none [] s = some (.ref a)) (q : (Jvm.Cond.eq (Term.field t C n d) (Term.int k)).value args s none s [] = some true) : Fld s s.heap a C n d (.int k) := by
  obtain ⟨x, y, e1, e2, -, e4⟩ := cmp_v (Or.inl q)
  cases (Term.int_eval k).symm.trans e2
  obtain ⟨z, rfl⟩ := e4
  have r := gotT (Cond.eq_ints e1 (Term.int_eval k)) q
  subst r
  rw [fld_at ht] at e1
  exact Fld.start e1
theorem own_fR {t u : Term} (hu : u.eval args s none [] s = some (.ref b)) (ht : t.eval args s none [] s = some (.ref a)) (q : (Jvm.Cond.eq (Term.field t C n d) u).value args s none s [] = some true) : Fld s s.heap a C n d (.ref b) := by
  obtain ⟨x, y, e1, e2, -, e4⟩ := cmp_v (Or.inl q)
  cases hu.symm.trans e2
  have r := gotT (eq_R e1 hu e4.2 rfl) q
  subst r
  rw [fld_at ht] at e1
  exact Fld.start e1
theorem own_fN {t : Term} (ht : t.eval args s none [] s = some (.ref a)) (q : (Jvm.Cond.eq (Term.field t C n d) Term.null).value args s none s [] = some true) : Fld s s.heap a C n d .null := by
  have e1 := null_v q
  rw [fld_at ht] at e1
  exact Fld.start e1
theorem own_arg1 {args : Array Value} (h1 : (Jvm.Cond.count 1).value args s none s [] = some true) : ∃ w0 : Value, args = #[w0] := by
  have hs : args.size = 1 := by simpa [Cond.value] using h1
  obtain ⟨L⟩ := args
  match L, hs with
  | [w0], _ => exact ⟨w0, rfl⟩
theorem own_arg2 {args : Array Value} (h1 : (Jvm.Cond.count 2).value args s none s [] = some true) : ∃ w0 w1 : Value, args = #[w0, w1] := by
  have hs : args.size = 2 := by simpa [Cond.value] using h1
  obtain ⟨L⟩ := args
  match L, hs with
  | [w0, w1], _ => exact ⟨w0, w1, rfl⟩
theorem own_arg3 {args : Array Value} (h1 : (Jvm.Cond.count 3).value args s none s [] = some true) : ∃ w0 w1 w2 : Value, args = #[w0, w1, w2] := by
  have hs : args.size = 3 := by simpa [Cond.value] using h1
  obtain ⟨L⟩ := args
  match L, hs with
  | [w0, w1, w2], _ => exact ⟨w0, w1, w2, rfl⟩
theorem own_narB (q : Prop) [Decidable q] : nar .boolean (if q then (1 : Int32) else (0 : Int32)) = if q then (1 : Int32) else (0 : Int32) := by split <;> rfl
theorem own_mod (x k : Int32) (z : Int) (hk : k.toInt = z) (hz : 0 < z) : 0 ≤ ((x &&& (2147483647 : Int32)) % k).toInt ∧ ((x &&& (2147483647 : Int32)) % k).toInt < z := by
  have h1 := c_and x (2147483647 : Int32) (by decide)
  rw [(c_irem (x &&& (2147483647 : Int32)) k z hk).1 h1.1]
  exact ⟨Int.emod_nonneg _ (by omega), Int.emod_lt_of_pos _ hz⟩
theorem own_and3 (x : Int32) : (x &&& (3 : Int32)) = 0 ∨ (x &&& (3 : Int32)) = 1 ∨ (x &&& (3 : Int32)) = 2 ∨ (x &&& (3 : Int32)) = 3 := by
  have h1 := c_and x (3 : Int32) (by decide)
  have e3 : (3 : Int32).toInt = 3 := by decide
  rw [e3] at h1
  have e : (x &&& (3 : Int32)).toInt = 0 ∨ (x &&& (3 : Int32)).toInt = 1 ∨ (x &&& (3 : Int32)).toInt = 2 ∨ (x &&& (3 : Int32)).toInt = 3 := by omega
  rcases e with e | e | e | e
  · exact Or.inl (Int32.toInt_inj.mp e)
  · exact Or.inr (Or.inl (Int32.toInt_inj.mp e))
  · exact Or.inr (Or.inr (Or.inl (Int32.toInt_inj.mp e)))
  · exact Or.inr (Or.inr (Or.inr (Int32.toInt_inj.mp e)))
end OwnKit
section OwnKit2
variable {args : Array Value} {s : State} {a b : Addr} {cl : Cell}
theorem own_slen {t : Term} {z : Int32} (hz : ¬ z < 0) (q : (Jvm.Cond.eq (Term.length t) (Term.int z)).value args s none s [] = some true) (ht : t.eval args s none [] s = some (.ref a)) (hc : s.heap[a]? = some cl) : cl.slots.size = z.toNatClampNeg := by
  obtain ⟨x, y, e1, e2, -, e4⟩ := cmp_v (Or.inl q)
  cases (Term.int_eval z).symm.trans e2
  obtain ⟨k, rfl⟩ := e4
  have r := gotT (Cond.eq_ints e1 (Term.int_eval z)) q
  subst r
  obtain ⟨a', c', g1, g2, g3⟩ := Term.length_spec e1
  have g6 := SBG.length_lt g1 g2 e1
  cases ht.symm.trans g1
  have g5 : c' = cl := Option.some.inj ((State.arrayAt?_spec g2).1.symm.trans hc)
  subst g5
  have h3 : c'.slots.size.toInt32 = k := (Value.int.inj g3).symm
  have h1 := back32 hz
  have h4 : c'.slots.size.toInt32.toInt = (c'.slots.size : Int) := len_toInt g6
  have h5 : k.toNatClampNeg.toInt32.toInt = (k.toNatClampNeg : Int) := len_toInt h1.2
  rw [h1.1] at h5
  rw [h3] at h4
  omega
theorem own_selem {t u : Term} {j : Int32} (hu : u.eval args s none [] s = some (.ref b)) (ht : t.eval args s none [] s = some (.ref a)) (hc : s.heap[a]? = some cl) (q : (Jvm.Cond.eq (Term.elem t (Term.int j)) u).value args s none s [] = some true) : cl.slots[j.toNatClampNeg]? = some (.ref b) := by
  obtain ⟨x, y, e1, e2, -, e4⟩ := cmp_v (Or.inl q)
  cases hu.symm.trans e2
  have r := gotT (eq_R e1 hu e4.2 rfl) q
  subst r
  exact (elem_in e1 ht (Term.int_eval j) hc).2
theorem own_list6 {A : Array Value} (hs : A.size = 6) {v0 v1 v2 v3 v4 v5 : Value} (h0 : A[0]? = some v0) (h1 : A[1]? = some v1) (h2 : A[2]? = some v2) (h3 : A[3]? = some v3) (h4 : A[4]? = some v4) (h5 : A[5]? = some v5) : A.toList = [v0, v1, v2, v3, v4, v5] := by
  obtain ⟨l⟩ := A
  match l, hs with
  | [a, b, c, d, e, f], _ =>
    simp at h0 h1 h2 h3 h4 h5
    simp [h0, h1, h2, h3, h4, h5]
theorem own_list4 {A : Array Value} (hs : A.size = 4) {v0 v1 v2 v3 : Value} (h0 : A[0]? = some v0) (h1 : A[1]? = some v1) (h2 : A[2]? = some v2) (h3 : A[3]? = some v3) : A.toList = [v0, v1, v2, v3] := by
  obtain ⟨l⟩ := A
  match l, hs with
  | [a, b, c, d], _ =>
    simp at h0 h1 h2 h3
    simp [h0, h1, h2, h3]
end OwnKit2
section OwnKit3
variable {Z : State} {h h' h0 : Heap} {a b : Addr} {v : Value} {ty : FieldType} {k : ClassId} {xs : List Value} {n0 : Nat} {ws : List Addr} {sl : Nat}
theorem OwnLst.lt (F : OwnLst Z h a ty k xs) : a < h.size := by obtain ⟨cl, A, -⟩ := F; exact A.lt
theorem own_old_ext (O : Old Z n0 h) (E : Ext h h') : Old Z n0 h' := ⟨O.1, own_ext_tr O.2 E⟩
theorem own_ne_lt (q : a < h.size) (g : b = h.size) : a ≠ b := fun r => by rw [r, g] at q; exact Nat.lt_irrefl _ q
theorem own_ne_le (q : a < h.size) (g : h.size ≤ b) : a ≠ b := fun r => by rw [r] at q; exact Nat.lt_irrefl _ (Nat.lt_of_lt_of_le q g)
theorem own_lst_eq {xs' : List Value} (F : OwnLst Z h a ty k xs) (q : xs = xs') : OwnLst Z h a ty k xs' := q ▸ F
end OwnKit3
theorem own_d_method_2_0 : decode method_2_code 0 = .ok (.iload_n 0, 1) := by decide +kernel
theorem own_d_method_2_1 : decode method_2_code 1 = .ok (.ifCond .ne 7, 3) := by decide +kernel
theorem own_d_method_2_4 : decode method_2_code 4 = .ok (.getstatic 7, 3) := by decide +kernel
theorem own_d_method_2_7 : decode method_2_code 7 = .ok (.areturn, 1) := by decide +kernel
theorem own_d_method_2_8 : decode method_2_code 8 = .ok (.iload_n 0, 1) := by decide +kernel
theorem own_d_method_2_9 : decode method_2_code 9 = .ok (.iconst 1, 1) := by decide +kernel
theorem own_d_method_2_10 : decode method_2_code 10 = .ok (.if_icmp .ne 7, 3) := by decide +kernel
theorem own_d_method_2_13 : decode method_2_code 13 = .ok (.getstatic 13, 3) := by decide +kernel
theorem own_d_method_2_16 : decode method_2_code 16 = .ok (.areturn, 1) := by decide +kernel
theorem own_d_method_2_17 : decode method_2_code 17 = .ok (.iload_n 0, 1) := by decide +kernel
theorem own_d_method_2_18 : decode method_2_code 18 = .ok (.iconst 2, 1) := by decide +kernel
theorem own_d_method_2_19 : decode method_2_code 19 = .ok (.if_icmp .ne 7, 3) := by decide +kernel
theorem own_d_method_2_22 : decode method_2_code 22 = .ok (.getstatic 16, 3) := by decide +kernel
theorem own_d_method_2_25 : decode method_2_code 25 = .ok (.areturn, 1) := by decide +kernel
theorem own_d_method_2_26 : decode method_2_code 26 = .ok (.iload_n 0, 1) := by decide +kernel
theorem own_d_method_2_27 : decode method_2_code 27 = .ok (.iconst 3, 1) := by decide +kernel
theorem own_d_method_2_28 : decode method_2_code 28 = .ok (.if_icmp .ne 7, 3) := by decide +kernel
theorem own_d_method_2_31 : decode method_2_code 31 = .ok (.getstatic 19, 3) := by decide +kernel
theorem own_d_method_2_34 : decode method_2_code 34 = .ok (.areturn, 1) := by decide +kernel
theorem own_d_method_2_35 : decode method_2_code 35 = .ok (.iload_n 0, 1) := by decide +kernel
theorem own_d_method_2_36 : decode method_2_code 36 = .ok (.iconst 4, 1) := by decide +kernel
theorem own_d_method_2_37 : decode method_2_code 37 = .ok (.if_icmp .ne 7, 3) := by decide +kernel
theorem own_d_method_2_40 : decode method_2_code 40 = .ok (.getstatic 22, 3) := by decide +kernel
theorem own_d_method_2_43 : decode method_2_code 43 = .ok (.areturn, 1) := by decide +kernel
theorem own_d_method_2_44 : decode method_2_code 44 = .ok (.getstatic 25, 3) := by decide +kernel
theorem own_d_method_2_47 : decode method_2_code 47 = .ok (.areturn, 1) := by decide +kernel
theorem own_d_prog_27_method_6_0 : decode prog_27_method_6_code 0 = .ok (.aload_n 0, 1) := by decide +kernel
theorem own_d_prog_27_method_6_1 : decode prog_27_method_6_code 1 = .ok (.getstatic 10, 3) := by decide +kernel
theorem own_d_prog_27_method_6_4 : decode prog_27_method_6_code 4 = .ok (.if_acmp .eq 10, 3) := by decide +kernel
theorem own_d_prog_27_method_6_7 : decode prog_27_method_6_code 7 = .ok (.aload_n 0, 1) := by decide +kernel
theorem own_d_prog_27_method_6_8 : decode prog_27_method_6_code 8 = .ok (.getstatic 13, 3) := by decide +kernel
theorem own_d_prog_27_method_6_11 : decode prog_27_method_6_code 11 = .ok (.if_acmp .ne 7, 3) := by decide +kernel
theorem own_d_prog_27_method_6_14 : decode prog_27_method_6_code 14 = .ok (.iconst 1, 1) := by decide +kernel
theorem own_d_prog_27_method_6_15 : decode prog_27_method_6_code 15 = .ok (.goto 4, 3) := by decide +kernel
theorem own_d_prog_27_method_6_18 : decode prog_27_method_6_code 18 = .ok (.iconst 0, 1) := by decide +kernel
theorem own_d_prog_27_method_6_19 : decode prog_27_method_6_code 19 = .ok (.ireturn, 1) := by decide +kernel
theorem own_pn0 : plainName "com/example/pilcrow/pilcrow/regions/RoleIsFurniturePinLaw" = true := by first | (simp [plainName, overriddenIn]; done) | decide +kernel
theorem own_pn1 : plainName "com/example/pilcrow/pilcrow/regions/Role" = true := by first | (simp [plainName, overriddenIn]; done) | decide +kernel
theorem own_pd0 : parseMethodDescriptor "(I)Lcom/example/pilcrow/pilcrow/regions/Role;" = some ⟨[.int], some (.object "com/example/pilcrow/pilcrow/regions/Role")⟩ := by decide +kernel
theorem own_pd1 : parseMethodDescriptor "()Z" = some ⟨[], some .boolean⟩ := by decide +kernel
def own_sel (b_BODY b_FOOTNOTE b_HEADER b_FOOTER b_HIDDEN b_IMAGE : Addr) (k : Int32) : Addr := if k = (0 : Int32) then b_BODY else if k = (1 : Int32) then b_FOOTNOTE else if k = (2 : Int32) then b_HEADER else if k = (3 : Int32) then b_FOOTER else if k = (4 : Int32) then b_HIDDEN  else b_IMAGE
theorem own_six {k : Int32} (h0 : 0 ≤ k.toInt) (h1 : k.toInt < 6) : k = (0 : Int32) ∨ k = (1 : Int32) ∨ k = (2 : Int32) ∨ k = (3 : Int32) ∨ k = (4 : Int32) ∨ k = (5 : Int32) := by
  have e : k.toInt = 0 ∨ k.toInt = 1 ∨ k.toInt = 2 ∨ k.toInt = 3 ∨ k.toInt = 4 ∨ k.toInt = 5 := by omega
  rcases e with e | e | e | e | e | e
  · exact Or.inl (Int32.toInt_inj.mp e)
  · exact Or.inr (Or.inl (Int32.toInt_inj.mp e))
  · exact Or.inr (Or.inr (Or.inl (Int32.toInt_inj.mp e)))
  · exact Or.inr (Or.inr (Or.inr (Or.inl (Int32.toInt_inj.mp e))))
  · exact Or.inr (Or.inr (Or.inr (Or.inr (Or.inl (Int32.toInt_inj.mp e)))))
  · exact Or.inr (Or.inr (Or.inr (Or.inr (Or.inr ((Int32.toInt_inj.mp e))))))
theorem rm_pick_ef (m : MethodId) (x0 : Int32) : entryFrame m #[(.int x0)] 1 = mkF m 0 #[.val (.int x0)] [] := by first | (simp [entryFrame, mkF, argsToLocals, Value.category]; done) | rfl
def rm_pick_Q (Z : State) (k : Int32) (b_BODY : Addr) (b_FOOTNOTE : Addr) (b_HEADER : Addr) (b_FOOTER : Addr) (b_HIDDEN : Addr) (b_IMAGE : Addr) (h0 : Heap) (n0 : Nat) (v : Option Value) (h : Heap) (L : List Loc) : Prop := v = some (.ref (own_sel b_BODY b_FOOTNOTE b_HEADER b_FOOTER b_HIDDEN b_IMAGE k)) ∧ Fr n0 L ∧ h = h0
set_option maxRecDepth 65536 in
set_option maxHeartbeats 40000000 in
theorem rm_pick (l : Launch) (Z : State) (a0 : Array Value) (hw : ∀ d ∈ tables_1, d.before a0 Z = true) (ws : List Jvm.Cond) (k : Int32) (b_BODY : Addr) (b_FOOTNOTE : Addr) (b_HEADER : Addr) (b_FOOTER : Addr) (b_HIDDEN : Addr) (b_IMAGE : Addr) (h0 : Heap) (n0 : Nat) (Z0 : n0 ≤ h0.size) (S_BODY : Sta Z h0 "com/example/pilcrow/pilcrow/regions/Role" "BODY" "Lcom/example/pilcrow/pilcrow/regions/Role;" (.ref b_BODY)) (S_HEADER : Sta Z h0 "com/example/pilcrow/pilcrow/regions/Role" "HEADER" "Lcom/example/pilcrow/pilcrow/regions/Role;" (.ref b_HEADER)) (S_FOOTER : Sta Z h0 "com/example/pilcrow/pilcrow/regions/Role" "FOOTER" "Lcom/example/pilcrow/pilcrow/regions/Role;" (.ref b_FOOTER)) (S_FOOTNOTE : Sta Z h0 "com/example/pilcrow/pilcrow/regions/Role" "FOOTNOTE" "Lcom/example/pilcrow/pilcrow/regions/Role;" (.ref b_FOOTNOTE)) (S_IMAGE : Sta Z h0 "com/example/pilcrow/pilcrow/regions/Role" "IMAGE" "Lcom/example/pilcrow/pilcrow/regions/Role;" (.ref b_IMAGE)) (S_HIDDEN : Sta Z h0 "com/example/pilcrow/pilcrow/regions/Role" "HIDDEN" "Lcom/example/pilcrow/pilcrow/regions/Role;" (.ref b_HIDDEN)) :
    MetFree l (⟨"com/example/pilcrow/pilcrow/regions/RoleIsFurniturePinLaw", "pick", "(I)Lcom/example/pilcrow/pilcrow/regions/Role;"⟩ : MethodName) (head1 (Jvm.Cond.code (⟨"com/example/pilcrow/pilcrow/regions/RoleIsFurniturePinLaw", "pick", "(I)Lcom/example/pilcrow/pilcrow/regions/Role;"⟩ : MethodName) method_2_code 1 (some (.object "com/example/pilcrow/pilcrow/regions/Role")) :: ws) ({ frames := 0, cells := 0, slots := 0, locals := 0 } : Room)) (fun a₀ U₀ => a₀ = #[(.int k)] ∧ Z.Warmed39 U₀.vm ∧ U₀.heap = h0) (fun _ _ _ _ _ => True) (fun _ U₀ o₀ U₁ => ∃ v₀ L₀, o₀ = .returned v₀ ∧ rm_pick_Q Z k b_BODY b_FOOTNOTE b_HEADER b_FOOTER b_HIDDEN b_IMAGE h0 n0 v₀ U₁.heap L₀ ∧ FrameEnd U₀ o₀ U₁ L₀ ({ frames := 0, cells := 0, slots := 0, locals := 0 } : Room).cells ({ frames := 0, cells := 0, slots := 0, locals := 0 } : Room).slots) := by
  refine MetFree.of_bodySF (plainFor_of_name own_pn0) hisR ?_
  intro p e s m args below meth c s₁ Bd hml0 hP hK
  obtain ⟨rfl, hZ, hh⟩ := hP
  have hx := Bd.exec
  have hby := Bd.bytes
  have hml : c.maxLocals = 1 := hml0
  have hown : s.vm.findClass "com/example/pilcrow/pilcrow/regions/RoleIsFurniturePinLaw" = some m.cls := findClass_of_methodNamed Bd.named
  have hnm := (name_of_methodNamed Bd.named Bd.method).1
  have X0 : Stand p l e ({ frames := 0, cells := 0, slots := 0, locals := 0 } : Room) s m #[(.int k)] below meth c s₁ [] 0 0 := Stand.of_body Bd
  have e0 : s₁.heap = h0 := by rw [← hh, Bd.state]; rfl
  have N0 := Fr.nil n0
  have pre0 : ∀ t, Steps p.tables e below (s₁.setTop (mkF m 0 #[.val (.int k)] [])) t → Steps p.tables e below (s₁.setTop (entryFrame m #[(.int k)] 1)) t := fun t kk₀ => castTop (rm_pick_ef m k) kk₀
  by_cases q0 : k = (0 : Int32)
  rotate_left
  by_cases q1 : k = (1 : Int32)
  rotate_left
  by_cases q2 : k = (2 : Int32)
  rotate_left
  by_cases q3 : k = (3 : Int32)
  rotate_left
  by_cases q4 : k = (4 : Int32)
  rotate_left
  · obtain ⟨T6, X6, e6, st6⟩ := getS X0 hx hZ (host := "") hown (hw _ (List.mem_of_getElem? (i := 22) rfl)) Via.refl e0 S_IMAGE (g := (mkF m 44 #[.val (.int k)] [])) rfl (hb hby own_d_method_2_44)
    obtain ⟨fs, hr, hrun, hended, hW, hsame⟩ := X6.leave (v := some (.ref b_IMAGE)) (fun h => by rw [Bd.returns] at h; cases h)
    refine ⟨_, _, pre0 _ ?_, hrun, hended, _, _, rfl, ?_, ⟨_, rfl⟩, hW, hsame.mono (by decide) (by decide)⟩
    · show Steps p.tables e below (s₁.setTop (mkF m 0 #[.val (.int k)] [])) _
      refine XS.iloadN X0.here hx rfl (hb hby own_d_method_2_0) rfl ?_
      show Steps p.tables e below (s₁.setTop (mkF m 1 #[.val (.int k)] [(.int k)])) _
      refine XS.ifYes X0.here hx rfl (pc0 := 1) (pc' := 8) rfl (hb hby own_d_method_2_1) rfl ((if0 _ _).trans (feq q0).2) (by decide) (by decide) ?_
      show Steps p.tables e below (s₁.setTop (mkF m 8 #[.val (.int k)] [])) _
      refine XS.iloadN X0.here hx rfl (hb hby own_d_method_2_8) rfl ?_
      show Steps p.tables e below (s₁.setTop (mkF m 9 #[.val (.int k)] [(.int k)])) _
      refine XS.iconst X0.here hx rfl (hb hby own_d_method_2_9) ?_
      show Steps p.tables e below (s₁.setTop (mkF m 10 #[.val (.int k)] [(.int (1 : Int32)), (.int k)])) _
      refine XS.icmpYes X0.here hx rfl (pc0 := 10) (pc' := 17) rfl (hb hby own_d_method_2_10) rfl (feq q1).2 (by decide) (by decide) ?_
      show Steps p.tables e below (s₁.setTop (mkF m 17 #[.val (.int k)] [])) _
      refine XS.iloadN X0.here hx rfl (hb hby own_d_method_2_17) rfl ?_
      show Steps p.tables e below (s₁.setTop (mkF m 18 #[.val (.int k)] [(.int k)])) _
      refine XS.iconst X0.here hx rfl (hb hby own_d_method_2_18) ?_
      show Steps p.tables e below (s₁.setTop (mkF m 19 #[.val (.int k)] [(.int (2 : Int32)), (.int k)])) _
      refine XS.icmpYes X0.here hx rfl (pc0 := 19) (pc' := 26) rfl (hb hby own_d_method_2_19) rfl (feq q2).2 (by decide) (by decide) ?_
      show Steps p.tables e below (s₁.setTop (mkF m 26 #[.val (.int k)] [])) _
      refine XS.iloadN X0.here hx rfl (hb hby own_d_method_2_26) rfl ?_
      show Steps p.tables e below (s₁.setTop (mkF m 27 #[.val (.int k)] [(.int k)])) _
      refine XS.iconst X0.here hx rfl (hb hby own_d_method_2_27) ?_
      show Steps p.tables e below (s₁.setTop (mkF m 28 #[.val (.int k)] [(.int (3 : Int32)), (.int k)])) _
      refine XS.icmpYes X0.here hx rfl (pc0 := 28) (pc' := 35) rfl (hb hby own_d_method_2_28) rfl (feq q3).2 (by decide) (by decide) ?_
      show Steps p.tables e below (s₁.setTop (mkF m 35 #[.val (.int k)] [])) _
      refine XS.iloadN X0.here hx rfl (hb hby own_d_method_2_35) rfl ?_
      show Steps p.tables e below (s₁.setTop (mkF m 36 #[.val (.int k)] [(.int k)])) _
      refine XS.iconst X0.here hx rfl (hb hby own_d_method_2_36) ?_
      show Steps p.tables e below (s₁.setTop (mkF m 37 #[.val (.int k)] [(.int (4 : Int32)), (.int k)])) _
      refine XS.icmpYes X0.here hx rfl (pc0 := 37) (pc' := 44) rfl (hb hby own_d_method_2_37) rfl (feq q4).2 (by decide) (by decide) ?_
      show Steps p.tables e below (s₁.setTop (mkF m 44 #[.val (.int k)] [])) _
      refine st6 _ ?_
      show Steps p.tables e below (T6.setTop (mkF m 47 #[.val (.int k)] [(.ref b_IMAGE)])) _
      exact own_retA X6 hx (by first | rfl | decide) rfl Bd.returns (hb hby own_d_method_2_47) hr
    · show rm_pick_Q Z k b_BODY b_FOOTNOTE b_HEADER b_FOOTER b_HIDDEN b_IMAGE h0 n0 _ T6.heap _
      rw [e6]
      exact ⟨by simp [own_sel, q0, q1, q2, q3, q4], N0, rfl⟩
  · obtain ⟨T1, X1, e1, st1⟩ := getS X0 hx hZ (host := "") hown (hw _ (List.mem_of_getElem? (i := 5) rfl)) Via.refl e0 S_BODY (g := (mkF m 4 #[.val (.int k)] [])) rfl (hb hby own_d_method_2_4)
    obtain ⟨fs, hr, hrun, hended, hW, hsame⟩ := X1.leave (v := some (.ref b_BODY)) (fun h => by rw [Bd.returns] at h; cases h)
    refine ⟨_, _, pre0 _ ?_, hrun, hended, _, _, rfl, ?_, ⟨_, rfl⟩, hW, hsame.mono (by decide) (by decide)⟩
    · show Steps p.tables e below (s₁.setTop (mkF m 0 #[.val (.int k)] [])) _
      refine XS.iloadN X0.here hx rfl (hb hby own_d_method_2_0) rfl ?_
      show Steps p.tables e below (s₁.setTop (mkF m 1 #[.val (.int k)] [(.int k)])) _
      refine XS.ifNo X0.here hx rfl (hb hby own_d_method_2_1) rfl ((if0 _ _).trans (teq q0).2) ?_
      show Steps p.tables e below (s₁.setTop (mkF m 4 #[.val (.int k)] [])) _
      refine st1 _ ?_
      show Steps p.tables e below (T1.setTop (mkF m 7 #[.val (.int k)] [(.ref b_BODY)])) _
      exact own_retA X1 hx (by first | rfl | decide) rfl Bd.returns (hb hby own_d_method_2_7) hr
    · show rm_pick_Q Z k b_BODY b_FOOTNOTE b_HEADER b_FOOTER b_HIDDEN b_IMAGE h0 n0 _ T1.heap _
      rw [e1]
      exact ⟨by simp [own_sel, q0], N0, rfl⟩
  · obtain ⟨T2, X2, e2, st2⟩ := getS X0 hx hZ (host := "") hown (hw _ (List.mem_of_getElem? (i := 20) rfl)) Via.refl e0 S_FOOTNOTE (g := (mkF m 13 #[.val (.int k)] [])) rfl (hb hby own_d_method_2_13)
    obtain ⟨fs, hr, hrun, hended, hW, hsame⟩ := X2.leave (v := some (.ref b_FOOTNOTE)) (fun h => by rw [Bd.returns] at h; cases h)
    refine ⟨_, _, pre0 _ ?_, hrun, hended, _, _, rfl, ?_, ⟨_, rfl⟩, hW, hsame.mono (by decide) (by decide)⟩
    · show Steps p.tables e below (s₁.setTop (mkF m 0 #[.val (.int k)] [])) _
      refine XS.iloadN X0.here hx rfl (hb hby own_d_method_2_0) rfl ?_
      show Steps p.tables e below (s₁.setTop (mkF m 1 #[.val (.int k)] [(.int k)])) _
      refine XS.ifYes X0.here hx rfl (pc0 := 1) (pc' := 8) rfl (hb hby own_d_method_2_1) rfl ((if0 _ _).trans (feq q0).2) (by decide) (by decide) ?_
      show Steps p.tables e below (s₁.setTop (mkF m 8 #[.val (.int k)] [])) _
      refine XS.iloadN X0.here hx rfl (hb hby own_d_method_2_8) rfl ?_
      show Steps p.tables e below (s₁.setTop (mkF m 9 #[.val (.int k)] [(.int k)])) _
      refine XS.iconst X0.here hx rfl (hb hby own_d_method_2_9) ?_
      show Steps p.tables e below (s₁.setTop (mkF m 10 #[.val (.int k)] [(.int (1 : Int32)), (.int k)])) _
      refine XS.icmpNo X0.here hx rfl (hb hby own_d_method_2_10) rfl (teq q1).2 ?_
      show Steps p.tables e below (s₁.setTop (mkF m 13 #[.val (.int k)] [])) _
      refine st2 _ ?_
      show Steps p.tables e below (T2.setTop (mkF m 16 #[.val (.int k)] [(.ref b_FOOTNOTE)])) _
      exact own_retA X2 hx (by first | rfl | decide) rfl Bd.returns (hb hby own_d_method_2_16) hr
    · show rm_pick_Q Z k b_BODY b_FOOTNOTE b_HEADER b_FOOTER b_HIDDEN b_IMAGE h0 n0 _ T2.heap _
      rw [e2]
      exact ⟨by simp [own_sel, q0, q1], N0, rfl⟩
  · obtain ⟨T3, X3, e3, st3⟩ := getS X0 hx hZ (host := "") hown (hw _ (List.mem_of_getElem? (i := 19) rfl)) Via.refl e0 S_HEADER (g := (mkF m 22 #[.val (.int k)] [])) rfl (hb hby own_d_method_2_22)
    obtain ⟨fs, hr, hrun, hended, hW, hsame⟩ := X3.leave (v := some (.ref b_HEADER)) (fun h => by rw [Bd.returns] at h; cases h)
    refine ⟨_, _, pre0 _ ?_, hrun, hended, _, _, rfl, ?_, ⟨_, rfl⟩, hW, hsame.mono (by decide) (by decide)⟩
    · show Steps p.tables e below (s₁.setTop (mkF m 0 #[.val (.int k)] [])) _
      refine XS.iloadN X0.here hx rfl (hb hby own_d_method_2_0) rfl ?_
      show Steps p.tables e below (s₁.setTop (mkF m 1 #[.val (.int k)] [(.int k)])) _
      refine XS.ifYes X0.here hx rfl (pc0 := 1) (pc' := 8) rfl (hb hby own_d_method_2_1) rfl ((if0 _ _).trans (feq q0).2) (by decide) (by decide) ?_
      show Steps p.tables e below (s₁.setTop (mkF m 8 #[.val (.int k)] [])) _
      refine XS.iloadN X0.here hx rfl (hb hby own_d_method_2_8) rfl ?_
      show Steps p.tables e below (s₁.setTop (mkF m 9 #[.val (.int k)] [(.int k)])) _
      refine XS.iconst X0.here hx rfl (hb hby own_d_method_2_9) ?_
      show Steps p.tables e below (s₁.setTop (mkF m 10 #[.val (.int k)] [(.int (1 : Int32)), (.int k)])) _
      refine XS.icmpYes X0.here hx rfl (pc0 := 10) (pc' := 17) rfl (hb hby own_d_method_2_10) rfl (feq q1).2 (by decide) (by decide) ?_
      show Steps p.tables e below (s₁.setTop (mkF m 17 #[.val (.int k)] [])) _
      refine XS.iloadN X0.here hx rfl (hb hby own_d_method_2_17) rfl ?_
      show Steps p.tables e below (s₁.setTop (mkF m 18 #[.val (.int k)] [(.int k)])) _
      refine XS.iconst X0.here hx rfl (hb hby own_d_method_2_18) ?_
      show Steps p.tables e below (s₁.setTop (mkF m 19 #[.val (.int k)] [(.int (2 : Int32)), (.int k)])) _
      refine XS.icmpNo X0.here hx rfl (hb hby own_d_method_2_19) rfl (teq q2).2 ?_
      show Steps p.tables e below (s₁.setTop (mkF m 22 #[.val (.int k)] [])) _
      refine st3 _ ?_
      show Steps p.tables e below (T3.setTop (mkF m 25 #[.val (.int k)] [(.ref b_HEADER)])) _
      exact own_retA X3 hx (by first | rfl | decide) rfl Bd.returns (hb hby own_d_method_2_25) hr
    · show rm_pick_Q Z k b_BODY b_FOOTNOTE b_HEADER b_FOOTER b_HIDDEN b_IMAGE h0 n0 _ T3.heap _
      rw [e3]
      exact ⟨by simp [own_sel, q0, q1, q2], N0, rfl⟩
  · obtain ⟨T4, X4, e4, st4⟩ := getS X0 hx hZ (host := "") hown (hw _ (List.mem_of_getElem? (i := 18) rfl)) Via.refl e0 S_FOOTER (g := (mkF m 31 #[.val (.int k)] [])) rfl (hb hby own_d_method_2_31)
    obtain ⟨fs, hr, hrun, hended, hW, hsame⟩ := X4.leave (v := some (.ref b_FOOTER)) (fun h => by rw [Bd.returns] at h; cases h)
    refine ⟨_, _, pre0 _ ?_, hrun, hended, _, _, rfl, ?_, ⟨_, rfl⟩, hW, hsame.mono (by decide) (by decide)⟩
    · show Steps p.tables e below (s₁.setTop (mkF m 0 #[.val (.int k)] [])) _
      refine XS.iloadN X0.here hx rfl (hb hby own_d_method_2_0) rfl ?_
      show Steps p.tables e below (s₁.setTop (mkF m 1 #[.val (.int k)] [(.int k)])) _
      refine XS.ifYes X0.here hx rfl (pc0 := 1) (pc' := 8) rfl (hb hby own_d_method_2_1) rfl ((if0 _ _).trans (feq q0).2) (by decide) (by decide) ?_
      show Steps p.tables e below (s₁.setTop (mkF m 8 #[.val (.int k)] [])) _
      refine XS.iloadN X0.here hx rfl (hb hby own_d_method_2_8) rfl ?_
      show Steps p.tables e below (s₁.setTop (mkF m 9 #[.val (.int k)] [(.int k)])) _
      refine XS.iconst X0.here hx rfl (hb hby own_d_method_2_9) ?_
      show Steps p.tables e below (s₁.setTop (mkF m 10 #[.val (.int k)] [(.int (1 : Int32)), (.int k)])) _
      refine XS.icmpYes X0.here hx rfl (pc0 := 10) (pc' := 17) rfl (hb hby own_d_method_2_10) rfl (feq q1).2 (by decide) (by decide) ?_
      show Steps p.tables e below (s₁.setTop (mkF m 17 #[.val (.int k)] [])) _
      refine XS.iloadN X0.here hx rfl (hb hby own_d_method_2_17) rfl ?_
      show Steps p.tables e below (s₁.setTop (mkF m 18 #[.val (.int k)] [(.int k)])) _
      refine XS.iconst X0.here hx rfl (hb hby own_d_method_2_18) ?_
      show Steps p.tables e below (s₁.setTop (mkF m 19 #[.val (.int k)] [(.int (2 : Int32)), (.int k)])) _
      refine XS.icmpYes X0.here hx rfl (pc0 := 19) (pc' := 26) rfl (hb hby own_d_method_2_19) rfl (feq q2).2 (by decide) (by decide) ?_
      show Steps p.tables e below (s₁.setTop (mkF m 26 #[.val (.int k)] [])) _
      refine XS.iloadN X0.here hx rfl (hb hby own_d_method_2_26) rfl ?_
      show Steps p.tables e below (s₁.setTop (mkF m 27 #[.val (.int k)] [(.int k)])) _
      refine XS.iconst X0.here hx rfl (hb hby own_d_method_2_27) ?_
      show Steps p.tables e below (s₁.setTop (mkF m 28 #[.val (.int k)] [(.int (3 : Int32)), (.int k)])) _
      refine XS.icmpNo X0.here hx rfl (hb hby own_d_method_2_28) rfl (teq q3).2 ?_
      show Steps p.tables e below (s₁.setTop (mkF m 31 #[.val (.int k)] [])) _
      refine st4 _ ?_
      show Steps p.tables e below (T4.setTop (mkF m 34 #[.val (.int k)] [(.ref b_FOOTER)])) _
      exact own_retA X4 hx (by first | rfl | decide) rfl Bd.returns (hb hby own_d_method_2_34) hr
    · show rm_pick_Q Z k b_BODY b_FOOTNOTE b_HEADER b_FOOTER b_HIDDEN b_IMAGE h0 n0 _ T4.heap _
      rw [e4]
      exact ⟨by simp [own_sel, q0, q1, q2, q3], N0, rfl⟩
  · obtain ⟨T5, X5, e5, st5⟩ := getS X0 hx hZ (host := "") hown (hw _ (List.mem_of_getElem? (i := 24) rfl)) Via.refl e0 S_HIDDEN (g := (mkF m 40 #[.val (.int k)] [])) rfl (hb hby own_d_method_2_40)
    obtain ⟨fs, hr, hrun, hended, hW, hsame⟩ := X5.leave (v := some (.ref b_HIDDEN)) (fun h => by rw [Bd.returns] at h; cases h)
    refine ⟨_, _, pre0 _ ?_, hrun, hended, _, _, rfl, ?_, ⟨_, rfl⟩, hW, hsame.mono (by decide) (by decide)⟩
    · show Steps p.tables e below (s₁.setTop (mkF m 0 #[.val (.int k)] [])) _
      refine XS.iloadN X0.here hx rfl (hb hby own_d_method_2_0) rfl ?_
      show Steps p.tables e below (s₁.setTop (mkF m 1 #[.val (.int k)] [(.int k)])) _
      refine XS.ifYes X0.here hx rfl (pc0 := 1) (pc' := 8) rfl (hb hby own_d_method_2_1) rfl ((if0 _ _).trans (feq q0).2) (by decide) (by decide) ?_
      show Steps p.tables e below (s₁.setTop (mkF m 8 #[.val (.int k)] [])) _
      refine XS.iloadN X0.here hx rfl (hb hby own_d_method_2_8) rfl ?_
      show Steps p.tables e below (s₁.setTop (mkF m 9 #[.val (.int k)] [(.int k)])) _
      refine XS.iconst X0.here hx rfl (hb hby own_d_method_2_9) ?_
      show Steps p.tables e below (s₁.setTop (mkF m 10 #[.val (.int k)] [(.int (1 : Int32)), (.int k)])) _
      refine XS.icmpYes X0.here hx rfl (pc0 := 10) (pc' := 17) rfl (hb hby own_d_method_2_10) rfl (feq q1).2 (by decide) (by decide) ?_
      show Steps p.tables e below (s₁.setTop (mkF m 17 #[.val (.int k)] [])) _
      refine XS.iloadN X0.here hx rfl (hb hby own_d_method_2_17) rfl ?_
      show Steps p.tables e below (s₁.setTop (mkF m 18 #[.val (.int k)] [(.int k)])) _
      refine XS.iconst X0.here hx rfl (hb hby own_d_method_2_18) ?_
      show Steps p.tables e below (s₁.setTop (mkF m 19 #[.val (.int k)] [(.int (2 : Int32)), (.int k)])) _
      refine XS.icmpYes X0.here hx rfl (pc0 := 19) (pc' := 26) rfl (hb hby own_d_method_2_19) rfl (feq q2).2 (by decide) (by decide) ?_
      show Steps p.tables e below (s₁.setTop (mkF m 26 #[.val (.int k)] [])) _
      refine XS.iloadN X0.here hx rfl (hb hby own_d_method_2_26) rfl ?_
      show Steps p.tables e below (s₁.setTop (mkF m 27 #[.val (.int k)] [(.int k)])) _
      refine XS.iconst X0.here hx rfl (hb hby own_d_method_2_27) ?_
      show Steps p.tables e below (s₁.setTop (mkF m 28 #[.val (.int k)] [(.int (3 : Int32)), (.int k)])) _
      refine XS.icmpYes X0.here hx rfl (pc0 := 28) (pc' := 35) rfl (hb hby own_d_method_2_28) rfl (feq q3).2 (by decide) (by decide) ?_
      show Steps p.tables e below (s₁.setTop (mkF m 35 #[.val (.int k)] [])) _
      refine XS.iloadN X0.here hx rfl (hb hby own_d_method_2_35) rfl ?_
      show Steps p.tables e below (s₁.setTop (mkF m 36 #[.val (.int k)] [(.int k)])) _
      refine XS.iconst X0.here hx rfl (hb hby own_d_method_2_36) ?_
      show Steps p.tables e below (s₁.setTop (mkF m 37 #[.val (.int k)] [(.int (4 : Int32)), (.int k)])) _
      refine XS.icmpNo X0.here hx rfl (hb hby own_d_method_2_37) rfl (teq q4).2 ?_
      show Steps p.tables e below (s₁.setTop (mkF m 40 #[.val (.int k)] [])) _
      refine st5 _ ?_
      show Steps p.tables e below (T5.setTop (mkF m 43 #[.val (.int k)] [(.ref b_HIDDEN)])) _
      exact own_retA X5 hx (by first | rfl | decide) rfl Bd.returns (hb hby own_d_method_2_43) hr
    · show rm_pick_Q Z k b_BODY b_FOOTNOTE b_HEADER b_FOOTER b_HIDDEN b_IMAGE h0 n0 _ T5.heap _
      rw [e5]
      exact ⟨by simp [own_sel, q0, q1, q2, q3, q4], N0, rfl⟩
theorem rm_furn_ef (m : MethodId) (x0 : Addr) : entryFrame m #[(.ref x0)] 1 = mkF m 0 #[.val (.ref x0)] [] := by first | (simp [entryFrame, mkF, argsToLocals, Value.category]; done) | rfl
def rm_furn_Q (Z : State) (a : Addr) (b_HEADER : Addr) (b_FOOTER : Addr) (h0 : Heap) (n0 : Nat) (v : Option Value) (h : Heap) (L : List Loc) : Prop := v = some (.int (if a = b_HEADER ∨ a = b_FOOTER then (1 : Int32) else (0 : Int32))) ∧ Fr n0 L ∧ h = h0
set_option maxRecDepth 65536 in
set_option maxHeartbeats 40000000 in
theorem rm_furn (l : Launch) (Z : State) (a0 : Array Value) (hw : ∀ d ∈ tables_1, d.before a0 Z = true) (ws : List Jvm.Cond) (a : Addr) (b_HEADER : Addr) (b_FOOTER : Addr) (h0 : Heap) (n0 : Nat) (Z0 : n0 ≤ h0.size) (S_HEADER : Sta Z h0 "com/example/pilcrow/pilcrow/regions/Role" "HEADER" "Lcom/example/pilcrow/pilcrow/regions/Role;" (.ref b_HEADER)) (S_FOOTER : Sta Z h0 "com/example/pilcrow/pilcrow/regions/Role" "FOOTER" "Lcom/example/pilcrow/pilcrow/regions/Role;" (.ref b_FOOTER)) :
    MetFree l (⟨"com/example/pilcrow/pilcrow/regions/Role", "isFurniture", "()Z"⟩ : MethodName) (head1 (Jvm.Cond.code (⟨"com/example/pilcrow/pilcrow/regions/Role", "isFurniture", "()Z"⟩ : MethodName) prog_27_method_6_code 1 (some .boolean) :: ws) ({ frames := 0, cells := 0, slots := 0, locals := 0 } : Room)) (fun a₀ U₀ => a₀ = #[(.ref a)] ∧ Z.Warmed39 U₀.vm ∧ U₀.heap = h0) (fun _ _ _ _ _ => True) (fun _ U₀ o₀ U₁ => ∃ v₀ L₀, o₀ = .returned v₀ ∧ rm_furn_Q Z a b_HEADER b_FOOTER h0 n0 v₀ U₁.heap L₀ ∧ FrameEnd U₀ o₀ U₁ L₀ ({ frames := 0, cells := 0, slots := 0, locals := 0 } : Room).cells ({ frames := 0, cells := 0, slots := 0, locals := 0 } : Room).slots) := by
  refine MetFree.of_bodySF (plainFor_of_name own_pn1) hisR ?_
  intro p e s m args below meth c s₁ Bd hml0 hP hK
  obtain ⟨rfl, hZ, hh⟩ := hP
  have hx := Bd.exec
  have hby := Bd.bytes
  have hml : c.maxLocals = 1 := hml0
  have hown : s.vm.findClass "com/example/pilcrow/pilcrow/regions/Role" = some m.cls := findClass_of_methodNamed Bd.named
  have hnm := (name_of_methodNamed Bd.named Bd.method).1
  have X0 : Stand p l e ({ frames := 0, cells := 0, slots := 0, locals := 0 } : Room) s m #[(.ref a)] below meth c s₁ [] 0 0 := Stand.of_body Bd
  have e0 : s₁.heap = h0 := by rw [← hh, Bd.state]; rfl
  have N0 := Fr.nil n0
  have pre0 : ∀ t, Steps p.tables e below (s₁.setTop (mkF m 0 #[.val (.ref a)] [])) t → Steps p.tables e below (s₁.setTop (entryFrame m #[(.ref a)] 1)) t := fun t kk₀ => castTop (rm_furn_ef m a) kk₀
  by_cases q0 : a = b_HEADER
  rotate_left
  by_cases q1 : a = b_FOOTER
  rotate_left
  · obtain ⟨T10, X10, e10, st10⟩ := getS X0 hx hZ (host := "") hown (hw _ (List.mem_of_getElem? (i := 14) rfl)) Via.refl e0 S_HEADER (g := (mkF m 1 #[.val (.ref a)] [(.ref a)])) rfl (hb hby own_d_prog_27_method_6_1)
    obtain ⟨T11, X11, e11, st11⟩ := getS X10 hx hZ (host := "") hown (hw _ (List.mem_of_getElem? (i := 16) rfl)) Via.refl e10 S_FOOTER (g := (mkF m 8 #[.val (.ref a)] [(.ref a)])) rfl (hb hby own_d_prog_27_method_6_8)
    obtain ⟨fs, hr, hrun, hended, hW, hsame⟩ := X11.leave (v := some (.int (0 : Int32))) (fun h => by rw [Bd.returns] at h; cases h)
    refine ⟨_, _, pre0 _ ?_, hrun, hended, _, _, rfl, ?_, ⟨_, rfl⟩, hW, hsame.mono (by decide) (by decide)⟩
    · show Steps p.tables e below (s₁.setTop (mkF m 0 #[.val (.ref a)] [])) _
      refine XS.aloadN X0.here hx rfl (hb hby own_d_prog_27_method_6_0) rfl rfl ?_
      show Steps p.tables e below (s₁.setTop (mkF m 1 #[.val (.ref a)] [(.ref a)])) _
      refine st10 _ ?_
      show Steps p.tables e below (T10.setTop (mkF m 4 #[.val (.ref a)] [(.ref b_HEADER), (.ref a)])) _
      refine Jvm.RoadKit.acmp (g := (mkF m 4 #[.val (.ref a)] [(.ref b_HEADER), (.ref a)])) X10 hx rfl rfl rfl (pc0 := 4) (pc' := 7) (same := false) rfl (hb hby own_d_prog_27_method_6_4) rfl (decide_eq_false (own_ref_ne q0)) (by decide) (by decide) ?_
      show Steps p.tables e below (T10.setTop (mkF m 7 #[.val (.ref a)] [])) _
      refine XS.aloadN X10.here hx rfl (hb hby own_d_prog_27_method_6_7) rfl rfl ?_
      show Steps p.tables e below (T10.setTop (mkF m 8 #[.val (.ref a)] [(.ref a)])) _
      refine st11 _ ?_
      show Steps p.tables e below (T11.setTop (mkF m 11 #[.val (.ref a)] [(.ref b_FOOTER), (.ref a)])) _
      refine Jvm.RoadKit.acmp (g := (mkF m 11 #[.val (.ref a)] [(.ref b_FOOTER), (.ref a)])) X11 hx rfl rfl rfl (pc0 := 11) (pc' := 18) (same := false) rfl (hb hby own_d_prog_27_method_6_11) rfl (decide_eq_false (own_ref_ne q1)) (by decide) (by decide) ?_
      show Steps p.tables e below (T11.setTop (mkF m 18 #[.val (.ref a)] [])) _
      refine XS.iconst X11.here hx rfl (hb hby own_d_prog_27_method_6_18) ?_
      show Steps p.tables e below (T11.setTop (mkF m 19 #[.val (.ref a)] [(.int (0 : Int32))])) _
      exact own_retZ X11 hx rfl Bd.returns (hb hby own_d_prog_27_method_6_19) hr
    · show rm_furn_Q Z a b_HEADER b_FOOTER h0 n0 _ T11.heap _
      rw [e11]
      exact ⟨by simp [q0, q1], N0, rfl⟩
  · obtain ⟨T7, X7, e7, st7⟩ := getS X0 hx hZ (host := "") hown (hw _ (List.mem_of_getElem? (i := 14) rfl)) Via.refl e0 S_HEADER (g := (mkF m 1 #[.val (.ref a)] [(.ref a)])) rfl (hb hby own_d_prog_27_method_6_1)
    obtain ⟨fs, hr, hrun, hended, hW, hsame⟩ := X7.leave (v := some (.int (1 : Int32))) (fun h => by rw [Bd.returns] at h; cases h)
    refine ⟨_, _, pre0 _ ?_, hrun, hended, _, _, rfl, ?_, ⟨_, rfl⟩, hW, hsame.mono (by decide) (by decide)⟩
    · show Steps p.tables e below (s₁.setTop (mkF m 0 #[.val (.ref a)] [])) _
      refine XS.aloadN X0.here hx rfl (hb hby own_d_prog_27_method_6_0) rfl rfl ?_
      show Steps p.tables e below (s₁.setTop (mkF m 1 #[.val (.ref a)] [(.ref a)])) _
      refine st7 _ ?_
      show Steps p.tables e below (T7.setTop (mkF m 4 #[.val (.ref a)] [(.ref b_HEADER), (.ref a)])) _
      refine Jvm.RoadKit.acmp (g := (mkF m 4 #[.val (.ref a)] [(.ref b_HEADER), (.ref a)])) X7 hx rfl rfl rfl (pc0 := 4) (pc' := 14) (same := true) rfl (hb hby own_d_prog_27_method_6_4) rfl (decide_eq_true (own_ref_eq q0)) (by decide) (by decide) ?_
      show Steps p.tables e below (T7.setTop (mkF m 14 #[.val (.ref a)] [])) _
      refine XS.iconst X7.here hx rfl (hb hby own_d_prog_27_method_6_14) ?_
      show Steps p.tables e below (T7.setTop (mkF m 15 #[.val (.ref a)] [(.int (1 : Int32))])) _
      refine XS.goto X7.here hx rfl (pc0 := 15) (pc' := 19) rfl (hb hby own_d_prog_27_method_6_15) (by decide) (by decide) ?_
      show Steps p.tables e below (T7.setTop (mkF m 19 #[.val (.ref a)] [(.int (1 : Int32))])) _
      exact own_retZ X7 hx rfl Bd.returns (hb hby own_d_prog_27_method_6_19) hr
    · show rm_furn_Q Z a b_HEADER b_FOOTER h0 n0 _ T7.heap _
      rw [e7]
      exact ⟨by simp [q0], N0, rfl⟩
  · obtain ⟨T8, X8, e8, st8⟩ := getS X0 hx hZ (host := "") hown (hw _ (List.mem_of_getElem? (i := 14) rfl)) Via.refl e0 S_HEADER (g := (mkF m 1 #[.val (.ref a)] [(.ref a)])) rfl (hb hby own_d_prog_27_method_6_1)
    obtain ⟨T9, X9, e9, st9⟩ := getS X8 hx hZ (host := "") hown (hw _ (List.mem_of_getElem? (i := 16) rfl)) Via.refl e8 S_FOOTER (g := (mkF m 8 #[.val (.ref a)] [(.ref a)])) rfl (hb hby own_d_prog_27_method_6_8)
    obtain ⟨fs, hr, hrun, hended, hW, hsame⟩ := X9.leave (v := some (.int (1 : Int32))) (fun h => by rw [Bd.returns] at h; cases h)
    refine ⟨_, _, pre0 _ ?_, hrun, hended, _, _, rfl, ?_, ⟨_, rfl⟩, hW, hsame.mono (by decide) (by decide)⟩
    · show Steps p.tables e below (s₁.setTop (mkF m 0 #[.val (.ref a)] [])) _
      refine XS.aloadN X0.here hx rfl (hb hby own_d_prog_27_method_6_0) rfl rfl ?_
      show Steps p.tables e below (s₁.setTop (mkF m 1 #[.val (.ref a)] [(.ref a)])) _
      refine st8 _ ?_
      show Steps p.tables e below (T8.setTop (mkF m 4 #[.val (.ref a)] [(.ref b_HEADER), (.ref a)])) _
      refine Jvm.RoadKit.acmp (g := (mkF m 4 #[.val (.ref a)] [(.ref b_HEADER), (.ref a)])) X8 hx rfl rfl rfl (pc0 := 4) (pc' := 7) (same := false) rfl (hb hby own_d_prog_27_method_6_4) rfl (decide_eq_false (own_ref_ne q0)) (by decide) (by decide) ?_
      show Steps p.tables e below (T8.setTop (mkF m 7 #[.val (.ref a)] [])) _
      refine XS.aloadN X8.here hx rfl (hb hby own_d_prog_27_method_6_7) rfl rfl ?_
      show Steps p.tables e below (T8.setTop (mkF m 8 #[.val (.ref a)] [(.ref a)])) _
      refine st9 _ ?_
      show Steps p.tables e below (T9.setTop (mkF m 11 #[.val (.ref a)] [(.ref b_FOOTER), (.ref a)])) _
      refine Jvm.RoadKit.acmp (g := (mkF m 11 #[.val (.ref a)] [(.ref b_FOOTER), (.ref a)])) X9 hx rfl rfl rfl (pc0 := 11) (pc' := 14) (same := true) rfl (hb hby own_d_prog_27_method_6_11) rfl (decide_eq_true (own_ref_eq q1)) (by decide) (by decide) ?_
      show Steps p.tables e below (T9.setTop (mkF m 14 #[.val (.ref a)] [])) _
      refine XS.iconst X9.here hx rfl (hb hby own_d_prog_27_method_6_14) ?_
      show Steps p.tables e below (T9.setTop (mkF m 15 #[.val (.ref a)] [(.int (1 : Int32))])) _
      refine XS.goto X9.here hx rfl (pc0 := 15) (pc' := 19) rfl (hb hby own_d_prog_27_method_6_15) (by decide) (by decide) ?_
      show Steps p.tables e below (T9.setTop (mkF m 19 #[.val (.ref a)] [(.int (1 : Int32))])) _
      exact own_retZ X9 hx rfl Bd.returns (hb hby own_d_prog_27_method_6_19) hr
    · show rm_furn_Q Z a b_HEADER b_FOOTER h0 n0 _ T9.heap _
      rw [e9]
      exact ⟨by simp [q1], N0, rfl⟩
theorem rm_law_ef (m : MethodId) (x0 : Int32) : entryFrame m #[(.int x0)] maxLocals = mkF m 0 #[.val (.int x0), .unset, .unset, .unset] [] := by first | (simp [entryFrame, mkF, argsToLocals, Value.category, maxLocals]; done) | rfl
def rm_law_Q (Z : State) (p0 : Int32) (b_BODY : Addr) (b_HEADER : Addr) (b_FOOTER : Addr) (b_FOOTNOTE : Addr) (b_IMAGE : Addr) (b_HIDDEN : Addr) (h0 : Heap) (n0 : Nat) (v : Option Value) (h : Heap) (L : List Loc) : Prop := v = some (.int (1 : Int32)) ∧ Fr n0 L
set_option maxRecDepth 65536 in
set_option maxHeartbeats 40000000 in
theorem rm_law (l : Launch) (Z : State) (a0 : Array Value) (hw : ∀ d ∈ tables_1, d.before a0 Z = true) (ws : List Jvm.Cond) (p0 : Int32) (b_BODY : Addr) (b_HEADER : Addr) (b_FOOTER : Addr) (b_FOOTNOTE : Addr) (b_IMAGE : Addr) (b_HIDDEN : Addr) (h0 : Heap) (n0 : Nat) (Z0 : n0 ≤ h0.size) (S_BODY : Sta Z h0 "com/example/pilcrow/pilcrow/regions/Role" "BODY" "Lcom/example/pilcrow/pilcrow/regions/Role;" (.ref b_BODY)) (E_BODY : Exa Z h0 b_BODY "com/example/pilcrow/pilcrow/regions/Role") (S_HEADER : Sta Z h0 "com/example/pilcrow/pilcrow/regions/Role" "HEADER" "Lcom/example/pilcrow/pilcrow/regions/Role;" (.ref b_HEADER)) (E_HEADER : Exa Z h0 b_HEADER "com/example/pilcrow/pilcrow/regions/Role") (S_FOOTER : Sta Z h0 "com/example/pilcrow/pilcrow/regions/Role" "FOOTER" "Lcom/example/pilcrow/pilcrow/regions/Role;" (.ref b_FOOTER)) (E_FOOTER : Exa Z h0 b_FOOTER "com/example/pilcrow/pilcrow/regions/Role") (S_FOOTNOTE : Sta Z h0 "com/example/pilcrow/pilcrow/regions/Role" "FOOTNOTE" "Lcom/example/pilcrow/pilcrow/regions/Role;" (.ref b_FOOTNOTE)) (E_FOOTNOTE : Exa Z h0 b_FOOTNOTE "com/example/pilcrow/pilcrow/regions/Role") (S_IMAGE : Sta Z h0 "com/example/pilcrow/pilcrow/regions/Role" "IMAGE" "Lcom/example/pilcrow/pilcrow/regions/Role;" (.ref b_IMAGE)) (E_IMAGE : Exa Z h0 b_IMAGE "com/example/pilcrow/pilcrow/regions/Role") (S_HIDDEN : Sta Z h0 "com/example/pilcrow/pilcrow/regions/Role" "HIDDEN" "Lcom/example/pilcrow/pilcrow/regions/Role;" (.ref b_HIDDEN)) (E_HIDDEN : Exa Z h0 b_HIDDEN "com/example/pilcrow/pilcrow/regions/Role") (F_BODY_ordinal : Fld Z h0 b_BODY "java/lang/Enum" "ordinal" "I" (.int (0 : Int32))) (F_HEADER_ordinal : Fld Z h0 b_HEADER "java/lang/Enum" "ordinal" "I" (.int (2 : Int32))) (F_FOOTER_ordinal : Fld Z h0 b_FOOTER "java/lang/Enum" "ordinal" "I" (.int (3 : Int32))) (F_FOOTNOTE_ordinal : Fld Z h0 b_FOOTNOTE "java/lang/Enum" "ordinal" "I" (.int (1 : Int32))) (F_IMAGE_ordinal : Fld Z h0 b_IMAGE "java/lang/Enum" "ordinal" "I" (.int (5 : Int32))) (F_HIDDEN_ordinal : Fld Z h0 b_HIDDEN "java/lang/Enum" "ordinal" "I" (.int (4 : Int32))) :
    MetFree l x (head1 (Jvm.Cond.code x code maxLocals ret :: ws) room_1) (fun a₀ U₀ => a₀ = #[(.int p0)] ∧ Z.Warmed39 U₀.vm ∧ U₀.heap = h0) (fun _ _ _ _ _ => True) (fun _ U₀ o₀ U₁ => ∃ v₀ L₀, o₀ = .returned v₀ ∧ rm_law_Q Z p0 b_BODY b_HEADER b_FOOTER b_FOOTNOTE b_IMAGE b_HIDDEN h0 n0 v₀ U₁.heap L₀ ∧ FrameEnd U₀ o₀ U₁ L₀ room_1.cells room_1.slots) := by
  refine MetFree.of_bodySF (plainFor_of_name own_pn0) hisR ?_
  intro p e s m args below meth c s₁ Bd hml0 hP hK
  obtain ⟨rfl, hZ, hh⟩ := hP
  have hx := Bd.exec
  have hby := Bd.bytes
  have hml : c.maxLocals = 4 := hml0
  have hown : s.vm.findClass "com/example/pilcrow/pilcrow/regions/RoleIsFurniturePinLaw" = some m.cls := findClass_of_methodNamed Bd.named
  have hnm := (name_of_methodNamed Bd.named Bd.method).1
  have X0 : Stand p l e room_1 s m #[(.int p0)] below meth c s₁ [] 0 0 := Stand.of_body Bd
  have e0 : s₁.heap = h0 := by rw [← hh, Bd.state]; rfl
  have N0 := Fr.nil n0
  have pre0 : ∀ t, Steps p.tables e below (s₁.setTop (mkF m 0 #[.val (.int p0), .unset, .unset, .unset] [])) t → Steps p.tables e below (s₁.setTop (entryFrame m #[(.int p0)] maxLocals)) t := fun t kk₀ => castTop (rm_law_ef m p0) kk₀
  obtain ⟨K, hK⟩ : ∃ K, ((p0 &&& (2147483647 : Int32)) % (6 : Int32)) = K := ⟨_, rfl⟩
  have hr6 := own_mod p0 (6 : Int32) 6 (by decide) (by decide)
  rw [hK] at hr6
  have hK6 := own_six hr6.1 hr6.2
  have ne_BODY_HEADER : b_BODY ≠ b_HEADER := own_fld_ne F_BODY_ordinal F_HEADER_ordinal (by decide)
  have ne_BODY_FOOTER : b_BODY ≠ b_FOOTER := own_fld_ne F_BODY_ordinal F_FOOTER_ordinal (by decide)
  have ne_FOOTNOTE_HEADER : b_FOOTNOTE ≠ b_HEADER := own_fld_ne F_FOOTNOTE_ordinal F_HEADER_ordinal (by decide)
  have ne_FOOTNOTE_FOOTER : b_FOOTNOTE ≠ b_FOOTER := own_fld_ne F_FOOTNOTE_ordinal F_FOOTER_ordinal (by decide)
  have ne_HEADER_FOOTER : b_HEADER ≠ b_FOOTER := own_fld_ne F_HEADER_ordinal F_FOOTER_ordinal (by decide)
  have ne_FOOTER_HEADER : b_FOOTER ≠ b_HEADER := own_fld_ne F_FOOTER_ordinal F_HEADER_ordinal (by decide)
  have ne_HIDDEN_HEADER : b_HIDDEN ≠ b_HEADER := own_fld_ne F_HIDDEN_ordinal F_HEADER_ordinal (by decide)
  have ne_HIDDEN_FOOTER : b_HIDDEN ≠ b_FOOTER := own_fld_ne F_HIDDEN_ordinal F_FOOTER_ordinal (by decide)
  have ne_IMAGE_HEADER : b_IMAGE ≠ b_HEADER := own_fld_ne F_IMAGE_ordinal F_HEADER_ordinal (by decide)
  have ne_IMAGE_FOOTER : b_IMAGE ≠ b_FOOTER := own_fld_ne F_IMAGE_ordinal F_FOOTER_ordinal (by decide)
  have E_K : Exa Z h0 (own_sel b_BODY b_FOOTNOTE b_HEADER b_FOOTER b_HIDDEN b_IMAGE K) "com/example/pilcrow/pilcrow/regions/Role" := by
    rcases hK6 with rfl | rfl | rfl | rfl | rfl | rfl
    · exact E_BODY
    · exact E_FOOTNOTE
    · exact E_HEADER
    · exact E_FOOTER
    · exact E_HIDDEN
    · exact E_IMAGE
  have hfin : (if (own_sel b_BODY b_FOOTNOTE b_HEADER b_FOOTER b_HIDDEN b_IMAGE K) = b_HEADER ∨ (own_sel b_BODY b_FOOTNOTE b_HEADER b_FOOTER b_HIDDEN b_IMAGE K) = b_FOOTER then (1 : Int32) else (0 : Int32)) = (if K = (2 : Int32) ∨ K = (3 : Int32) then (1 : Int32) else (0 : Int32)) := by
    rcases hK6 with rfl | rfl | rfl | rfl | rfl | rfl <;> simp [own_sel, ne_BODY_HEADER, ne_BODY_FOOTER, ne_FOOTNOTE_HEADER, ne_FOOTNOTE_FOOTER, ne_HEADER_FOOTER, ne_FOOTER_HEADER, ne_HIDDEN_HEADER, ne_HIDDEN_FOOTER, ne_IMAGE_HEADER, ne_IMAGE_FOOTER]
  obtain ⟨_, _, ⟨T12, L12, k12, n12⟩, -, X12, ⟨Lc12, hQ12, l12, y12, z12⟩, st12⟩ := Jvm.LawKit.callS X0 hx (y := (⟨"com/example/pilcrow/pilcrow/regions/RoleIsFurniturePinLaw", "pick", "(I)Lcom/example/pilcrow/pilcrow/regions/Role;"⟩ : MethodName)) hown (mvT hZ (hw _ (List.mem_of_getElem? (i := 1) rfl))) (mvT hZ (hw _ (List.mem_of_getElem? (i := 2) rfl))) (mvT hZ (hw _ (List.mem_of_getElem? (i := 3) rfl))) (mvT hZ (hw _ (List.mem_of_getElem? (i := 4) rfl))) (by decide) (backOf (W := 0) (rm_pick l Z a0 hw [] K b_BODY b_FOOTNOTE b_HEADER b_FOOTER b_HIDDEN b_IMAGE h0 n0 Z0 S_BODY S_HEADER S_FOOTER S_FOOTNOTE S_IMAGE S_HIDDEN) hZ (hw _ (List.mem_of_getElem? (i := 4) rfl)) (hw _ (List.mem_of_getElem? (i := 3) rfl)) (by decide) (by decide)) (g := (mkF m 9 #[.val (.int p0), .val (.int K), .unset, .unset] [(.int K)])) rfl (by rw [hml]; rfl) (argsL := [(.int K)]) (rest := []) (lenOf own_pd0 rfl) rfl (by show 2 * 0 + _ ≤ _; exact Nat.le_of_eq rfl) (hb hby at_9) (fun _ _ => ⟨rfl, e0, (by decide : 0 + 0 ≤ _), (by decide : 0 + 0 ≤ _)⟩)
  dsimp only [Pt.U, Pt.locs, Pt.cells, Pt.slots] at X12 l12 y12 z12 st12 hQ12
  subst l12 y12 z12
  obtain ⟨rfl, Nq12, eh12⟩ := hQ12
  have N12 := Fr.app N0 Nq12
  obtain ⟨T13, h13, k13, X13, e13, E13, A13, st13⟩ := newP X12 hx hZ (hw _ (List.mem_of_getElem? (i := 8) rfl)) eh12 (g := (mkF m 15 #[.val (.int p0), .val (.int K), .val (.ref (own_sel b_BODY b_FOOTNOTE b_HEADER b_FOOTER b_HIDDEN b_IMAGE K)), .unset] [(.int (6 : Int32))])) rfl (hb hby at_15) rfl (by decide) (cap := 6) (by decide) (by decide) (by decide) (by decide)
  obtain ⟨b13, g13⟩ : ∃ z, z = h0.size := ⟨_, rfl⟩
  rw [← g13] at A13 st13
  have sz13 : h0.size ≤ b13 := Nat.le_of_eq g13.symm
  have XE13 : Ext h0 h13 := E13
  have gn13 : n0 ≤ b13 := Nat.le_trans Z0 sz13
  have Zs13 : n0 ≤ h13.size := Nat.le_trans Z0 XE13.1
  have V13_ : OwnLst Z h13 b13 .boolean k13 [.int (0 : Int32), .int (0 : Int32), .int (0 : Int32), .int (0 : Int32), .int (0 : Int32), .int (0 : Int32)] := own_lst_new A13
  obtain ⟨cl14, Ar14, q14, G14⟩ := V13_
  obtain ⟨T14, h14, X14, e14, W14, st14⟩ := stZ X13 hx hZ e13 Ar14 (j := (0 : Int32)) (own_inb G14 6 rfl (by decide)) (g := (mkF m 20 #[.val (.int p0), .val (.int K), .val (.ref (own_sel b_BODY b_FOOTNOTE b_HEADER b_FOOTER b_HIDDEN b_IMAGE K)), .unset] [(.int (0 : Int32)), (.int (0 : Int32)), (.ref b13), (.ref b13)])) rfl rfl (hb hby at_20)
  have N14 := Fr.snoc X14 N12 gn13
  have XE14 : Ext h0 h14 := own_ext_wr XE13 W14 sz13
  have V13_0 := own_lst_set Ar14 q14 G14 W14
  have V13_0 : OwnLst Z h14 b13 .boolean k13 [.int (0 : Int32), .int (0 : Int32), .int (0 : Int32), .int (0 : Int32), .int (0 : Int32), .int (0 : Int32)] := V13_0
  obtain ⟨cl15, Ar15, q15, G15⟩ := V13_0
  obtain ⟨T15, h15, X15, e15, W15, st15⟩ := stZ X14 hx hZ e14 Ar15 (j := (1 : Int32)) (own_inb G15 6 rfl (by decide)) (g := (mkF m 24 #[.val (.int p0), .val (.int K), .val (.ref (own_sel b_BODY b_FOOTNOTE b_HEADER b_FOOTER b_HIDDEN b_IMAGE K)), .unset] [(.int (0 : Int32)), (.int (1 : Int32)), (.ref b13), (.ref b13)])) rfl rfl (hb hby at_24)
  have N15 := Fr.snoc X15 N14 gn13
  have XE15 : Ext h0 h15 := own_ext_wr XE14 W15 sz13
  have V13_1 := own_lst_set Ar15 q15 G15 W15
  have V13_1 : OwnLst Z h15 b13 .boolean k13 [.int (0 : Int32), .int (0 : Int32), .int (0 : Int32), .int (0 : Int32), .int (0 : Int32), .int (0 : Int32)] := V13_1
  obtain ⟨cl16, Ar16, q16, G16⟩ := V13_1
  obtain ⟨T16, h16, X16, e16, W16, st16⟩ := stZ X15 hx hZ e15 Ar16 (j := (2 : Int32)) (own_inb G16 6 rfl (by decide)) (g := (mkF m 28 #[.val (.int p0), .val (.int K), .val (.ref (own_sel b_BODY b_FOOTNOTE b_HEADER b_FOOTER b_HIDDEN b_IMAGE K)), .unset] [(.int (1 : Int32)), (.int (2 : Int32)), (.ref b13), (.ref b13)])) rfl rfl (hb hby at_28)
  have N16 := Fr.snoc X16 N15 gn13
  have XE16 : Ext h0 h16 := own_ext_wr XE15 W16 sz13
  have V13_2 := own_lst_set Ar16 q16 G16 W16
  have V13_2 : OwnLst Z h16 b13 .boolean k13 [.int (0 : Int32), .int (0 : Int32), .int (1 : Int32), .int (0 : Int32), .int (0 : Int32), .int (0 : Int32)] := V13_2
  obtain ⟨cl17, Ar17, q17, G17⟩ := V13_2
  obtain ⟨T17, h17, X17, e17, W17, st17⟩ := stZ X16 hx hZ e16 Ar17 (j := (3 : Int32)) (own_inb G17 6 rfl (by decide)) (g := (mkF m 32 #[.val (.int p0), .val (.int K), .val (.ref (own_sel b_BODY b_FOOTNOTE b_HEADER b_FOOTER b_HIDDEN b_IMAGE K)), .unset] [(.int (1 : Int32)), (.int (3 : Int32)), (.ref b13), (.ref b13)])) rfl rfl (hb hby at_32)
  have N17 := Fr.snoc X17 N16 gn13
  have XE17 : Ext h0 h17 := own_ext_wr XE16 W17 sz13
  have V13_3 := own_lst_set Ar17 q17 G17 W17
  have V13_3 : OwnLst Z h17 b13 .boolean k13 [.int (0 : Int32), .int (0 : Int32), .int (1 : Int32), .int (1 : Int32), .int (0 : Int32), .int (0 : Int32)] := V13_3
  obtain ⟨cl18, Ar18, q18, G18⟩ := V13_3
  obtain ⟨T18, h18, X18, e18, W18, st18⟩ := stZ X17 hx hZ e17 Ar18 (j := (4 : Int32)) (own_inb G18 6 rfl (by decide)) (g := (mkF m 36 #[.val (.int p0), .val (.int K), .val (.ref (own_sel b_BODY b_FOOTNOTE b_HEADER b_FOOTER b_HIDDEN b_IMAGE K)), .unset] [(.int (0 : Int32)), (.int (4 : Int32)), (.ref b13), (.ref b13)])) rfl rfl (hb hby at_36)
  have N18 := Fr.snoc X18 N17 gn13
  have XE18 : Ext h0 h18 := own_ext_wr XE17 W18 sz13
  have V13_4 := own_lst_set Ar18 q18 G18 W18
  have V13_4 : OwnLst Z h18 b13 .boolean k13 [.int (0 : Int32), .int (0 : Int32), .int (1 : Int32), .int (1 : Int32), .int (0 : Int32), .int (0 : Int32)] := V13_4
  obtain ⟨cl19, Ar19, q19, G19⟩ := V13_4
  obtain ⟨T19, h19, X19, e19, W19, st19⟩ := stZ X18 hx hZ e18 Ar19 (j := (5 : Int32)) (own_inb G19 6 rfl (by decide)) (g := (mkF m 40 #[.val (.int p0), .val (.int K), .val (.ref (own_sel b_BODY b_FOOTNOTE b_HEADER b_FOOTER b_HIDDEN b_IMAGE K)), .unset] [(.int (0 : Int32)), (.int (5 : Int32)), (.ref b13), (.ref b13)])) rfl rfl (hb hby at_40)
  have N19 := Fr.snoc X19 N18 gn13
  have XE19 : Ext h0 h19 := own_ext_wr XE18 W19 sz13
  have V13_5 := own_lst_set Ar19 q19 G19 W19
  have V13_5 : OwnLst Z h19 b13 .boolean k13 [.int (0 : Int32), .int (0 : Int32), .int (1 : Int32), .int (1 : Int32), .int (0 : Int32), .int (0 : Int32)] := V13_5
  obtain ⟨cq20, kq20, q20a, q20b, q20c⟩ := isOf hZ e19 (E_K.ext XE19)
  obtain ⟨_, _, ⟨T20, L20, k20, n20⟩, -, X20, ⟨Lc20, hQ20, l20, y20, z20⟩, st20⟩ := X19.virtualBack hx (y := (⟨"com/example/pilcrow/pilcrow/regions/Role", "isFurniture", "()Z"⟩ : MethodName)) (z := (⟨"com/example/pilcrow/pilcrow/regions/Role", "isFurniture", "()Z"⟩ : MethodName)) hown (mvT hZ (hw _ (List.mem_of_getElem? (i := 9) rfl))) (mvT hZ (hw _ (List.mem_of_getElem? (i := 10) rfl))) (notFace_of_selects (args := #[]) (mvT hZ (hw _ (List.mem_of_getElem? (i := 12) rfl)))) (mvT hZ (hw _ (List.mem_of_getElem? (i := 12) rfl))) (mvT hZ (hw _ (List.mem_of_getElem? (i := 11) rfl))) (by decide) (backOf (W := 0) (rm_furn l Z a0 hw [] (own_sel b_BODY b_FOOTNOTE b_HEADER b_FOOTER b_HIDDEN b_IMAGE K) b_HEADER b_FOOTER h19 n0 (Nat.le_trans Z0 XE19.1) (S_HEADER.ext XE19) (S_FOOTER.ext XE19)) hZ (hw _ (List.mem_of_getElem? (i := 13) rfl)) (hw _ (List.mem_of_getElem? (i := 6) rfl)) (by decide) (by decide)) q20a q20c (g := (mkF m 43 #[.val (.int p0), .val (.int K), .val (.ref (own_sel b_BODY b_FOOTNOTE b_HEADER b_FOOTER b_HIDDEN b_IMAGE K)), .val (.ref b13)] [(.ref (own_sel b_BODY b_FOOTNOTE b_HEADER b_FOOTER b_HIDDEN b_IMAGE K))])) rfl (by rw [hml]; rfl) (Steps.refl _) (argsL := []) (rest := []) (lenOf own_pd1 rfl) rfl (by show 2 * 0 + _ ≤ _; exact Nat.le_of_eq rfl) (hb hby at_43) (fun _ _ => ⟨rfl, e19, (by decide : 1 + 0 ≤ _), (by decide : 6 + 0 ≤ _)⟩)
  dsimp only [Pt.U, Pt.locs, Pt.cells, Pt.slots] at X20 l20 y20 z20 st20 hQ20
  subst l20 y20 z20
  obtain ⟨rfl, Nq20, eh20⟩ := hQ20
  have N20 := Fr.app N19 Nq20
  obtain ⟨cl21, Ar21, q21, G21⟩ := V13_5
  obtain ⟨fs, hr, hrun, hended, hW, hsame⟩ := X20.leave (v := some (.int (1 : Int32))) (fun h => by rw [Bd.returns] at h; cases h)
  refine ⟨_, _, pre0 _ ?_, hrun, hended, _, _, rfl, ?_, ⟨_, rfl⟩, hW, hsame.mono (by decide) (by decide)⟩
  · show Steps p.tables e below (s₁.setTop (mkF m 0 #[.val (.int p0), .unset, .unset, .unset] [])) _
    refine XS.iloadN X0.here hx rfl (hb hby at_0) rfl ?_
    show Steps p.tables e below (s₁.setTop (mkF m 1 #[.val (.int p0), .unset, .unset, .unset] [(.int p0)])) _
    refine X0.ldcI hx hown (mvT hZ (hw _ (List.mem_of_getElem? (i := 0) rfl))) (g := (mkF m 1 #[.val (.int p0), .unset, .unset, .unset] [(.int p0)])) rfl (hb hby at_1) ?_
    show Steps p.tables e below (s₁.setTop (mkF m 3 #[.val (.int p0), .unset, .unset, .unset] [(.int (2147483647 : Int32)), (.int p0)])) _
    refine XS.iand X0.here hx rfl (hb hby at_3) rfl ?_
    show Steps p.tables e below (s₁.setTop (mkF m 4 #[.val (.int p0), .unset, .unset, .unset] [(.int (p0 &&& (2147483647 : Int32)))])) _
    refine XS.bipush X0.here hx rfl (hb hby at_4) ?_
    show Steps p.tables e below (s₁.setTop (mkF m 6 #[.val (.int p0), .unset, .unset, .unset] [(.int (6 : Int32)), (.int (p0 &&& (2147483647 : Int32)))])) _
    refine iremM X0 hx rfl (hb hby at_6) rfl (by decide) ?_
    rw [hK]
    show Steps p.tables e below (s₁.setTop (mkF m 7 #[.val (.int p0), .unset, .unset, .unset] [(.int K)])) _
    refine XS.istoreN X0.here hx rfl (hb hby at_7) rfl (l' := #[.val (.int p0), .val (.int K), .unset, .unset]) rfl ?_
    show Steps p.tables e below (s₁.setTop (mkF m 8 #[.val (.int p0), .val (.int K), .unset, .unset] [])) _
    refine XS.iloadN X0.here hx rfl (hb hby at_8) rfl ?_
    show Steps p.tables e below (s₁.setTop (mkF m 9 #[.val (.int p0), .val (.int K), .unset, .unset] [(.int K)])) _
    refine st12 _ ?_
    show Steps p.tables e below (T12.setTop (mkF m 12 #[.val (.int p0), .val (.int K), .unset, .unset] [(.ref (own_sel b_BODY b_FOOTNOTE b_HEADER b_FOOTER b_HIDDEN b_IMAGE K))])) _
    refine XS.astoreN X12.here hx rfl (hb hby at_12) rfl rfl (l' := #[.val (.int p0), .val (.int K), .val (.ref (own_sel b_BODY b_FOOTNOTE b_HEADER b_FOOTER b_HIDDEN b_IMAGE K)), .unset]) rfl ?_
    show Steps p.tables e below (T12.setTop (mkF m 13 #[.val (.int p0), .val (.int K), .val (.ref (own_sel b_BODY b_FOOTNOTE b_HEADER b_FOOTER b_HIDDEN b_IMAGE K)), .unset] [])) _
    refine XS.bipush X12.here hx rfl (hb hby at_13) ?_
    show Steps p.tables e below (T12.setTop (mkF m 15 #[.val (.int p0), .val (.int K), .val (.ref (own_sel b_BODY b_FOOTNOTE b_HEADER b_FOOTER b_HIDDEN b_IMAGE K)), .unset] [(.int (6 : Int32))])) _
    refine st13 _ ?_
    show Steps p.tables e below (T13.setTop (mkF m 17 #[.val (.int p0), .val (.int K), .val (.ref (own_sel b_BODY b_FOOTNOTE b_HEADER b_FOOTER b_HIDDEN b_IMAGE K)), .unset] [(.ref b13)])) _
    refine XS.dup X13.here hx rfl (hb hby at_17) rfl rfl ?_
    show Steps p.tables e below (T13.setTop (mkF m 18 #[.val (.int p0), .val (.int K), .val (.ref (own_sel b_BODY b_FOOTNOTE b_HEADER b_FOOTER b_HIDDEN b_IMAGE K)), .unset] [(.ref b13), (.ref b13)])) _
    refine XS.iconst X13.here hx rfl (hb hby at_18) ?_
    show Steps p.tables e below (T13.setTop (mkF m 19 #[.val (.int p0), .val (.int K), .val (.ref (own_sel b_BODY b_FOOTNOTE b_HEADER b_FOOTER b_HIDDEN b_IMAGE K)), .unset] [(.int (0 : Int32)), (.ref b13), (.ref b13)])) _
    refine XS.iconst X13.here hx rfl (hb hby at_19) ?_
    show Steps p.tables e below (T13.setTop (mkF m 20 #[.val (.int p0), .val (.int K), .val (.ref (own_sel b_BODY b_FOOTNOTE b_HEADER b_FOOTER b_HIDDEN b_IMAGE K)), .unset] [(.int (0 : Int32)), (.int (0 : Int32)), (.ref b13), (.ref b13)])) _
    refine st14 _ ?_
    show Steps p.tables e below (T14.setTop (mkF m 21 #[.val (.int p0), .val (.int K), .val (.ref (own_sel b_BODY b_FOOTNOTE b_HEADER b_FOOTER b_HIDDEN b_IMAGE K)), .unset] [(.ref b13)])) _
    refine XS.dup X14.here hx rfl (hb hby at_21) rfl rfl ?_
    show Steps p.tables e below (T14.setTop (mkF m 22 #[.val (.int p0), .val (.int K), .val (.ref (own_sel b_BODY b_FOOTNOTE b_HEADER b_FOOTER b_HIDDEN b_IMAGE K)), .unset] [(.ref b13), (.ref b13)])) _
    refine XS.iconst X14.here hx rfl (hb hby at_22) ?_
    show Steps p.tables e below (T14.setTop (mkF m 23 #[.val (.int p0), .val (.int K), .val (.ref (own_sel b_BODY b_FOOTNOTE b_HEADER b_FOOTER b_HIDDEN b_IMAGE K)), .unset] [(.int (1 : Int32)), (.ref b13), (.ref b13)])) _
    refine XS.iconst X14.here hx rfl (hb hby at_23) ?_
    show Steps p.tables e below (T14.setTop (mkF m 24 #[.val (.int p0), .val (.int K), .val (.ref (own_sel b_BODY b_FOOTNOTE b_HEADER b_FOOTER b_HIDDEN b_IMAGE K)), .unset] [(.int (0 : Int32)), (.int (1 : Int32)), (.ref b13), (.ref b13)])) _
    refine st15 _ ?_
    show Steps p.tables e below (T15.setTop (mkF m 25 #[.val (.int p0), .val (.int K), .val (.ref (own_sel b_BODY b_FOOTNOTE b_HEADER b_FOOTER b_HIDDEN b_IMAGE K)), .unset] [(.ref b13)])) _
    refine XS.dup X15.here hx rfl (hb hby at_25) rfl rfl ?_
    show Steps p.tables e below (T15.setTop (mkF m 26 #[.val (.int p0), .val (.int K), .val (.ref (own_sel b_BODY b_FOOTNOTE b_HEADER b_FOOTER b_HIDDEN b_IMAGE K)), .unset] [(.ref b13), (.ref b13)])) _
    refine XS.iconst X15.here hx rfl (hb hby at_26) ?_
    show Steps p.tables e below (T15.setTop (mkF m 27 #[.val (.int p0), .val (.int K), .val (.ref (own_sel b_BODY b_FOOTNOTE b_HEADER b_FOOTER b_HIDDEN b_IMAGE K)), .unset] [(.int (2 : Int32)), (.ref b13), (.ref b13)])) _
    refine XS.iconst X15.here hx rfl (hb hby at_27) ?_
    show Steps p.tables e below (T15.setTop (mkF m 28 #[.val (.int p0), .val (.int K), .val (.ref (own_sel b_BODY b_FOOTNOTE b_HEADER b_FOOTER b_HIDDEN b_IMAGE K)), .unset] [(.int (1 : Int32)), (.int (2 : Int32)), (.ref b13), (.ref b13)])) _
    refine st16 _ ?_
    show Steps p.tables e below (T16.setTop (mkF m 29 #[.val (.int p0), .val (.int K), .val (.ref (own_sel b_BODY b_FOOTNOTE b_HEADER b_FOOTER b_HIDDEN b_IMAGE K)), .unset] [(.ref b13)])) _
    refine XS.dup X16.here hx rfl (hb hby at_29) rfl rfl ?_
    show Steps p.tables e below (T16.setTop (mkF m 30 #[.val (.int p0), .val (.int K), .val (.ref (own_sel b_BODY b_FOOTNOTE b_HEADER b_FOOTER b_HIDDEN b_IMAGE K)), .unset] [(.ref b13), (.ref b13)])) _
    refine XS.iconst X16.here hx rfl (hb hby at_30) ?_
    show Steps p.tables e below (T16.setTop (mkF m 31 #[.val (.int p0), .val (.int K), .val (.ref (own_sel b_BODY b_FOOTNOTE b_HEADER b_FOOTER b_HIDDEN b_IMAGE K)), .unset] [(.int (3 : Int32)), (.ref b13), (.ref b13)])) _
    refine XS.iconst X16.here hx rfl (hb hby at_31) ?_
    show Steps p.tables e below (T16.setTop (mkF m 32 #[.val (.int p0), .val (.int K), .val (.ref (own_sel b_BODY b_FOOTNOTE b_HEADER b_FOOTER b_HIDDEN b_IMAGE K)), .unset] [(.int (1 : Int32)), (.int (3 : Int32)), (.ref b13), (.ref b13)])) _
    refine st17 _ ?_
    show Steps p.tables e below (T17.setTop (mkF m 33 #[.val (.int p0), .val (.int K), .val (.ref (own_sel b_BODY b_FOOTNOTE b_HEADER b_FOOTER b_HIDDEN b_IMAGE K)), .unset] [(.ref b13)])) _
    refine XS.dup X17.here hx rfl (hb hby at_33) rfl rfl ?_
    show Steps p.tables e below (T17.setTop (mkF m 34 #[.val (.int p0), .val (.int K), .val (.ref (own_sel b_BODY b_FOOTNOTE b_HEADER b_FOOTER b_HIDDEN b_IMAGE K)), .unset] [(.ref b13), (.ref b13)])) _
    refine XS.iconst X17.here hx rfl (hb hby at_34) ?_
    show Steps p.tables e below (T17.setTop (mkF m 35 #[.val (.int p0), .val (.int K), .val (.ref (own_sel b_BODY b_FOOTNOTE b_HEADER b_FOOTER b_HIDDEN b_IMAGE K)), .unset] [(.int (4 : Int32)), (.ref b13), (.ref b13)])) _
    refine XS.iconst X17.here hx rfl (hb hby at_35) ?_
    show Steps p.tables e below (T17.setTop (mkF m 36 #[.val (.int p0), .val (.int K), .val (.ref (own_sel b_BODY b_FOOTNOTE b_HEADER b_FOOTER b_HIDDEN b_IMAGE K)), .unset] [(.int (0 : Int32)), (.int (4 : Int32)), (.ref b13), (.ref b13)])) _
    refine st18 _ ?_
    show Steps p.tables e below (T18.setTop (mkF m 37 #[.val (.int p0), .val (.int K), .val (.ref (own_sel b_BODY b_FOOTNOTE b_HEADER b_FOOTER b_HIDDEN b_IMAGE K)), .unset] [(.ref b13)])) _
    refine XS.dup X18.here hx rfl (hb hby at_37) rfl rfl ?_
    show Steps p.tables e below (T18.setTop (mkF m 38 #[.val (.int p0), .val (.int K), .val (.ref (own_sel b_BODY b_FOOTNOTE b_HEADER b_FOOTER b_HIDDEN b_IMAGE K)), .unset] [(.ref b13), (.ref b13)])) _
    refine XS.iconst X18.here hx rfl (hb hby at_38) ?_
    show Steps p.tables e below (T18.setTop (mkF m 39 #[.val (.int p0), .val (.int K), .val (.ref (own_sel b_BODY b_FOOTNOTE b_HEADER b_FOOTER b_HIDDEN b_IMAGE K)), .unset] [(.int (5 : Int32)), (.ref b13), (.ref b13)])) _
    refine XS.iconst X18.here hx rfl (hb hby at_39) ?_
    show Steps p.tables e below (T18.setTop (mkF m 40 #[.val (.int p0), .val (.int K), .val (.ref (own_sel b_BODY b_FOOTNOTE b_HEADER b_FOOTER b_HIDDEN b_IMAGE K)), .unset] [(.int (0 : Int32)), (.int (5 : Int32)), (.ref b13), (.ref b13)])) _
    refine st19 _ ?_
    show Steps p.tables e below (T19.setTop (mkF m 41 #[.val (.int p0), .val (.int K), .val (.ref (own_sel b_BODY b_FOOTNOTE b_HEADER b_FOOTER b_HIDDEN b_IMAGE K)), .unset] [(.ref b13)])) _
    refine XS.astoreN X19.here hx rfl (hb hby at_41) rfl rfl (l' := #[.val (.int p0), .val (.int K), .val (.ref (own_sel b_BODY b_FOOTNOTE b_HEADER b_FOOTER b_HIDDEN b_IMAGE K)), .val (.ref b13)]) rfl ?_
    show Steps p.tables e below (T19.setTop (mkF m 42 #[.val (.int p0), .val (.int K), .val (.ref (own_sel b_BODY b_FOOTNOTE b_HEADER b_FOOTER b_HIDDEN b_IMAGE K)), .val (.ref b13)] [])) _
    refine XS.aloadN X19.here hx rfl (hb hby at_42) rfl rfl ?_
    show Steps p.tables e below (T19.setTop (mkF m 43 #[.val (.int p0), .val (.int K), .val (.ref (own_sel b_BODY b_FOOTNOTE b_HEADER b_FOOTER b_HIDDEN b_IMAGE K)), .val (.ref b13)] [(.ref (own_sel b_BODY b_FOOTNOTE b_HEADER b_FOOTER b_HIDDEN b_IMAGE K))])) _
    refine st20.trans ?_
    show Steps p.tables e below (T20.setTop (mkF m 46 #[.val (.int p0), .val (.int K), .val (.ref (own_sel b_BODY b_FOOTNOTE b_HEADER b_FOOTER b_HIDDEN b_IMAGE K)), .val (.ref b13)] [(.int (if (own_sel b_BODY b_FOOTNOTE b_HEADER b_FOOTER b_HIDDEN b_IMAGE K) = b_HEADER ∨ (own_sel b_BODY b_FOOTNOTE b_HEADER b_FOOTER b_HIDDEN b_IMAGE K) = b_FOOTER then (1 : Int32) else (0 : Int32)))])) _
    refine XS.aloadN X20.here hx rfl (hb hby at_46) rfl rfl ?_
    show Steps p.tables e below (T20.setTop (mkF m 47 #[.val (.int p0), .val (.int K), .val (.ref (own_sel b_BODY b_FOOTNOTE b_HEADER b_FOOTER b_HIDDEN b_IMAGE K)), .val (.ref b13)] [(.ref b13), (.int (if (own_sel b_BODY b_FOOTNOTE b_HEADER b_FOOTER b_HIDDEN b_IMAGE K) = b_HEADER ∨ (own_sel b_BODY b_FOOTNOTE b_HEADER b_FOOTER b_HIDDEN b_IMAGE K) = b_FOOTER then (1 : Int32) else (0 : Int32)))])) _
    refine XS.iloadN X20.here hx rfl (hb hby at_47) rfl ?_
    show Steps p.tables e below (T20.setTop (mkF m 48 #[.val (.int p0), .val (.int K), .val (.ref (own_sel b_BODY b_FOOTNOTE b_HEADER b_FOOTER b_HIDDEN b_IMAGE K)), .val (.ref b13)] [(.int K), (.ref b13), (.int (if (own_sel b_BODY b_FOOTNOTE b_HEADER b_FOOTER b_HIDDEN b_IMAGE K) = b_HEADER ∨ (own_sel b_BODY b_FOOTNOTE b_HEADER b_FOOTER b_HIDDEN b_IMAGE K) = b_FOOTER then (1 : Int32) else (0 : Int32)))])) _
    refine X20.baloadBooleans hx (j := K) (v := (.int (if K = (2 : Int32) ∨ K = (3 : Int32) then (1 : Int32) else (0 : Int32)))) (by rw [eh20]; exact Ar21.1) (State.isArrayOf_alike hZ.alike Ar21.2.1) Ar21.2.2 (own_inb G21 6 rfl (by rcases hK6 with rfl | rfl | rfl | rfl | rfl | rfl <;> decide)) (own_get G21 (by rcases hK6 with rfl | rfl | rfl | rfl | rfl | rfl <;> rfl)) (g := (mkF m 48 #[.val (.int p0), .val (.int K), .val (.ref (own_sel b_BODY b_FOOTNOTE b_HEADER b_FOOTER b_HIDDEN b_IMAGE K)), .val (.ref b13)] [(.int K), (.ref b13), (.int (if (own_sel b_BODY b_FOOTNOTE b_HEADER b_FOOTER b_HIDDEN b_IMAGE K) = b_HEADER ∨ (own_sel b_BODY b_FOOTNOTE b_HEADER b_FOOTER b_HIDDEN b_IMAGE K) = b_FOOTER then (1 : Int32) else (0 : Int32)))])) rfl rfl (hb hby at_48) _ ?_
    show Steps p.tables e below (T20.setTop (mkF m 49 #[.val (.int p0), .val (.int K), .val (.ref (own_sel b_BODY b_FOOTNOTE b_HEADER b_FOOTER b_HIDDEN b_IMAGE K)), .val (.ref b13)] [(.int (if K = (2 : Int32) ∨ K = (3 : Int32) then (1 : Int32) else (0 : Int32))), (.int (if (own_sel b_BODY b_FOOTNOTE b_HEADER b_FOOTER b_HIDDEN b_IMAGE K) = b_HEADER ∨ (own_sel b_BODY b_FOOTNOTE b_HEADER b_FOOTER b_HIDDEN b_IMAGE K) = b_FOOTER then (1 : Int32) else (0 : Int32)))])) _
    refine XS.icmpNo X20.here hx rfl (hb hby at_49) rfl (teq hfin).2 ?_
    show Steps p.tables e below (T20.setTop (mkF m 52 #[.val (.int p0), .val (.int K), .val (.ref (own_sel b_BODY b_FOOTNOTE b_HEADER b_FOOTER b_HIDDEN b_IMAGE K)), .val (.ref b13)] [])) _
    refine XS.iconst X20.here hx rfl (hb hby at_52) ?_
    show Steps p.tables e below (T20.setTop (mkF m 53 #[.val (.int p0), .val (.int K), .val (.ref (own_sel b_BODY b_FOOTNOTE b_HEADER b_FOOTER b_HIDDEN b_IMAGE K)), .val (.ref b13)] [(.int (1 : Int32))])) _
    refine XS.goto X20.here hx rfl (pc0 := 53) (pc' := 57) rfl (hb hby at_53) (by decide) (by decide) ?_
    show Steps p.tables e below (T20.setTop (mkF m 57 #[.val (.int p0), .val (.int K), .val (.ref (own_sel b_BODY b_FOOTNOTE b_HEADER b_FOOTER b_HIDDEN b_IMAGE K)), .val (.ref b13)] [(.int (1 : Int32))])) _
    exact own_retZ X20 hx rfl Bd.returns (hb hby at_57) hr
  · show rm_law_Q Z p0 b_BODY b_HEADER b_FOOTER b_FOOTNOTE b_IMAGE b_HIDDEN h0 n0 _ T20.heap _
    rw [eh20]
    exact ⟨rfl, N20⟩
set_option maxRecDepth 65536 in
set_option maxHeartbeats 40000000 in
theorem own_comes {Post : Tables → Env → Array Value → State → Outcome → State → Prop} (hpost : ∀ tb e args s v u, (limb_1_1.after args s (.returned v) u = true ∧ limb_1_2.after args s (.returned v) u = true ∧ True) → FrameEnd s (.returned v) u (Jvm.fieldLocs frame_1_writes args s ++ Jvm.arrayLocs frame_1_arrays args s ++ Jvm.staticLocs frame_1_statics s) 16 128 → Post tb e args s (.returned v) u) :
    ArmFor flags0 classFile x code maxLocals ret World_1 tables_1 room_1 Calls_1 rest_1 Pre_1 Post := by
  intro l hfl _ _ p e ha hc hk s m args below hf hA hF happ hP
  obtain ⟨hcalls, hrest, hpre⟩ := hP
  obtain ⟨-, -, -, hnamed, -, -, -, hat⟩ := (Spec.applies_iff hf).mp happ
  obtain ⟨hg, hn⟩ := and_e (Cond.before_iff.mp (show (Jvm.Cond.and given_1 narrow_1).before args s = true from hpre))
  obtain ⟨h1, h2⟩ := and_e hg
  obtain ⟨w0, rfl⟩ := own_arg1 h1
  have hw := fun d (hd : d ∈ tables_1) => atoms_spec (ws := Jvm.Cond.code x code maxLocals ret :: tables_1) hat d (List.mem_cons_of_mem _ hd)
  have hfit : Fit s := fun {y c} hc i hi => by
    obtain ⟨ha, rfl⟩ := Array.getElem?_eq_some_iff.mp hc
    have q := List.all_eq_true.mp ((Array.all_eq_true_iff_forall_mem.mp hF) _ (Array.getElem_mem ha)) i (List.mem_range.mpr hi)
    simpa [Array.getElem?_eq_getElem hi] using q
  have g0 := h2
  obtain ⟨i0, e0⟩ := is_v g0
  obtain rfl : w0 = (.int i0) := Option.some.inj e0
  obtain ⟨c0, hn⟩ := and_e hn
  obtain ⟨c1, hn⟩ := and_e hn
  obtain ⟨c2, hn⟩ := and_e hn
  obtain ⟨c3, hn⟩ := and_e hn
  obtain ⟨c4, hn⟩ := and_e hn
  obtain ⟨c5, hn⟩ := and_e hn
  obtain ⟨c6, hn⟩ := and_e hn
  obtain ⟨c7, hn⟩ := and_e hn
  obtain ⟨c8, hn⟩ := and_e hn
  obtain ⟨c9, hn⟩ := and_e hn
  obtain ⟨c10, hn⟩ := and_e hn
  have c11 := hn
  obtain ⟨b_BODY, ev_BODY⟩ := exa_v c0
  have S_BODY := Sta.start ev_BODY (Or.inr ⟨(hw _ (List.mem_of_getElem? (i := 6) rfl)), (hw _ (List.mem_of_getElem? (i := 7) rfl))⟩)
  have E_BODY := Exa.start ev_BODY c0
  obtain ⟨b_HEADER, ev_HEADER⟩ := exa_v c1
  have S_HEADER := Sta.start ev_HEADER (Or.inr ⟨(hw _ (List.mem_of_getElem? (i := 6) rfl)), (hw _ (List.mem_of_getElem? (i := 15) rfl))⟩)
  have E_HEADER := Exa.start ev_HEADER c1
  obtain ⟨b_FOOTER, ev_FOOTER⟩ := exa_v c4
  have S_FOOTER := Sta.start ev_FOOTER (Or.inr ⟨(hw _ (List.mem_of_getElem? (i := 6) rfl)), (hw _ (List.mem_of_getElem? (i := 17) rfl))⟩)
  have E_FOOTER := Exa.start ev_FOOTER c4
  obtain ⟨b_FOOTNOTE, ev_FOOTNOTE⟩ := exa_v c6
  have S_FOOTNOTE := Sta.start ev_FOOTNOTE (Or.inr ⟨(hw _ (List.mem_of_getElem? (i := 6) rfl)), (hw _ (List.mem_of_getElem? (i := 21) rfl))⟩)
  have E_FOOTNOTE := Exa.start ev_FOOTNOTE c6
  obtain ⟨b_IMAGE, ev_IMAGE⟩ := exa_v c8
  have S_IMAGE := Sta.start ev_IMAGE (Or.inr ⟨(hw _ (List.mem_of_getElem? (i := 6) rfl)), (hw _ (List.mem_of_getElem? (i := 23) rfl))⟩)
  have E_IMAGE := Exa.start ev_IMAGE c8
  obtain ⟨b_HIDDEN, ev_HIDDEN⟩ := exa_v c10
  have S_HIDDEN := Sta.start ev_HIDDEN (Or.inr ⟨(hw _ (List.mem_of_getElem? (i := 6) rfl)), (hw _ (List.mem_of_getElem? (i := 25) rfl))⟩)
  have E_HIDDEN := Exa.start ev_HIDDEN c10
  have F_BODY_ordinal := own_fI ev_BODY c2
  have F_HEADER_ordinal := own_fI ev_HEADER c3
  have F_FOOTER_ordinal := own_fI ev_FOOTER c5
  have F_FOOTNOTE_ordinal := own_fI ev_FOOTNOTE c7
  have F_IMAGE_ordinal := own_fI ev_IMAGE c9
  have F_HIDDEN_ordinal := own_fI ev_HIDDEN c11
  obtain ⟨n, o, h1, h2, h3, _, L, rfl, ⟨rfl, N⟩, hq⟩ := rm_law l s _ hw tables_1 i0 b_BODY b_HEADER b_FOOTER b_FOOTNOTE b_IMAGE b_HIDDEN s.heap s.heap.size (Nat.le_refl _) S_BODY E_BODY S_HEADER E_HEADER S_FOOTER E_FOOTER S_FOOTNOTE E_FOOTNOTE S_IMAGE E_IMAGE S_HIDDEN E_HIDDEN F_BODY_ordinal F_HEADER_ordinal F_FOOTER_ordinal F_FOOTNOTE_ordinal F_IMAGE_ordinal F_HIDDEN_ordinal p e ha hc hk s m _ below hf ((Spec.applies_iff_loose hf).mp happ).1 ⟨rfl, State.Warmed39.refl s, rfl⟩ trivial
  exact ⟨n, _, h1, h2, h3, hpost _ _ _ _ _ _ ⟨Cond.after_iff.mpr rfl, Cond.after_iff.mpr (eq_i res_at (Term.int_eval (1)) rfl), trivial⟩ ⟨hq.1, hq.2.1, (hq.2.2.sift fun y hy => Or.inr (N y hy)).mono (by decide) (by decide)⟩⟩
theorem main_1_1 : Claimed_1_1 := own_comes fun _ _ _ _ _ _ h hF => ⟨h.1, hF⟩
theorem main_1_2 : Claimed_1_2 := own_comes fun _ _ _ _ _ _ h hF => ⟨h.2.1, hF⟩
end Jvm.Pilot.@@N@@
namespace Jvm.Pilot.@@N@@
open Jvm Jvm.ClassFile Sem Op Lib Jvm.Free Jvm.Stand Jvm.Pilot.@@N@@.Jvm.D
/-! MADE BY PROGRAM (witnessworld.py) out of the Statement's table words and the real class files: 14 classes; the members and pool entries that the words name. The judged class is class 1, her method 2. -/
namespace start1
open Jvm.ClassFile
def u (s : String) : CpInfo := .utf8 (stringToUtf16 s)
/-- a pool by its gaps: so many unusable entries, then the entry; so many at the end -/
def gap : Nat → List CpInfo → List CpInfo
  | 0, r => r
  | n + 1, r => .unusable :: gap n r
def poolList (es : List (Nat × CpInfo)) (last : Nat) : List CpInfo := es.foldr (fun e r => gap e.1 (e.2 :: r)) (gap last [])
def pool (es : List (Nat × CpInfo)) (last : Nat) : Array CpInfo := ⟨poolList es last⟩
def fileOf (pool : Array CpInfo) (this : Nat) (attrs : Array Attribute := #[]) (ms : Array MethodInfo := #[]) (fl : Nat := 33) (sup : Nat := 0) (ifs : Array Nat := #[]) (fds : Array FieldInfo := #[]) : ClassFile where
  minorVersion := 0
  majorVersion := 65
  constantPool := pool
  accessFlags := fl
  thisClass := this
  superClass := sup
  interfaces := ifs
  fields := fds
  methods := ms
  attributes := attrs
def plain (name : String) (sup : Option ClassId) : Class where
  name := name
  kind := .ordinary
  loader := none
  accessFlags := 33
  super := sup
  interfaces := #[]
  cf := none
  fields := #[]
  methods := #[]
  instanceTypes := #[]
  staticTypes := #[]
  resolved := #[]
  callSites := []
  init := .initialized
  statics := none
  mirror := none

def pool0 : Array CpInfo := pool [(5, u "<init>"), (0, u "()V"), (1, .class_ 10), (1, u "java/lang/Object")] 113

def k0m0 : Method := { name := "<init>", desc := "()V", sig := { parameters := [], returnType := none }, accessFlags := 1, code := none }
/-- java/lang/Object -/
def k0 : Class := { plain "java/lang/Object" none with
  accessFlags := 33
  interfaces := #[]
  cf := some (fileOf pool0 8 #[] #[{ accessFlags := 1, nameIndex := 5, descriptorIndex := 6, attributes := #[] }] 33 0 #[] #[])
  fields := #[]
  methods := #[k0m0]
  instanceTypes := #[]
  staticTypes := #[]
  resolved := Array.replicate 124 none
  statics := none }

def pool1 : Array CpInfo := pool [(2, .class_ 4), (1, u "java/lang/Object"), (0, u "<init>"), (0, u "()V"), (0, .fieldref 8 9), (0, .class_ 10), (0, .nameAndType 11 12), (0, u "com/example/pilcrow/pilcrow/regions/Role"), (0, u "BODY"), (0, u "Lcom/example/pilcrow/pilcrow/regions/Role;"), (0, .fieldref 8 14), (0, .nameAndType 15 12), (0, u "FOOTNOTE"), (0, .fieldref 8 17), (0, .nameAndType 18 12), (0, u "HEADER"), (0, .fieldref 8 20), (0, .nameAndType 21 12), (0, u "FOOTER"), (0, .fieldref 8 23), (0, .nameAndType 24 12), (0, u "HIDDEN"), (0, .fieldref 8 26), (0, .nameAndType 27 12), (0, u "IMAGE"), (0, .integer 2147483647), (0, .methodref 30 31), (0, .class_ 32), (0, .nameAndType 33 34), (0, u "com/example/pilcrow/pilcrow/regions/RoleIsFurniturePinLaw"), (0, u "pick"), (0, u "(I)Lcom/example/pilcrow/pilcrow/regions/Role;"), (0, .methodref 8 36), (0, .nameAndType 37 38), (0, u "isFurniture"), (0, u "()Z"), (3, u "law"), (0, u "(I)Z")] 4

def k1m0 : Method := { name := "<init>", desc := "()V", sig := { parameters := [], returnType := none }, accessFlags := 2, code := none }
def k1c1 : Code := { maxStack := 2, maxLocals := 1, code := method_2_code, exceptionTable := #[], attributes := #[] }
def k1m1 : Method := { name := "pick", desc := "(I)Lcom/example/pilcrow/pilcrow/regions/Role;", sig := { parameters := [.int], returnType := some (.object "com/example/pilcrow/pilcrow/regions/Role") }, accessFlags := 10, code := some k1c1 }
def k1c2 : Code := { maxStack := 4, maxLocals := 4, code := code, exceptionTable := #[], attributes := #[] }
def k1m2 : Method := { name := "law", desc := "(I)Z", sig := { parameters := [.int], returnType := some .boolean }, accessFlags := 9, code := some k1c2 }
/-- com/example/pilcrow/pilcrow/regions/RoleIsFurniturePinLaw -/
def k1 : Class := { plain "com/example/pilcrow/pilcrow/regions/RoleIsFurniturePinLaw" (some 0) with
  accessFlags := 49
  interfaces := #[]
  cf := some (fileOf pool1 30 #[] #[{ accessFlags := 2, nameIndex := 5, descriptorIndex := 6, attributes := #[] }, { accessFlags := 10, nameIndex := 33, descriptorIndex := 34, attributes := #[] }, { accessFlags := 9, nameIndex := 42, descriptorIndex := 43, attributes := #[] }] 49 2 #[] #[])
  fields := #[]
  methods := #[k1m0, k1m1, k1m2]
  instanceTypes := #[]
  staticTypes := #[]
  resolved := Array.replicate 48 none
  statics := none }

def pool2 : Array CpInfo := pool [(1, .class_ 2), (0, u "java/lang/constant/Constable"), (0, .class_ 4), (0, u "java/lang/Object")] 6

/-- java/lang/constant/Constable -/
def k2 : Class := { plain "java/lang/constant/Constable" (some 0) with
  accessFlags := 1537
  interfaces := #[]
  cf := some (fileOf pool2 1 #[] #[] 1537 3 #[] #[])
  fields := #[]
  methods := #[]
  instanceTypes := #[]
  staticTypes := #[]
  resolved := Array.replicate 11 none
  statics := none }

def pool3 : Array CpInfo := pool [(1, .class_ 2), (0, u "java/lang/Comparable"), (0, .class_ 4), (0, u "java/lang/Object")] 7

/-- java/lang/Comparable -/
def k3 : Class := { plain "java/lang/Comparable" (some 0) with
  accessFlags := 1537
  interfaces := #[]
  cf := some (fileOf pool3 1 #[] #[] 1537 3 #[] #[])
  fields := #[]
  methods := #[]
  instanceTypes := #[]
  staticTypes := #[]
  resolved := Array.replicate 12 none
  statics := none }

def pool4 : Array CpInfo := pool [(1, .class_ 2), (0, u "java/io/Serializable"), (0, .class_ 4), (0, u "java/lang/Object")] 2

/-- java/io/Serializable -/
def k4 : Class := { plain "java/io/Serializable" (some 0) with
  accessFlags := 1537
  interfaces := #[]
  cf := some (fileOf pool4 1 #[] #[] 1537 3 #[] #[])
  fields := #[]
  methods := #[]
  instanceTypes := #[]
  staticTypes := #[]
  resolved := Array.replicate 7 none
  statics := none }

def pool5 : Array CpInfo := pool [(2, .class_ 4), (1, u "java/lang/Enum"), (0, u "name"), (0, u "Ljava/lang/String;"), (2, u "ordinal"), (0, u "I"), (1, .class_ 14), (1, u "java/lang/Object"), (4, u "hash"), (86, .class_ 108), (1, u "java/lang/Enum$EnumDesc"), (2, .class_ 112), (0, u "java/lang/constant/Constable"), (0, .class_ 114), (0, u "java/lang/Comparable"), (0, .class_ 116), (0, u "java/io/Serializable")] 87

/-- java/lang/Enum -/
def k5 : Class := { plain "java/lang/Enum" (some 0) with
  accessFlags := 1057
  interfaces := #[2, 3, 4]
  cf := some (fileOf pool5 2 #[.nestMembers #[106]] #[] 1057 12 #[111, 113, 115] #[{ accessFlags := 18, nameIndex := 5, descriptorIndex := 6, attributes := #[] }, { accessFlags := 18, nameIndex := 9, descriptorIndex := 10, attributes := #[] }, { accessFlags := 2, nameIndex := 19, descriptorIndex := 10, attributes := #[] }])
  fields := #[{ name := "name", type := (.object "java/lang/String"), accessFlags := 18, slot := 0, constantValue := 0 }, { name := "ordinal", type := .int, accessFlags := 18, slot := 1, constantValue := 0 }, { name := "hash", type := .int, accessFlags := 2, slot := 2, constantValue := 0 }]
  methods := #[]
  instanceTypes := #[(.object "java/lang/String"), .int, .int]
  staticTypes := #[]
  resolved := Array.replicate 204 none
  statics := none }

def pool6 : Array CpInfo := pool [(1, .class_ 2), (0, u "com/example/pilcrow/pilcrow/regions/Role"), (2, u "BODY"), (0, u "Lcom/example/pilcrow/pilcrow/regions/Role;"), (2, u "FOOTNOTE"), (0, .fieldref 1 11), (0, .nameAndType 12 6), (0, u "HEADER"), (0, .fieldref 1 14), (0, .nameAndType 15 6), (0, u "FOOTER"), (2, u "HIDDEN"), (2, u "IMAGE"), (2, u "$VALUES"), (0, u "[Lcom/example/pilcrow/pilcrow/regions/Role;"), (6, .class_ 34), (1, u "java/lang/Enum"), (42, u "()Z"), (1, u "isFurniture")] 4

def k6c0 : Code := { maxStack := 2, maxLocals := 1, code := prog_27_method_6_code, exceptionTable := #[], attributes := #[] }
def k6m0 : Method := { name := "isFurniture", desc := "()Z", sig := { parameters := [], returnType := some .boolean }, accessFlags := 1, code := some k6c0 }
/-- com/example/pilcrow/pilcrow/regions/Role -/
def k6 : Class := { plain "com/example/pilcrow/pilcrow/regions/Role" (some 5) with
  accessFlags := 16433
  interfaces := #[]
  cf := some (fileOf pool6 1 #[] #[{ accessFlags := 1, nameIndex := 79, descriptorIndex := 77, attributes := #[] }] 16433 32 #[] #[{ accessFlags := 16409, nameIndex := 5, descriptorIndex := 6, attributes := #[] }, { accessFlags := 16409, nameIndex := 9, descriptorIndex := 6, attributes := #[] }, { accessFlags := 16409, nameIndex := 12, descriptorIndex := 6, attributes := #[] }, { accessFlags := 16409, nameIndex := 15, descriptorIndex := 6, attributes := #[] }, { accessFlags := 16409, nameIndex := 18, descriptorIndex := 6, attributes := #[] }, { accessFlags := 16409, nameIndex := 21, descriptorIndex := 6, attributes := #[] }, { accessFlags := 4122, nameIndex := 24, descriptorIndex := 25, attributes := #[] }])
  fields := #[{ name := "BODY", type := (.object "com/example/pilcrow/pilcrow/regions/Role"), accessFlags := 16409, slot := 0, constantValue := 0 }, { name := "FOOTNOTE", type := (.object "com/example/pilcrow/pilcrow/regions/Role"), accessFlags := 16409, slot := 1, constantValue := 0 }, { name := "HEADER", type := (.object "com/example/pilcrow/pilcrow/regions/Role"), accessFlags := 16409, slot := 2, constantValue := 0 }, { name := "FOOTER", type := (.object "com/example/pilcrow/pilcrow/regions/Role"), accessFlags := 16409, slot := 3, constantValue := 0 }, { name := "HIDDEN", type := (.object "com/example/pilcrow/pilcrow/regions/Role"), accessFlags := 16409, slot := 4, constantValue := 0 }, { name := "IMAGE", type := (.object "com/example/pilcrow/pilcrow/regions/Role"), accessFlags := 16409, slot := 5, constantValue := 0 }, { name := "$VALUES", type := (.array (.object "com/example/pilcrow/pilcrow/regions/Role")), accessFlags := 4122, slot := 6, constantValue := 0 }]
  methods := #[k6m0]
  instanceTypes := #[(.object "java/lang/String"), .int, .int]
  staticTypes := #[(.object "com/example/pilcrow/pilcrow/regions/Role"), (.object "com/example/pilcrow/pilcrow/regions/Role"), (.object "com/example/pilcrow/pilcrow/regions/Role"), (.object "com/example/pilcrow/pilcrow/regions/Role"), (.object "com/example/pilcrow/pilcrow/regions/Role"), (.object "com/example/pilcrow/pilcrow/regions/Role"), (.array (.object "com/example/pilcrow/pilcrow/regions/Role"))]
  resolved := Array.replicate 84 none
  statics := some 0 }

def pool7 : Array CpInfo := pool [(1, u "java/lang/Cloneable"), (0, .class_ 1), (0, u "java/lang/Object"), (0, .class_ 3)] 3

/-- java/lang/Cloneable -/
def k7 : Class := { plain "java/lang/Cloneable" (some 0) with
  accessFlags := 1537
  interfaces := #[]
  cf := some (fileOf pool7 2 #[] #[] 1537 4 #[] #[])
  fields := #[]
  methods := #[]
  instanceTypes := #[]
  staticTypes := #[]
  resolved := Array.replicate 8 none
  statics := none }

/-- the primitive boolean -/
def k8 : Class := { plain "boolean" none with kind := .primitive 'Z', accessFlags := 0x411 }
/-- [Z -/
def k9 : Class := { plain "[Z" (some 0) with kind := .array 8 .boolean, interfaces := #[7, 4], accessFlags := 1041 }

/-- the primitive byte -/
def k10 : Class := { plain "byte" none with kind := .primitive 'B', accessFlags := 0x411 }
/-- [B -/
def k11 : Class := { plain "[B" (some 0) with kind := .array 10 .byte, interfaces := #[7, 4], accessFlags := 1041 }

/-- the primitive int -/
def k12 : Class := { plain "int" none with kind := .primitive 'I', accessFlags := 0x411 }
/-- [I -/
def k13 : Class := { plain "[I" (some 0) with kind := .array 12 .int, interfaces := #[7, 4], accessFlags := 1041 }

def heap : Heap := #[{ cls := 6, slots := #[.ref 1, .ref 4, .ref 2, .ref 3, .ref 6, .ref 5, .null], vm := .statics 6 },
  { cls := 6, slots := #[.null, .int 0, .int 0], vm := .none },
  { cls := 6, slots := #[.null, .int 2, .int 0], vm := .none },
  { cls := 6, slots := #[.null, .int 3, .int 0], vm := .none },
  { cls := 6, slots := #[.null, .int 1, .int 0], vm := .none },
  { cls := 6, slots := #[.null, .int 5, .int 0], vm := .none },
  { cls := 6, slots := #[.null, .int 4, .int 0], vm := .none }]
def classes : Array Class := #[k0, k1, k2, k3, k4, k5, k6, k7, k8, k9, k10, k11, k12, k13]
def interned : List (Array UInt16 × Addr) := []
def slotsUsed : Nat := 25
def theMethod : MethodId := ⟨1, 2⟩
def args0 : Array Value := #[.int 5]
def aboutOver (below : List Frame) : State where
  vm := { classes := classes, interned := interned.toArray }
  heap := heap
  slotsUsed := slotsUsed
  threads := #[{ frames := .invoking theMethod args0 :: below }]
def below0 : List Frame := [.native { method := ⟨0, 0⟩, args := #[] }]
def about1 : State := aboutOver below0
def p0 : Program := .bare "" "" ""
def e0 : Env := launch0.env 0 0 0
theorem w_frames : about1.frames = Frame.invoking theMethod args0 :: below0 := rfl
set_option maxRecDepth 65536 in
theorem w_args : argsFit about1.vm theMethod args0 = true := by decide +kernel
set_option maxRecDepth 65536 in
theorem w_heap : heapFits about1 = true := by decide +kernel
set_option maxRecDepth 65536 in
theorem w_runnable : about1.curStatus? = some .runnable := by decide +kernel
set_option maxRecDepth 65536 in
theorem w_alone : about1.alone = true := by decide +kernel
set_option maxRecDepth 65536 in
theorem w_named : about1.methodNamed? x = some theMethod := by decide +kernel
set_option maxRecDepth 65536 in
theorem w_hears : about1.hears theMethod below0 = true := by decide +kernel
set_option maxRecDepth 65536 in
theorem w_ripe : about1.ripe theMethod args0 below0 = true := by decide +kernel
theorem w_running : about1.status = .running := rfl
set_option maxRecDepth 65536 in
theorem w_room : about1.hasRoom e0.platform room_1 = true :=
  launch0.hasRoom_least _ room_1 (by decide +kernel) (by decide +kernel) (by decide +kernel) (by decide +kernel) (by decide +kernel) (by decide +kernel)
theorem allAtoms_all (ts : List Jvm.Cond) (a : Array Jvm.Value) (st : Jvm.State) : (allAtoms ts).before a st = ts.all (fun c => c.before a st) := by
  induction ts with
  | nil => rfl
  | cons c t ih =>
    show (Jvm.Cond.and c (allAtoms t)).before a st = _
    rw [Jvm.Cond.before_and, ih, List.all_cons]
def words1 : List Jvm.Cond := Jvm.Cond.code x code maxLocals ret :: tables_1
/-- a 'code' word, met by the world's own term for the bytes: nothing is compared byte by byte -/
theorem code_word {y : MethodName} {bytes : ByteArray} {mx : Nat} {rt : Option FieldType} {a : Array Value} {s : State} {m : MethodId} {meth : Method} {c : Code} (h1 : s.methodNamed? y = some m) (h2 : s.vm.method? m = some meth) (h3 : meth.code = some c) (h4 : c.code = bytes)
    (h5 : (c.maxLocals == mx && c.exceptionTable.isEmpty && decide (c.maxStack ≤ mostOperands) && decide (meth.sig.returnType = rt) && !meth.locks && decide (parseMethodDescriptor y.desc = some meth.sig)) = true) : (Jvm.Cond.code y bytes mx rt).before a s = true := by
  simp only [Bool.and_eq_true, beq_iff_eq, Bool.not_eq_true', decide_eq_true_eq] at h5
  obtain ⟨⟨⟨⟨⟨g1, g2⟩, g3⟩, g4⟩, g5⟩, g6⟩ := h5
  simp [Cond.before, Cond.holds, Cond.value, h1, h2, h3, h4, g1, g2, g3, g4, g5, g6]
def isCode : Jvm.Cond → Bool
  | .code _ _ _ _ => true
  | _ => false
theorem all_split {L : List Jvm.Cond} {P : Jvm.Cond → Bool} (h1 : L.all (fun c => isCode c || P c) = true) (h2 : ∀ c ∈ L.filter isCode, P c = true) : L.all P = true := by
  refine List.all_eq_true.mpr fun c hc => ?_
  have h := List.all_eq_true.mp h1 c hc
  rcases Bool.eq_false_or_eq_true (isCode c) with hi | hi
  · exact h2 c (List.mem_filter.mpr ⟨hc, hi⟩)
  · simpa [hi] using h
set_option maxRecDepth 65536 in
theorem w_c0 : (Jvm.Cond.code x code maxLocals ret).before args0 about1 = true := code_word (m := ⟨1, 2⟩) (meth := k1m2) (c := k1c2) (by decide +kernel) rfl rfl rfl (by decide +kernel)
set_option maxRecDepth 65536 in
theorem w_c1 : (Jvm.Cond.code ({ cls := "com/example/pilcrow/pilcrow/regions/RoleIsFurniturePinLaw", name := "pick", desc := "(I)Lcom/example/pilcrow/pilcrow/regions/Role;" } : Jvm.MethodName) method_2_code (1 : Nat) (Option.some (Jvm.ClassFile.FieldType.object "com/example/pilcrow/pilcrow/regions/Role"))).before args0 about1 = true := code_word (m := ⟨1, 1⟩) (meth := k1m1) (c := k1c1) (by decide +kernel) rfl rfl rfl (by decide +kernel)
set_option maxRecDepth 65536 in
theorem w_c2 : (Jvm.Cond.code ({ cls := "com/example/pilcrow/pilcrow/regions/Role", name := "isFurniture", desc := "()Z" } : Jvm.MethodName) prog_27_method_6_code (1 : Nat) (Option.some Jvm.ClassFile.FieldType.boolean)).before args0 about1 = true := code_word (m := ⟨6, 0⟩) (meth := k6m0) (c := k6c0) (by decide +kernel) rfl rfl rfl (by decide +kernel)
def codes1 : List Jvm.Cond := [Jvm.Cond.code x code maxLocals ret, Jvm.Cond.code ({ cls := "com/example/pilcrow/pilcrow/regions/RoleIsFurniturePinLaw", name := "pick", desc := "(I)Lcom/example/pilcrow/pilcrow/regions/Role;" } : Jvm.MethodName) method_2_code (1 : Nat) (Option.some (Jvm.ClassFile.FieldType.object "com/example/pilcrow/pilcrow/regions/Role")), Jvm.Cond.code ({ cls := "com/example/pilcrow/pilcrow/regions/Role", name := "isFurniture", desc := "()Z" } : Jvm.MethodName) prog_27_method_6_code (1 : Nat) (Option.some Jvm.ClassFile.FieldType.boolean)]
set_option maxRecDepth 65536 in
theorem codes_eq : words1.filter isCode = codes1 := rfl
theorem w_codes : ∀ c ∈ words1.filter isCode, c.before args0 about1 = true := by
  rw [codes_eq]
  intro c hc
  simp only [codes1, List.mem_cons, List.not_mem_nil, or_false] at hc
  rcases hc with rfl | rfl | rfl
  · exact w_c0
  · exact w_c1
  · exact w_c2
set_option maxRecDepth 65536 in
theorem w_t1 : (words1.take 24).all (fun c => isCode c || c.before args0 about1) = true := by decide +kernel
set_option maxRecDepth 65536 in
theorem w_t2 : (words1.drop 24).all (fun c => isCode c || c.before args0 about1) = true := by decide +kernel
theorem w_tables : (allAtoms (Jvm.Cond.code x code maxLocals ret :: tables_1)).before args0 about1 = true := by
  rw [allAtoms_all]
  show words1.all (fun c => c.before args0 about1) = true
  refine all_split ?_ w_codes
  rw [← List.take_append_drop 24 words1, List.all_append, w_t1, w_t2]
  rfl
set_option maxRecDepth 65536 in
theorem w_case : (Jvm.Cond.and given_1 narrow_1).before args0 about1 = true := by decide +kernel
theorem w_applies : (headSpec (Jvm.Cond.code x code maxLocals ret :: tables_1) room_1).applies x e0.platform about1 = true :=
  (Spec.applies_iff w_frames).mpr ⟨w_running, w_runnable, w_alone, w_named, w_hears, w_ripe, w_room, w_tables⟩
theorem atStart : AtStart classFile x code maxLocals ret World_1 tables_1 room_1 Calls_1 rest_1 Pre_1 launch0 p0 e0 about1 theMethod args0 below0 :=
  ⟨lists_1, trivial, launch0.admits_env _ _ _, launch0.least_env, fairChoices_fair.cas, fairChoices_fair.clock, w_frames, w_args, w_heap, w_applies, trivial, trivial, w_case⟩
end start1
theorem witness_1 : WitnessClaimed_1 := ⟨start1.p0, start1.e0, start1.about1, start1.theMethod, start1.args0, start1.below0, start1.atStart⟩
end Jvm.Pilot.@@N@@
