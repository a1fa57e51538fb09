import JvmDerived
import JvmDerived.Pilot.@@N@@Statement
import JvmDerived.Pilot.@@N@@Code
set_option linter.unusedVariables false
set_option linter.unusedSimpArgs false
namespace Jvm.Pilot.@@N@@
open Jvm Jvm.ClassFile Sem Op Lib Jvm.Free Jvm.Stand Jvm.LawKit Jvm.RoadKit Bundle Jvm.Pilot.@@N@@.Jvm.D
section OwnKit
variable {p : Program} {l : Launch} {e : Env} {R : Room} {s : State} {m : MethodId} {args : Array Value} {below : List Frame} {meth : Method} {c : Code} {T : State} {locs : List Loc} {cells slots : Nat} {Z : State} {a0 : Array Value} {h h' h0 : Heap} {a b : Addr} {sl : Nat} {v w : Value} {C n d : String}
theorem own_retZ (X : Stand p l e R s m args below meth c T locs cells slots) (hx : p.tables.exec = Jvm.exec) {pc : Nat} {Ls : Array Slot} {z : Int32} {rest : List Value} (hz : nar .boolean z = z) (hret : meth.sig.returnType = some .boolean) (hd : decode c.code pc = .ok (.ireturn, 1)) {fs : List Frame}
    (hl : ∀ (f : JFrame) (acts : List Action), f.method = m → f.locked = none → f.entered = [] → (doReturn e (T.setTop f) acts (some (.int z))).1 = T.setFrames fs) : Steps p.tables e below (T.setTop (mkF m pc Ls (.int z :: rest))) (T.setFrames fs) :=
  retN X hx hret (Or.inl rfl) hd (by rw [hz]; exact hl)
theorem own_retI (X : Stand p l e R s m args below meth c T locs cells slots) (hx : p.tables.exec = Jvm.exec) {pc : Nat} {Ls : Array Slot} {z : Int32} {rest : List Value} (hret : meth.sig.returnType = some .int) (hd : decode c.code pc = .ok (.ireturn, 1)) {fs : List Frame}
    (hl : ∀ (f : JFrame) (acts : List Action), f.method = m → f.locked = none → f.entered = [] → (doReturn e (T.setTop f) acts (some (.int z))).1 = T.setFrames fs) : Steps p.tables e below (T.setTop (mkF m pc Ls (.int z :: rest))) (T.setFrames fs) :=
  retOut X hx hret rfl (Or.inl ⟨rfl, Or.inl rfl, z, rfl⟩) hd hl
theorem own_retJ (X : Stand p l e R s m args below meth c T locs cells slots) (hx : p.tables.exec = Jvm.exec) {pc : Nat} {Ls : Array Slot} {z : Int64} {rest : List Value} (hret : meth.sig.returnType = some .long) (hd : decode c.code pc = .ok (.lreturn, 1)) {fs : List Frame}
    (hl : ∀ (f : JFrame) (acts : List Action), f.method = m → f.locked = none → f.entered = [] → (doReturn e (T.setTop f) acts (some (.long z))).1 = T.setFrames fs) : Steps p.tables e below (T.setTop (mkF m pc Ls (.long z :: rest))) (T.setFrames fs) :=
  retOut X hx hret rfl (Or.inr (Or.inl ⟨rfl, rfl, z, rfl⟩)) hd hl
theorem own_narR {t : FieldType} (ht : t.isReference = true) (hw : w.isRef = true) : narrow t w = w := by
  cases t <;> first | (cases ht; done) | (cases w <;> first | rfl | (cases hw; done))
theorem own_retA (X : Stand p l e R s m args below meth c T locs cells slots) (hx : p.tables.exec = Jvm.exec) {pc : Nat} {Ls : Array Slot} {t : FieldType} {rest : List Value} (ht : t.isReference = true) (hw : w.isRef = true) (hret : meth.sig.returnType = some t) (hd : decode c.code pc = .ok (.areturn, 1)) {fs : List Frame}
    (hl : ∀ (f : JFrame) (acts : List Action), f.method = m → f.locked = none → f.entered = [] → (doReturn e (T.setTop f) acts (some w)).1 = T.setFrames fs) : Steps p.tables e below (T.setTop (mkF m pc Ls (w :: rest))) (T.setFrames fs) :=
  retOut X hx hret (own_narR ht hw) (Or.inr (Or.inr (Or.inr (Or.inr ⟨rfl, ht, hw⟩)))) hd hl
theorem own_join (X : Stand p l e R s m args below meth c T locs cells slots) {h : Heap} {g g' : JFrame} (K : ∃ T', Stand p l e R s m args below meth c T' locs cells slots ∧ T'.heap = h ∧ ∀ target, Steps p.tables e below (T'.setTop g') target → Steps p.tables e below (T.setTop g) target) :
    ∃ T', Stand p l e R s m args below meth c T' locs cells slots ∧ T'.heap = h ∧ ∀ target, Steps p.tables e below (T'.setTop g') target → Steps p.tables e below (T.setTop g) target := K
theorem own_ext_refl (h : Heap) : Ext h h := ⟨Nat.le_refl _, fun _ _ q => q⟩
theorem own_ext_tr (E : Ext h0 h) (E' : Ext h h') : Ext h0 h' := ⟨Nat.le_trans E.1 E'.1, fun x y q => E'.2 x y (E.2 x y q)⟩
theorem own_ext_wr (E : Ext h0 h) (W : Wr h h' a sl v) (g : h0.size ≤ a) : Ext h0 h' := ⟨by rw [W.size]; exact E.1, fun x y q => by
  obtain ⟨cb', h1, -, -, -, h5, -⟩ := wr_at W (E.2 x y q)
  rw [h1, h5 (fun r => by subst r; exact absurd (Array.getElem?_eq_some_iff.mp q).1 (Nat.not_lt.mpr g))]⟩
theorem own_fld_inj (F : Fld Z h a C n d v) (G : Fld Z h a C n d w) : v = w := by
  obtain ⟨cell, cf, k, i, f, h1, h2, h3, h4, h5, h6, h7⟩ := F
  obtain ⟨cell', cf', k', i', f', g1, g2, g3, g4, g5, g6, g7⟩ := G
  cases h1.symm.trans g1
  cases h2.symm.trans g2
  exact Option.some.inj (h7.symm.trans g7)
theorem own_fld_ne (F : Fld Z h a C n d v) (G : Fld Z h b C n d w) (q : v ≠ w) : a ≠ b := fun r => by subst r; exact q (own_fld_inj F G)
theorem own_ref_ne (q : a ≠ b) : ¬ Value.ref a = Value.ref b := fun r => q (Value.ref.inj r)
theorem own_ref_eq (q : a = b) : Value.ref a = Value.ref b := congrArg Value.ref q
/-- the array at a, of class k, holds just xs -/
def OwnLst (Z : State) (h : Heap) (a : Addr) (ty : FieldType) (k : ClassId) (xs : List Value) : Prop := ∃ cl : Cell, Arr Z h a cl ty ∧ cl.cls = k ∧ cl.slots.toList = xs
theorem OwnLst.ext {ty : FieldType} {k : ClassId} {xs : List Value} (F : OwnLst Z h a ty k xs) (E : Ext h h') : OwnLst Z h' a ty k xs := by obtain ⟨cl, A, q, G⟩ := F; exact ⟨cl, A.ext E, q, G⟩
theorem OwnLst.other {ty : FieldType} {k : ClassId} {xs : List Value} (F : OwnLst Z h b ty k xs) (W : Wr h h' a sl v) (q : b ≠ a) : OwnLst Z h' b ty k xs := by obtain ⟨cl, A, q1, G⟩ := F; exact ⟨cl, A.other W q, q1, G⟩
theorem OwnLst.keep {ty : FieldType} {k : ClassId} {xs : List Value} {ws : List Addr} (F : OwnLst Z h a ty k xs) (K : Keep h h' ws) (q : a ∉ ws) : OwnLst Z h' a ty k xs := by obtain ⟨cl, A, q1, G⟩ := F; exact ⟨cl, ⟨K.2.1 _ _ A.1 q, A.2⟩, q1, G⟩
theorem own_lst_set {ty : FieldType} {k : ClassId} {xs : List Value} {cl : Cell} (A : Arr Z h a cl ty) (q : cl.cls = k) (G : cl.slots.toList = xs) (W : Wr h h' a sl v) : OwnLst Z h' a ty k (xs.set sl v) :=
  ⟨cl.setSlot sl v, A.same W, q, by rw [← G]; simp [Cell.setSlot]⟩
theorem own_lst_new {ty : FieldType} {k : ClassId} {z : Int32} (A : Arr Z h a (newA k ty z) ty) : OwnLst Z h a ty k (List.replicate z.toNatClampNeg (defaultValue ty)) := ⟨_, A, rfl, by simp [newA]⟩
theorem own_inb {xs : List Value} {cl : Cell} {j : Int32} (G : cl.slots.toList = xs) (k : Nat) (hk : xs.length = k) (q : ¬ (j < 0 ∨ k ≤ j.toNatClampNeg)) : ¬ (j < 0 ∨ cl.slots.size ≤ j.toNatClampNeg) := by
  have r : cl.slots.size = k := by rw [← hk, ← G]; simp
  rw [r]; exact q
theorem own_get {xs : List Value} {cl : Cell} {i : Nat} (G : cl.slots.toList = xs) (q : xs[i]? = some v) : cl.slots[i]? = some v := by rw [← Array.getElem?_toList, G]; exact q
theorem own_len {xs : List Value} {cl : Cell} {z : Int32} (G : cl.slots.toList = xs) (q : xs.length.toInt32 = z) : cl.slots.size.toInt32 = z := by rw [← q, ← G]; simp
theorem own_fI {t : Term} {k : Int32} (ht : t.eval args s none [] s = some (.ref a)) (q : (Jvm.Cond.eq (Term.field t C n d) (Term.int k)).value args s none s [] = some true) : Fld s s.heap a C n d (.int k) := by
  obtain ⟨x, y, e1, e2, -, e4⟩ := cmp_v (Or.inl q)
  cases (Term.int_eval k).symm.trans e2
  obtain ⟨z, rfl⟩ := e4
  have r := gotT (Cond.eq_ints e1 (Term.int_eval k)) q
  subst r
  rw [fld_at ht] at e1
  exact Fld.start e1
theorem own_fR {t u : Term} (hu : u.eval args s none [] s = some (.ref b)) (ht : t.eval args s none [] s = some (.ref a)) (q : (Jvm.Cond.eq (Term.field t C n d) u).value args s none s [] = some true) : Fld s s.heap a C n d (.ref b) := by
  obtain ⟨x, y, e1, e2, -, e4⟩ := cmp_v (Or.inl q)
  cases hu.symm.trans e2
  have r := gotT (eq_R e1 hu e4.2 rfl) q
  subst r
  rw [fld_at ht] at e1
  exact Fld.start e1
theorem own_fN {t : Term} (ht : t.eval args s none [] s = some (.ref a)) (q : (Jvm.Cond.eq (Term.field t C n d) Term.null).value args s none s [] = some true) : Fld s s.heap a C n d .null := by
  have e1 := null_v q
  rw [fld_at ht] at e1
  exact Fld.start e1
theorem own_arg1 {args : Array Value} (h1 : (Jvm.Cond.count 1).value args s none s [] = some true) : ∃ w0 : Value, args = #[w0] := by
  have hs : args.size = 1 := by simpa [Cond.value] using h1
  obtain ⟨L⟩ := args
  match L, hs with
  | [w0], _ => exact ⟨w0, rfl⟩
theorem own_arg2 {args : Array Value} (h1 : (Jvm.Cond.count 2).value args s none s [] = some true) : ∃ w0 w1 : Value, args = #[w0, w1] := by
  have hs : args.size = 2 := by simpa [Cond.value] using h1
  obtain ⟨L⟩ := args
  match L, hs with
  | [w0, w1], _ => exact ⟨w0, w1, rfl⟩
theorem own_arg3 {args : Array Value} (h1 : (Jvm.Cond.count 3).value args s none s [] = some true) : ∃ w0 w1 w2 : Value, args = #[w0, w1, w2] := by
  have hs : args.size = 3 := by simpa [Cond.value] using h1
  obtain ⟨L⟩ := args
  match L, hs with
  | [w0, w1, w2], _ => exact ⟨w0, w1, w2, rfl⟩
theorem own_narB (q : Prop) [Decidable q] : nar .boolean (if q then (1 : Int32) else (0 : Int32)) = if q then (1 : Int32) else (0 : Int32) := by split <;> rfl
theorem own_mod (x k : Int32) (z : Int) (hk : k.toInt = z) (hz : 0 < z) : 0 ≤ ((x &&& (2147483647 : Int32)) % k).toInt ∧ ((x &&& (2147483647 : Int32)) % k).toInt < z := by
  have h1 := c_and x (2147483647 : Int32) (by decide)
  rw [(c_irem (x &&& (2147483647 : Int32)) k z hk).1 h1.1]
  exact ⟨Int.emod_nonneg _ (by omega), Int.emod_lt_of_pos _ hz⟩
theorem own_and3 (x : Int32) : (x &&& (3 : Int32)) = 0 ∨ (x &&& (3 : Int32)) = 1 ∨ (x &&& (3 : Int32)) = 2 ∨ (x &&& (3 : Int32)) = 3 := by
  have h1 := c_and x (3 : Int32) (by decide)
  have e3 : (3 : Int32).toInt = 3 := by decide
  rw [e3] at h1
  have e : (x &&& (3 : Int32)).toInt = 0 ∨ (x &&& (3 : Int32)).toInt = 1 ∨ (x &&& (3 : Int32)).toInt = 2 ∨ (x &&& (3 : Int32)).toInt = 3 := by omega
  rcases e with e | e | e | e
  · exact Or.inl (Int32.toInt_inj.mp e)
  · exact Or.inr (Or.inl (Int32.toInt_inj.mp e))
  · exact Or.inr (Or.inr (Or.inl (Int32.toInt_inj.mp e)))
  · exact Or.inr (Or.inr (Or.inr (Int32.toInt_inj.mp e)))
end OwnKit
section OwnKit2
variable {args : Array Value} {s : State} {a b : Addr} {cl : Cell}
theorem own_slen {t : Term} {z : Int32} (hz : ¬ z < 0) (q : (Jvm.Cond.eq (Term.length t) (Term.int z)).value args s none s [] = some true) (ht : t.eval args s none [] s = some (.ref a)) (hc : s.heap[a]? = some cl) : cl.slots.size = z.toNatClampNeg := by
  obtain ⟨x, y, e1, e2, -, e4⟩ := cmp_v (Or.inl q)
  cases (Term.int_eval z).symm.trans e2
  obtain ⟨k, rfl⟩ := e4
  have r := gotT (Cond.eq_ints e1 (Term.int_eval z)) q
  subst r
  obtain ⟨a', c', g1, g2, g3⟩ := Term.length_spec e1
  have g6 := SBG.length_lt g1 g2 e1
  cases ht.symm.trans g1
  have g5 : c' = cl := Option.some.inj ((State.arrayAt?_spec g2).1.symm.trans hc)
  subst g5
  have h3 : c'.slots.size.toInt32 = k := (Value.int.inj g3).symm
  have h1 := back32 hz
  have h4 : c'.slots.size.toInt32.toInt = (c'.slots.size : Int) := len_toInt g6
  have h5 : k.toNatClampNeg.toInt32.toInt = (k.toNatClampNeg : Int) := len_toInt h1.2
  rw [h1.1] at h5
  rw [h3] at h4
  omega
theorem own_selem {t u : Term} {j : Int32} (hu : u.eval args s none [] s = some (.ref b)) (ht : t.eval args s none [] s = some (.ref a)) (hc : s.heap[a]? = some cl) (q : (Jvm.Cond.eq (Term.elem t (Term.int j)) u).value args s none s [] = some true) : cl.slots[j.toNatClampNeg]? = some (.ref b) := by
  obtain ⟨x, y, e1, e2, -, e4⟩ := cmp_v (Or.inl q)
  cases hu.symm.trans e2
  have r := gotT (eq_R e1 hu e4.2 rfl) q
  subst r
  exact (elem_in e1 ht (Term.int_eval j) hc).2
theorem own_list6 {A : Array Value} (hs : A.size = 6) {v0 v1 v2 v3 v4 v5 : Value} (h0 : A[0]? = some v0) (h1 : A[1]? = some v1) (h2 : A[2]? = some v2) (h3 : A[3]? = some v3) (h4 : A[4]? = some v4) (h5 : A[5]? = some v5) : A.toList = [v0, v1, v2, v3, v4, v5] := by
  obtain ⟨l⟩ := A
  match l, hs with
  | [a, b, c, d, e, f], _ =>
    simp at h0 h1 h2 h3 h4 h5
    simp [h0, h1, h2, h3, h4, h5]
theorem own_list4 {A : Array Value} (hs : A.size = 4) {v0 v1 v2 v3 : Value} (h0 : A[0]? = some v0) (h1 : A[1]? = some v1) (h2 : A[2]? = some v2) (h3 : A[3]? = some v3) : A.toList = [v0, v1, v2, v3] := by
  obtain ⟨l⟩ := A
  match l, hs with
  | [a, b, c, d], _ =>
    simp at h0 h1 h2 h3
    simp [h0, h1, h2, h3]
end OwnKit2
section OwnKit3
variable {Z : State} {h h' h0 : Heap} {a b : Addr} {v : Value} {ty : FieldType} {k : ClassId} {xs : List Value} {n0 : Nat} {ws : List Addr} {sl : Nat}
theorem OwnLst.lt (F : OwnLst Z h a ty k xs) : a < h.size := by obtain ⟨cl, A, -⟩ := F; exact A.lt
theorem own_old_ext (O : Old Z n0 h) (E : Ext h h') : Old Z n0 h' := ⟨O.1, own_ext_tr O.2 E⟩
theorem own_ne_lt (q : a < h.size) (g : b = h.size) : a ≠ b := fun r => by rw [r, g] at q; exact Nat.lt_irrefl _ q
theorem own_ne_le (q : a < h.size) (g : h.size ≤ b) : a ≠ b := fun r => by rw [r] at q; exact Nat.lt_irrefl _ (Nat.lt_of_lt_of_le q g)
theorem own_lst_eq {xs' : List Value} (F : OwnLst Z h a ty k xs) (q : xs = xs') : OwnLst Z h a ty k xs' := q ▸ F
end OwnKit3
theorem own_d_jdk_37_method_2_0 : decode jdk_37_method_2_code 0 = .ok (.aload_n 0, 1) := by decide +kernel
theorem own_d_jdk_37_method_2_1 : decode jdk_37_method_2_code 1 = .ok (.getfield 7, 3) := by decide +kernel
theorem own_d_jdk_37_method_2_4 : decode jdk_37_method_2_code 4 = .ok (.ireturn, 1) := by decide +kernel
theorem own_d_method_2_0 : decode method_2_code 0 = .ok (.iload_n 0, 1) := by decide +kernel
theorem own_d_method_2_1 : decode method_2_code 1 = .ok (.ifCond .ne 7, 3) := by decide +kernel
theorem own_d_method_2_4 : decode method_2_code 4 = .ok (.getstatic 7, 3) := by decide +kernel
theorem own_d_method_2_7 : decode method_2_code 7 = .ok (.areturn, 1) := by decide +kernel
theorem own_d_method_2_8 : decode method_2_code 8 = .ok (.iload_n 0, 1) := by decide +kernel
theorem own_d_method_2_9 : decode method_2_code 9 = .ok (.iconst 1, 1) := by decide +kernel
theorem own_d_method_2_10 : decode method_2_code 10 = .ok (.if_icmp .ne 7, 3) := by decide +kernel
theorem own_d_method_2_13 : decode method_2_code 13 = .ok (.getstatic 13, 3) := by decide +kernel
theorem own_d_method_2_16 : decode method_2_code 16 = .ok (.areturn, 1) := by decide +kernel
theorem own_d_method_2_17 : decode method_2_code 17 = .ok (.iload_n 0, 1) := by decide +kernel
theorem own_d_method_2_18 : decode method_2_code 18 = .ok (.iconst 2, 1) := by decide +kernel
theorem own_d_method_2_19 : decode method_2_code 19 = .ok (.if_icmp .ne 7, 3) := by decide +kernel
theorem own_d_method_2_22 : decode method_2_code 22 = .ok (.getstatic 16, 3) := by decide +kernel
theorem own_d_method_2_25 : decode method_2_code 25 = .ok (.areturn, 1) := by decide +kernel
theorem own_d_method_2_26 : decode method_2_code 26 = .ok (.iload_n 0, 1) := by decide +kernel
theorem own_d_method_2_27 : decode method_2_code 27 = .ok (.iconst 3, 1) := by decide +kernel
theorem own_d_method_2_28 : decode method_2_code 28 = .ok (.if_icmp .ne 7, 3) := by decide +kernel
theorem own_d_method_2_31 : decode method_2_code 31 = .ok (.getstatic 19, 3) := by decide +kernel
theorem own_d_method_2_34 : decode method_2_code 34 = .ok (.areturn, 1) := by decide +kernel
theorem own_d_method_2_35 : decode method_2_code 35 = .ok (.iload_n 0, 1) := by decide +kernel
theorem own_d_method_2_36 : decode method_2_code 36 = .ok (.iconst 4, 1) := by decide +kernel
theorem own_d_method_2_37 : decode method_2_code 37 = .ok (.if_icmp .ne 7, 3) := by decide +kernel
theorem own_d_method_2_40 : decode method_2_code 40 = .ok (.getstatic 22, 3) := by decide +kernel
theorem own_d_method_2_43 : decode method_2_code 43 = .ok (.areturn, 1) := by decide +kernel
theorem own_d_method_2_44 : decode method_2_code 44 = .ok (.getstatic 25, 3) := by decide +kernel
theorem own_d_method_2_47 : decode method_2_code 47 = .ok (.areturn, 1) := by decide +kernel
theorem own_d_prog_23_method_4_0 : decode prog_23_method_4_code 0 = .ok (.aload_n 0, 1) := by decide +kernel
theorem own_d_prog_23_method_4_1 : decode prog_23_method_4_code 1 = .ok (.getstatic 3, 3) := by decide +kernel
theorem own_d_prog_23_method_4_4 : decode prog_23_method_4_code 4 = .ok (.if_acmp .eq 14, 3) := by decide +kernel
theorem own_d_prog_23_method_4_7 : decode prog_23_method_4_code 7 = .ok (.aload_n 0, 1) := by decide +kernel
theorem own_d_prog_23_method_4_8 : decode prog_23_method_4_code 8 = .ok (.getstatic 7, 3) := by decide +kernel
theorem own_d_prog_23_method_4_11 : decode prog_23_method_4_code 11 = .ok (.if_acmp .eq 7, 3) := by decide +kernel
theorem own_d_prog_23_method_4_14 : decode prog_23_method_4_code 14 = .ok (.iconst 1, 1) := by decide +kernel
theorem own_d_prog_23_method_4_15 : decode prog_23_method_4_code 15 = .ok (.goto 4, 3) := by decide +kernel
theorem own_d_prog_23_method_4_18 : decode prog_23_method_4_code 18 = .ok (.iconst 0, 1) := by decide +kernel
theorem own_d_prog_23_method_4_19 : decode prog_23_method_4_code 19 = .ok (.ireturn, 1) := by decide +kernel
theorem own_d_prog_23_method_5_0 : decode prog_23_method_5_code 0 = .ok (.aload_n 0, 1) := by decide +kernel
theorem own_d_prog_23_method_5_1 : decode prog_23_method_5_code 1 = .ok (.invokevirtual 41, 3) := by decide +kernel
theorem own_d_prog_23_method_5_4 : decode prog_23_method_5_code 4 = .ok (.tableswitch 106 0 4 #[36, 50, 64, 78, 92], 36) := by decide +kernel
theorem own_d_prog_23_method_5_40 : decode prog_23_method_5_code 40 = .ok (.iload_n 1, 1) := by decide +kernel
theorem own_d_prog_23_method_5_41 : decode prog_23_method_5_code 41 = .ok (.iload_n 2, 1) := by decide +kernel
theorem own_d_prog_23_method_5_42 : decode prog_23_method_5_code 42 = .ok (.if_icmp .ne 7, 3) := by decide +kernel
theorem own_d_prog_23_method_5_45 : decode prog_23_method_5_code 45 = .ok (.iconst 1, 1) := by decide +kernel
theorem own_d_prog_23_method_5_46 : decode prog_23_method_5_code 46 = .ok (.goto 4, 3) := by decide +kernel
theorem own_d_prog_23_method_5_49 : decode prog_23_method_5_code 49 = .ok (.iconst 0, 1) := by decide +kernel
theorem own_d_prog_23_method_5_50 : decode prog_23_method_5_code 50 = .ok (.istore_n 3, 1) := by decide +kernel
theorem own_d_prog_23_method_5_51 : decode prog_23_method_5_code 51 = .ok (.goto 70, 3) := by decide +kernel
theorem own_d_prog_23_method_5_54 : decode prog_23_method_5_code 54 = .ok (.iload_n 1, 1) := by decide +kernel
theorem own_d_prog_23_method_5_55 : decode prog_23_method_5_code 55 = .ok (.iload_n 2, 1) := by decide +kernel
theorem own_d_prog_23_method_5_56 : decode prog_23_method_5_code 56 = .ok (.if_icmp .eq 7, 3) := by decide +kernel
theorem own_d_prog_23_method_5_59 : decode prog_23_method_5_code 59 = .ok (.iconst 1, 1) := by decide +kernel
theorem own_d_prog_23_method_5_60 : decode prog_23_method_5_code 60 = .ok (.goto 4, 3) := by decide +kernel
theorem own_d_prog_23_method_5_63 : decode prog_23_method_5_code 63 = .ok (.iconst 0, 1) := by decide +kernel
theorem own_d_prog_23_method_5_64 : decode prog_23_method_5_code 64 = .ok (.istore_n 3, 1) := by decide +kernel
theorem own_d_prog_23_method_5_65 : decode prog_23_method_5_code 65 = .ok (.goto 56, 3) := by decide +kernel
theorem own_d_prog_23_method_5_68 : decode prog_23_method_5_code 68 = .ok (.iload_n 1, 1) := by decide +kernel
theorem own_d_prog_23_method_5_69 : decode prog_23_method_5_code 69 = .ok (.iload_n 2, 1) := by decide +kernel
theorem own_d_prog_23_method_5_70 : decode prog_23_method_5_code 70 = .ok (.if_icmp .ge 7, 3) := by decide +kernel
theorem own_d_prog_23_method_5_73 : decode prog_23_method_5_code 73 = .ok (.iconst 1, 1) := by decide +kernel
theorem own_d_prog_23_method_5_74 : decode prog_23_method_5_code 74 = .ok (.goto 4, 3) := by decide +kernel
theorem own_d_prog_23_method_5_77 : decode prog_23_method_5_code 77 = .ok (.iconst 0, 1) := by decide +kernel
theorem own_d_prog_23_method_5_78 : decode prog_23_method_5_code 78 = .ok (.istore_n 3, 1) := by decide +kernel
theorem own_d_prog_23_method_5_79 : decode prog_23_method_5_code 79 = .ok (.goto 42, 3) := by decide +kernel
theorem own_d_prog_23_method_5_82 : decode prog_23_method_5_code 82 = .ok (.iload_n 1, 1) := by decide +kernel
theorem own_d_prog_23_method_5_83 : decode prog_23_method_5_code 83 = .ok (.iload_n 2, 1) := by decide +kernel
theorem own_d_prog_23_method_5_84 : decode prog_23_method_5_code 84 = .ok (.if_icmp .gt 7, 3) := by decide +kernel
theorem own_d_prog_23_method_5_87 : decode prog_23_method_5_code 87 = .ok (.iconst 1, 1) := by decide +kernel
theorem own_d_prog_23_method_5_88 : decode prog_23_method_5_code 88 = .ok (.goto 4, 3) := by decide +kernel
theorem own_d_prog_23_method_5_91 : decode prog_23_method_5_code 91 = .ok (.iconst 0, 1) := by decide +kernel
theorem own_d_prog_23_method_5_92 : decode prog_23_method_5_code 92 = .ok (.istore_n 3, 1) := by decide +kernel
theorem own_d_prog_23_method_5_93 : decode prog_23_method_5_code 93 = .ok (.goto 28, 3) := by decide +kernel
theorem own_d_prog_23_method_5_96 : decode prog_23_method_5_code 96 = .ok (.iload_n 1, 1) := by decide +kernel
theorem own_d_prog_23_method_5_97 : decode prog_23_method_5_code 97 = .ok (.iload_n 2, 1) := by decide +kernel
theorem own_d_prog_23_method_5_98 : decode prog_23_method_5_code 98 = .ok (.if_icmp .le 7, 3) := by decide +kernel
theorem own_d_prog_23_method_5_101 : decode prog_23_method_5_code 101 = .ok (.iconst 1, 1) := by decide +kernel
theorem own_d_prog_23_method_5_102 : decode prog_23_method_5_code 102 = .ok (.goto 4, 3) := by decide +kernel
theorem own_d_prog_23_method_5_105 : decode prog_23_method_5_code 105 = .ok (.iconst 0, 1) := by decide +kernel
theorem own_d_prog_23_method_5_106 : decode prog_23_method_5_code 106 = .ok (.istore_n 3, 1) := by decide +kernel
theorem own_d_prog_23_method_5_107 : decode prog_23_method_5_code 107 = .ok (.goto 14, 3) := by decide +kernel
theorem own_d_prog_23_method_5_110 : decode prog_23_method_5_code 110 = .ok (.iload_n 1, 1) := by decide +kernel
theorem own_d_prog_23_method_5_111 : decode prog_23_method_5_code 111 = .ok (.iload_n 2, 1) := by decide +kernel
theorem own_d_prog_23_method_5_112 : decode prog_23_method_5_code 112 = .ok (.if_icmp .lt 7, 3) := by decide +kernel
theorem own_d_prog_23_method_5_115 : decode prog_23_method_5_code 115 = .ok (.iconst 1, 1) := by decide +kernel
theorem own_d_prog_23_method_5_116 : decode prog_23_method_5_code 116 = .ok (.goto 4, 3) := by decide +kernel
theorem own_d_prog_23_method_5_119 : decode prog_23_method_5_code 119 = .ok (.iconst 0, 1) := by decide +kernel
theorem own_d_prog_23_method_5_120 : decode prog_23_method_5_code 120 = .ok (.istore_n 3, 1) := by decide +kernel
theorem own_d_prog_23_method_5_121 : decode prog_23_method_5_code 121 = .ok (.iload_n 3, 1) := by decide +kernel
theorem own_d_prog_23_method_5_122 : decode prog_23_method_5_code 122 = .ok (.ireturn, 1) := by decide +kernel
theorem own_pn0 : plainName "com/example/occurrence/occurrence/colour/RelationIsOrderPinLaw" = true := by first | (simp [plainName, overriddenIn]; done) | decide +kernel
theorem own_pn1 : plainName "com/example/occurrence/occurrence/colour/Guard$Relation" = true := by first | (simp [plainName, overriddenIn]; done) | decide +kernel
theorem own_pn2 : plainName "java/lang/Enum" = true := by first | (simp [plainName, overriddenIn]; done) | decide +kernel
theorem own_pd0 : parseMethodDescriptor "()I" = some ⟨[], some .int⟩ := by decide +kernel
theorem own_pd1 : parseMethodDescriptor "(I)Lcom/example/occurrence/occurrence/colour/Guard$Relation;" = some ⟨[.int], some (.object "com/example/occurrence/occurrence/colour/Guard$Relation")⟩ := by decide +kernel
theorem own_pd2 : parseMethodDescriptor "()Z" = some ⟨[], some .boolean⟩ := by decide +kernel
theorem own_pd3 : parseMethodDescriptor "(II)Z" = some ⟨[.int, .int], some .boolean⟩ := by decide +kernel
def own_sel (b_EQUAL b_NOT_EQUAL b_LESS b_LESS_OR_EQUAL b_GREATER b_GREATER_OR_EQUAL : Addr) (k : Int32) : Addr := if k = (0 : Int32) then b_EQUAL else if k = (1 : Int32) then b_NOT_EQUAL else if k = (2 : Int32) then b_LESS else if k = (3 : Int32) then b_LESS_OR_EQUAL else if k = (4 : Int32) then b_GREATER  else b_GREATER_OR_EQUAL
def own_holds (o x y : Int32) : Int32 := if o = (0 : Int32) then (if x = y then (1 : Int32) else (0 : Int32)) else if o = (1 : Int32) then (if x = y then (0 : Int32) else (1 : Int32)) else if o = (2 : Int32) then (if x < y then (1 : Int32) else (0 : Int32)) else if o = (3 : Int32) then (if y < x then (0 : Int32) else (1 : Int32)) else if o = (4 : Int32) then (if y < x then (1 : Int32) else (0 : Int32)) else (if x < y then (0 : Int32) else (1 : Int32))
theorem own_six {k : Int32} (h0 : 0 ≤ k.toInt) (h1 : k.toInt < 6) : k = (0 : Int32) ∨ k = (1 : Int32) ∨ k = (2 : Int32) ∨ k = (3 : Int32) ∨ k = (4 : Int32) ∨ k = (5 : Int32) := by
  have e : k.toInt = 0 ∨ k.toInt = 1 ∨ k.toInt = 2 ∨ k.toInt = 3 ∨ k.toInt = 4 ∨ k.toInt = 5 := by omega
  rcases e with e | e | e | e | e | e
  · exact Or.inl (Int32.toInt_inj.mp e)
  · exact Or.inr (Or.inl (Int32.toInt_inj.mp e))
  · exact Or.inr (Or.inr (Or.inl (Int32.toInt_inj.mp e)))
  · exact Or.inr (Or.inr (Or.inr (Or.inl (Int32.toInt_inj.mp e))))
  · exact Or.inr (Or.inr (Or.inr (Or.inr (Or.inl (Int32.toInt_inj.mp e)))))
  · exact Or.inr (Or.inr (Or.inr (Or.inr (Or.inr ((Int32.toInt_inj.mp e))))))
theorem rm_pick_ef (m : MethodId) (x0 : Int32) : entryFrame m #[(.int x0)] 1 = mkF m 0 #[.val (.int x0)] [] := by first | (simp [entryFrame, mkF, argsToLocals, Value.category]; done) | rfl
def rm_pick_Q (Z : State) (k : Int32) (b_EQUAL : Addr) (b_NOT_EQUAL : Addr) (b_LESS : Addr) (b_LESS_OR_EQUAL : Addr) (b_GREATER : Addr) (b_GREATER_OR_EQUAL : Addr) (h0 : Heap) (n0 : Nat) (v : Option Value) (h : Heap) (L : List Loc) : Prop := v = some (.ref (own_sel b_EQUAL b_NOT_EQUAL b_LESS b_LESS_OR_EQUAL b_GREATER b_GREATER_OR_EQUAL k)) ∧ Fr n0 L ∧ h = h0
set_option maxRecDepth 65536 in
set_option maxHeartbeats 40000000 in
theorem rm_pick (l : Launch) (Z : State) (a0 : Array Value) (hw : ∀ d ∈ tables_1, d.before a0 Z = true) (ws : List Jvm.Cond) (k : Int32) (b_EQUAL : Addr) (b_NOT_EQUAL : Addr) (b_LESS : Addr) (b_LESS_OR_EQUAL : Addr) (b_GREATER : Addr) (b_GREATER_OR_EQUAL : Addr) (h0 : Heap) (n0 : Nat) (Z0 : n0 ≤ h0.size) (S_EQUAL : Sta Z h0 "com/example/occurrence/occurrence/colour/Guard$Relation" "EQUAL" "Lcom/example/occurrence/occurrence/colour/Guard$Relation;" (.ref b_EQUAL)) (S_LESS_OR_EQUAL : Sta Z h0 "com/example/occurrence/occurrence/colour/Guard$Relation" "LESS_OR_EQUAL" "Lcom/example/occurrence/occurrence/colour/Guard$Relation;" (.ref b_LESS_OR_EQUAL)) (S_NOT_EQUAL : Sta Z h0 "com/example/occurrence/occurrence/colour/Guard$Relation" "NOT_EQUAL" "Lcom/example/occurrence/occurrence/colour/Guard$Relation;" (.ref b_NOT_EQUAL)) (S_LESS : Sta Z h0 "com/example/occurrence/occurrence/colour/Guard$Relation" "LESS" "Lcom/example/occurrence/occurrence/colour/Guard$Relation;" (.ref b_LESS)) (S_GREATER_OR_EQUAL : Sta Z h0 "com/example/occurrence/occurrence/colour/Guard$Relation" "GREATER_OR_EQUAL" "Lcom/example/occurrence/occurrence/colour/Guard$Relation;" (.ref b_GREATER_OR_EQUAL)) (S_GREATER : Sta Z h0 "com/example/occurrence/occurrence/colour/Guard$Relation" "GREATER" "Lcom/example/occurrence/occurrence/colour/Guard$Relation;" (.ref b_GREATER)) :
    MetFree l (⟨"com/example/occurrence/occurrence/colour/RelationIsOrderPinLaw", "pick", "(I)Lcom/example/occurrence/occurrence/colour/Guard$Relation;"⟩ : MethodName) (head1 (Jvm.Cond.code (⟨"com/example/occurrence/occurrence/colour/RelationIsOrderPinLaw", "pick", "(I)Lcom/example/occurrence/occurrence/colour/Guard$Relation;"⟩ : MethodName) method_2_code 1 (some (.object "com/example/occurrence/occurrence/colour/Guard$Relation")) :: ws) ({ frames := 0, cells := 0, slots := 0, locals := 0 } : Room)) (fun a₀ U₀ => a₀ = #[(.int k)] ∧ Z.Warmed39 U₀.vm ∧ U₀.heap = h0) (fun _ _ _ _ _ => True) (fun _ U₀ o₀ U₁ => ∃ v₀ L₀, o₀ = .returned v₀ ∧ rm_pick_Q Z k b_EQUAL b_NOT_EQUAL b_LESS b_LESS_OR_EQUAL b_GREATER b_GREATER_OR_EQUAL h0 n0 v₀ U₁.heap L₀ ∧ FrameEnd U₀ o₀ U₁ L₀ ({ frames := 0, cells := 0, slots := 0, locals := 0 } : Room).cells ({ frames := 0, cells := 0, slots := 0, locals := 0 } : Room).slots) := by
  refine MetFree.of_bodySF (plainFor_of_name own_pn0) hisR ?_
  intro p e s m args below meth c s₁ Bd hml0 hP hK
  obtain ⟨rfl, hZ, hh⟩ := hP
  have hx := Bd.exec
  have hby := Bd.bytes
  have hml : c.maxLocals = 1 := hml0
  have hown : s.vm.findClass "com/example/occurrence/occurrence/colour/RelationIsOrderPinLaw" = some m.cls := findClass_of_methodNamed Bd.named
  have hnm := (name_of_methodNamed Bd.named Bd.method).1
  have X0 : Stand p l e ({ frames := 0, cells := 0, slots := 0, locals := 0 } : Room) s m #[(.int k)] below meth c s₁ [] 0 0 := Stand.of_body Bd
  have e0 : s₁.heap = h0 := by rw [← hh, Bd.state]; rfl
  have N0 := Fr.nil n0
  have pre0 : ∀ t, Steps p.tables e below (s₁.setTop (mkF m 0 #[.val (.int k)] [])) t → Steps p.tables e below (s₁.setTop (entryFrame m #[(.int k)] 1)) t := fun t kk₀ => castTop (rm_pick_ef m k) kk₀
  by_cases q0 : k = (0 : Int32)
  rotate_left
  by_cases q1 : k = (1 : Int32)
  rotate_left
  by_cases q2 : k = (2 : Int32)
  rotate_left
  by_cases q3 : k = (3 : Int32)
  rotate_left
  by_cases q4 : k = (4 : Int32)
  rotate_left
  · obtain ⟨T6, X6, e6, st6⟩ := getS X0 hx hZ (host := "") hown (hw _ (List.mem_of_getElem? (i := 35) rfl)) Via.refl e0 S_GREATER_OR_EQUAL (g := (mkF m 44 #[.val (.int k)] [])) rfl (hb hby own_d_method_2_44)
    obtain ⟨fs, hr, hrun, hended, hW, hsame⟩ := X6.leave (v := some (.ref b_GREATER_OR_EQUAL)) (fun h => by rw [Bd.returns] at h; cases h)
    refine ⟨_, _, pre0 _ ?_, hrun, hended, _, _, rfl, ?_, ⟨_, rfl⟩, hW, hsame.mono (by decide) (by decide)⟩
    · show Steps p.tables e below (s₁.setTop (mkF m 0 #[.val (.int k)] [])) _
      refine XS.iloadN X0.here hx rfl (hb hby own_d_method_2_0) rfl ?_
      show Steps p.tables e below (s₁.setTop (mkF m 1 #[.val (.int k)] [(.int k)])) _
      refine XS.ifYes X0.here hx rfl (pc0 := 1) (pc' := 8) rfl (hb hby own_d_method_2_1) rfl ((if0 _ _).trans (feq q0).2) (by decide) (by decide) ?_
      show Steps p.tables e below (s₁.setTop (mkF m 8 #[.val (.int k)] [])) _
      refine XS.iloadN X0.here hx rfl (hb hby own_d_method_2_8) rfl ?_
      show Steps p.tables e below (s₁.setTop (mkF m 9 #[.val (.int k)] [(.int k)])) _
      refine XS.iconst X0.here hx rfl (hb hby own_d_method_2_9) ?_
      show Steps p.tables e below (s₁.setTop (mkF m 10 #[.val (.int k)] [(.int (1 : Int32)), (.int k)])) _
      refine XS.icmpYes X0.here hx rfl (pc0 := 10) (pc' := 17) rfl (hb hby own_d_method_2_10) rfl (feq q1).2 (by decide) (by decide) ?_
      show Steps p.tables e below (s₁.setTop (mkF m 17 #[.val (.int k)] [])) _
      refine XS.iloadN X0.here hx rfl (hb hby own_d_method_2_17) rfl ?_
      show Steps p.tables e below (s₁.setTop (mkF m 18 #[.val (.int k)] [(.int k)])) _
      refine XS.iconst X0.here hx rfl (hb hby own_d_method_2_18) ?_
      show Steps p.tables e below (s₁.setTop (mkF m 19 #[.val (.int k)] [(.int (2 : Int32)), (.int k)])) _
      refine XS.icmpYes X0.here hx rfl (pc0 := 19) (pc' := 26) rfl (hb hby own_d_method_2_19) rfl (feq q2).2 (by decide) (by decide) ?_
      show Steps p.tables e below (s₁.setTop (mkF m 26 #[.val (.int k)] [])) _
      refine XS.iloadN X0.here hx rfl (hb hby own_d_method_2_26) rfl ?_
      show Steps p.tables e below (s₁.setTop (mkF m 27 #[.val (.int k)] [(.int k)])) _
      refine XS.iconst X0.here hx rfl (hb hby own_d_method_2_27) ?_
      show Steps p.tables e below (s₁.setTop (mkF m 28 #[.val (.int k)] [(.int (3 : Int32)), (.int k)])) _
      refine XS.icmpYes X0.here hx rfl (pc0 := 28) (pc' := 35) rfl (hb hby own_d_method_2_28) rfl (feq q3).2 (by decide) (by decide) ?_
      show Steps p.tables e below (s₁.setTop (mkF m 35 #[.val (.int k)] [])) _
      refine XS.iloadN X0.here hx rfl (hb hby own_d_method_2_35) rfl ?_
      show Steps p.tables e below (s₁.setTop (mkF m 36 #[.val (.int k)] [(.int k)])) _
      refine XS.iconst X0.here hx rfl (hb hby own_d_method_2_36) ?_
      show Steps p.tables e below (s₁.setTop (mkF m 37 #[.val (.int k)] [(.int (4 : Int32)), (.int k)])) _
      refine XS.icmpYes X0.here hx rfl (pc0 := 37) (pc' := 44) rfl (hb hby own_d_method_2_37) rfl (feq q4).2 (by decide) (by decide) ?_
      show Steps p.tables e below (s₁.setTop (mkF m 44 #[.val (.int k)] [])) _
      refine st6 _ ?_
      show Steps p.tables e below (T6.setTop (mkF m 47 #[.val (.int k)] [(.ref b_GREATER_OR_EQUAL)])) _
      exact own_retA X6 hx (by first | rfl | decide) rfl Bd.returns (hb hby own_d_method_2_47) hr
    · show rm_pick_Q Z k b_EQUAL b_NOT_EQUAL b_LESS b_LESS_OR_EQUAL b_GREATER b_GREATER_OR_EQUAL h0 n0 _ T6.heap _
      rw [e6]
      exact ⟨by simp [own_sel, q0, q1, q2, q3, q4], N0, rfl⟩
  · obtain ⟨T1, X1, e1, st1⟩ := getS X0 hx hZ (host := "") hown (hw _ (List.mem_of_getElem? (i := 5) rfl)) Via.refl e0 S_EQUAL (g := (mkF m 4 #[.val (.int k)] [])) rfl (hb hby own_d_method_2_4)
    obtain ⟨fs, hr, hrun, hended, hW, hsame⟩ := X1.leave (v := some (.ref b_EQUAL)) (fun h => by rw [Bd.returns] at h; cases h)
    refine ⟨_, _, pre0 _ ?_, hrun, hended, _, _, rfl, ?_, ⟨_, rfl⟩, hW, hsame.mono (by decide) (by decide)⟩
    · show Steps p.tables e below (s₁.setTop (mkF m 0 #[.val (.int k)] [])) _
      refine XS.iloadN X0.here hx rfl (hb hby own_d_method_2_0) rfl ?_
      show Steps p.tables e below (s₁.setTop (mkF m 1 #[.val (.int k)] [(.int k)])) _
      refine XS.ifNo X0.here hx rfl (hb hby own_d_method_2_1) rfl ((if0 _ _).trans (teq q0).2) ?_
      show Steps p.tables e below (s₁.setTop (mkF m 4 #[.val (.int k)] [])) _
      refine st1 _ ?_
      show Steps p.tables e below (T1.setTop (mkF m 7 #[.val (.int k)] [(.ref b_EQUAL)])) _
      exact own_retA X1 hx (by first | rfl | decide) rfl Bd.returns (hb hby own_d_method_2_7) hr
    · show rm_pick_Q Z k b_EQUAL b_NOT_EQUAL b_LESS b_LESS_OR_EQUAL b_GREATER b_GREATER_OR_EQUAL h0 n0 _ T1.heap _
      rw [e1]
      exact ⟨by simp [own_sel, q0], N0, rfl⟩
  · obtain ⟨T2, X2, e2, st2⟩ := getS X0 hx hZ (host := "") hown (hw _ (List.mem_of_getElem? (i := 34) rfl)) Via.refl e0 S_NOT_EQUAL (g := (mkF m 13 #[.val (.int k)] [])) rfl (hb hby own_d_method_2_13)
    obtain ⟨fs, hr, hrun, hended, hW, hsame⟩ := X2.leave (v := some (.ref b_NOT_EQUAL)) (fun h => by rw [Bd.returns] at h; cases h)
    refine ⟨_, _, pre0 _ ?_, hrun, hended, _, _, rfl, ?_, ⟨_, rfl⟩, hW, hsame.mono (by decide) (by decide)⟩
    · show Steps p.tables e below (s₁.setTop (mkF m 0 #[.val (.int k)] [])) _
      refine XS.iloadN X0.here hx rfl (hb hby own_d_method_2_0) rfl ?_
      show Steps p.tables e below (s₁.setTop (mkF m 1 #[.val (.int k)] [(.int k)])) _
      refine XS.ifYes X0.here hx rfl (pc0 := 1) (pc' := 8) rfl (hb hby own_d_method_2_1) rfl ((if0 _ _).trans (feq q0).2) (by decide) (by decide) ?_
      show Steps p.tables e below (s₁.setTop (mkF m 8 #[.val (.int k)] [])) _
      refine XS.iloadN X0.here hx rfl (hb hby own_d_method_2_8) rfl ?_
      show Steps p.tables e below (s₁.setTop (mkF m 9 #[.val (.int k)] [(.int k)])) _
      refine XS.iconst X0.here hx rfl (hb hby own_d_method_2_9) ?_
      show Steps p.tables e below (s₁.setTop (mkF m 10 #[.val (.int k)] [(.int (1 : Int32)), (.int k)])) _
      refine XS.icmpNo X0.here hx rfl (hb hby own_d_method_2_10) rfl (teq q1).2 ?_
      show Steps p.tables e below (s₁.setTop (mkF m 13 #[.val (.int k)] [])) _
      refine st2 _ ?_
      show Steps p.tables e below (T2.setTop (mkF m 16 #[.val (.int k)] [(.ref b_NOT_EQUAL)])) _
      exact own_retA X2 hx (by first | rfl | decide) rfl Bd.returns (hb hby own_d_method_2_16) hr
    · show rm_pick_Q Z k b_EQUAL b_NOT_EQUAL b_LESS b_LESS_OR_EQUAL b_GREATER b_GREATER_OR_EQUAL h0 n0 _ T2.heap _
      rw [e2]
      exact ⟨by simp [own_sel, q0, q1], N0, rfl⟩
  · obtain ⟨T3, X3, e3, st3⟩ := getS X0 hx hZ (host := "") hown (hw _ (List.mem_of_getElem? (i := 32) rfl)) Via.refl e0 S_LESS (g := (mkF m 22 #[.val (.int k)] [])) rfl (hb hby own_d_method_2_22)
    obtain ⟨fs, hr, hrun, hended, hW, hsame⟩ := X3.leave (v := some (.ref b_LESS)) (fun h => by rw [Bd.returns] at h; cases h)
    refine ⟨_, _, pre0 _ ?_, hrun, hended, _, _, rfl, ?_, ⟨_, rfl⟩, hW, hsame.mono (by decide) (by decide)⟩
    · show Steps p.tables e below (s₁.setTop (mkF m 0 #[.val (.int k)] [])) _
      refine XS.iloadN X0.here hx rfl (hb hby own_d_method_2_0) rfl ?_
      show Steps p.tables e below (s₁.setTop (mkF m 1 #[.val (.int k)] [(.int k)])) _
      refine XS.ifYes X0.here hx rfl (pc0 := 1) (pc' := 8) rfl (hb hby own_d_method_2_1) rfl ((if0 _ _).trans (feq q0).2) (by decide) (by decide) ?_
      show Steps p.tables e below (s₁.setTop (mkF m 8 #[.val (.int k)] [])) _
      refine XS.iloadN X0.here hx rfl (hb hby own_d_method_2_8) rfl ?_
      show Steps p.tables e below (s₁.setTop (mkF m 9 #[.val (.int k)] [(.int k)])) _
      refine XS.iconst X0.here hx rfl (hb hby own_d_method_2_9) ?_
      show Steps p.tables e below (s₁.setTop (mkF m 10 #[.val (.int k)] [(.int (1 : Int32)), (.int k)])) _
      refine XS.icmpYes X0.here hx rfl (pc0 := 10) (pc' := 17) rfl (hb hby own_d_method_2_10) rfl (feq q1).2 (by decide) (by decide) ?_
      show Steps p.tables e below (s₁.setTop (mkF m 17 #[.val (.int k)] [])) _
      refine XS.iloadN X0.here hx rfl (hb hby own_d_method_2_17) rfl ?_
      show Steps p.tables e below (s₁.setTop (mkF m 18 #[.val (.int k)] [(.int k)])) _
      refine XS.iconst X0.here hx rfl (hb hby own_d_method_2_18) ?_
      show Steps p.tables e below (s₁.setTop (mkF m 19 #[.val (.int k)] [(.int (2 : Int32)), (.int k)])) _
      refine XS.icmpNo X0.here hx rfl (hb hby own_d_method_2_19) rfl (teq q2).2 ?_
      show Steps p.tables e below (s₁.setTop (mkF m 22 #[.val (.int k)] [])) _
      refine st3 _ ?_
      show Steps p.tables e below (T3.setTop (mkF m 25 #[.val (.int k)] [(.ref b_LESS)])) _
      exact own_retA X3 hx (by first | rfl | decide) rfl Bd.returns (hb hby own_d_method_2_25) hr
    · show rm_pick_Q Z k b_EQUAL b_NOT_EQUAL b_LESS b_LESS_OR_EQUAL b_GREATER b_GREATER_OR_EQUAL h0 n0 _ T3.heap _
      rw [e3]
      exact ⟨by simp [own_sel, q0, q1, q2], N0, rfl⟩
  · obtain ⟨T4, X4, e4, st4⟩ := getS X0 hx hZ (host := "") hown (hw _ (List.mem_of_getElem? (i := 28) rfl)) Via.refl e0 S_LESS_OR_EQUAL (g := (mkF m 31 #[.val (.int k)] [])) rfl (hb hby own_d_method_2_31)
    obtain ⟨fs, hr, hrun, hended, hW, hsame⟩ := X4.leave (v := some (.ref b_LESS_OR_EQUAL)) (fun h => by rw [Bd.returns] at h; cases h)
    refine ⟨_, _, pre0 _ ?_, hrun, hended, _, _, rfl, ?_, ⟨_, rfl⟩, hW, hsame.mono (by decide) (by decide)⟩
    · show Steps p.tables e below (s₁.setTop (mkF m 0 #[.val (.int k)] [])) _
      refine XS.iloadN X0.here hx rfl (hb hby own_d_method_2_0) rfl ?_
      show Steps p.tables e below (s₁.setTop (mkF m 1 #[.val (.int k)] [(.int k)])) _
      refine XS.ifYes X0.here hx rfl (pc0 := 1) (pc' := 8) rfl (hb hby own_d_method_2_1) rfl ((if0 _ _).trans (feq q0).2) (by decide) (by decide) ?_
      show Steps p.tables e below (s₁.setTop (mkF m 8 #[.val (.int k)] [])) _
      refine XS.iloadN X0.here hx rfl (hb hby own_d_method_2_8) rfl ?_
      show Steps p.tables e below (s₁.setTop (mkF m 9 #[.val (.int k)] [(.int k)])) _
      refine XS.iconst X0.here hx rfl (hb hby own_d_method_2_9) ?_
      show Steps p.tables e below (s₁.setTop (mkF m 10 #[.val (.int k)] [(.int (1 : Int32)), (.int k)])) _
      refine XS.icmpYes X0.here hx rfl (pc0 := 10) (pc' := 17) rfl (hb hby own_d_method_2_10) rfl (feq q1).2 (by decide) (by decide) ?_
      show Steps p.tables e below (s₁.setTop (mkF m 17 #[.val (.int k)] [])) _
      refine XS.iloadN X0.here hx rfl (hb hby own_d_method_2_17) rfl ?_
      show Steps p.tables e below (s₁.setTop (mkF m 18 #[.val (.int k)] [(.int k)])) _
      refine XS.iconst X0.here hx rfl (hb hby own_d_method_2_18) ?_
      show Steps p.tables e below (s₁.setTop (mkF m 19 #[.val (.int k)] [(.int (2 : Int32)), (.int k)])) _
      refine XS.icmpYes X0.here hx rfl (pc0 := 19) (pc' := 26) rfl (hb hby own_d_method_2_19) rfl (feq q2).2 (by decide) (by decide) ?_
      show Steps p.tables e below (s₁.setTop (mkF m 26 #[.val (.int k)] [])) _
      refine XS.iloadN X0.here hx rfl (hb hby own_d_method_2_26) rfl ?_
      show Steps p.tables e below (s₁.setTop (mkF m 27 #[.val (.int k)] [(.int k)])) _
      refine XS.iconst X0.here hx rfl (hb hby own_d_method_2_27) ?_
      show Steps p.tables e below (s₁.setTop (mkF m 28 #[.val (.int k)] [(.int (3 : Int32)), (.int k)])) _
      refine XS.icmpNo X0.here hx rfl (hb hby own_d_method_2_28) rfl (teq q3).2 ?_
      show Steps p.tables e below (s₁.setTop (mkF m 31 #[.val (.int k)] [])) _
      refine st4 _ ?_
      show Steps p.tables e below (T4.setTop (mkF m 34 #[.val (.int k)] [(.ref b_LESS_OR_EQUAL)])) _
      exact own_retA X4 hx (by first | rfl | decide) rfl Bd.returns (hb hby own_d_method_2_34) hr
    · show rm_pick_Q Z k b_EQUAL b_NOT_EQUAL b_LESS b_LESS_OR_EQUAL b_GREATER b_GREATER_OR_EQUAL h0 n0 _ T4.heap _
      rw [e4]
      exact ⟨by simp [own_sel, q0, q1, q2, q3], N0, rfl⟩
  · obtain ⟨T5, X5, e5, st5⟩ := getS X0 hx hZ (host := "") hown (hw _ (List.mem_of_getElem? (i := 37) rfl)) Via.refl e0 S_GREATER (g := (mkF m 40 #[.val (.int k)] [])) rfl (hb hby own_d_method_2_40)
    obtain ⟨fs, hr, hrun, hended, hW, hsame⟩ := X5.leave (v := some (.ref b_GREATER)) (fun h => by rw [Bd.returns] at h; cases h)
    refine ⟨_, _, pre0 _ ?_, hrun, hended, _, _, rfl, ?_, ⟨_, rfl⟩, hW, hsame.mono (by decide) (by decide)⟩
    · show Steps p.tables e below (s₁.setTop (mkF m 0 #[.val (.int k)] [])) _
      refine XS.iloadN X0.here hx rfl (hb hby own_d_method_2_0) rfl ?_
      show Steps p.tables e below (s₁.setTop (mkF m 1 #[.val (.int k)] [(.int k)])) _
      refine XS.ifYes X0.here hx rfl (pc0 := 1) (pc' := 8) rfl (hb hby own_d_method_2_1) rfl ((if0 _ _).trans (feq q0).2) (by decide) (by decide) ?_
      show Steps p.tables e below (s₁.setTop (mkF m 8 #[.val (.int k)] [])) _
      refine XS.iloadN X0.here hx rfl (hb hby own_d_method_2_8) rfl ?_
      show Steps p.tables e below (s₁.setTop (mkF m 9 #[.val (.int k)] [(.int k)])) _
      refine XS.iconst X0.here hx rfl (hb hby own_d_method_2_9) ?_
      show Steps p.tables e below (s₁.setTop (mkF m 10 #[.val (.int k)] [(.int (1 : Int32)), (.int k)])) _
      refine XS.icmpYes X0.here hx rfl (pc0 := 10) (pc' := 17) rfl (hb hby own_d_method_2_10) rfl (feq q1).2 (by decide) (by decide) ?_
      show Steps p.tables e below (s₁.setTop (mkF m 17 #[.val (.int k)] [])) _
      refine XS.iloadN X0.here hx rfl (hb hby own_d_method_2_17) rfl ?_
      show Steps p.tables e below (s₁.setTop (mkF m 18 #[.val (.int k)] [(.int k)])) _
      refine XS.iconst X0.here hx rfl (hb hby own_d_method_2_18) ?_
      show Steps p.tables e below (s₁.setTop (mkF m 19 #[.val (.int k)] [(.int (2 : Int32)), (.int k)])) _
      refine XS.icmpYes X0.here hx rfl (pc0 := 19) (pc' := 26) rfl (hb hby own_d_method_2_19) rfl (feq q2).2 (by decide) (by decide) ?_
      show Steps p.tables e below (s₁.setTop (mkF m 26 #[.val (.int k)] [])) _
      refine XS.iloadN X0.here hx rfl (hb hby own_d_method_2_26) rfl ?_
      show Steps p.tables e below (s₁.setTop (mkF m 27 #[.val (.int k)] [(.int k)])) _
      refine XS.iconst X0.here hx rfl (hb hby own_d_method_2_27) ?_
      show Steps p.tables e below (s₁.setTop (mkF m 28 #[.val (.int k)] [(.int (3 : Int32)), (.int k)])) _
      refine XS.icmpYes X0.here hx rfl (pc0 := 28) (pc' := 35) rfl (hb hby own_d_method_2_28) rfl (feq q3).2 (by decide) (by decide) ?_
      show Steps p.tables e below (s₁.setTop (mkF m 35 #[.val (.int k)] [])) _
      refine XS.iloadN X0.here hx rfl (hb hby own_d_method_2_35) rfl ?_
      show Steps p.tables e below (s₁.setTop (mkF m 36 #[.val (.int k)] [(.int k)])) _
      refine XS.iconst X0.here hx rfl (hb hby own_d_method_2_36) ?_
      show Steps p.tables e below (s₁.setTop (mkF m 37 #[.val (.int k)] [(.int (4 : Int32)), (.int k)])) _
      refine XS.icmpNo X0.here hx rfl (hb hby own_d_method_2_37) rfl (teq q4).2 ?_
      show Steps p.tables e below (s₁.setTop (mkF m 40 #[.val (.int k)] [])) _
      refine st5 _ ?_
      show Steps p.tables e below (T5.setTop (mkF m 43 #[.val (.int k)] [(.ref b_GREATER)])) _
      exact own_retA X5 hx (by first | rfl | decide) rfl Bd.returns (hb hby own_d_method_2_43) hr
    · show rm_pick_Q Z k b_EQUAL b_NOT_EQUAL b_LESS b_LESS_OR_EQUAL b_GREATER b_GREATER_OR_EQUAL h0 n0 _ T5.heap _
      rw [e5]
      exact ⟨by simp [own_sel, q0, q1, q2, q3, q4], N0, rfl⟩
theorem rm_ord_ef (m : MethodId) (x0 : Addr) : entryFrame m #[(.ref x0)] 1 = mkF m 0 #[.val (.ref x0)] [] := by first | (simp [entryFrame, mkF, argsToLocals, Value.category]; done) | rfl
def rm_ord_Q (Z : State) (a : Addr) (b_EQUAL : Addr) (b_NOT_EQUAL : Addr) (h0 : Heap) (n0 : Nat) (v : Option Value) (h : Heap) (L : List Loc) : Prop := v = some (.int (if a = b_EQUAL ∨ a = b_NOT_EQUAL then (0 : Int32) else (1 : Int32))) ∧ Fr n0 L ∧ h = h0
set_option maxRecDepth 65536 in
set_option maxHeartbeats 40000000 in
theorem rm_ord (l : Launch) (Z : State) (a0 : Array Value) (hw : ∀ d ∈ tables_1, d.before a0 Z = true) (ws : List Jvm.Cond) (a : Addr) (b_EQUAL : Addr) (b_NOT_EQUAL : Addr) (h0 : Heap) (n0 : Nat) (Z0 : n0 ≤ h0.size) (S_EQUAL : Sta Z h0 "com/example/occurrence/occurrence/colour/Guard$Relation" "EQUAL" "Lcom/example/occurrence/occurrence/colour/Guard$Relation;" (.ref b_EQUAL)) (S_NOT_EQUAL : Sta Z h0 "com/example/occurrence/occurrence/colour/Guard$Relation" "NOT_EQUAL" "Lcom/example/occurrence/occurrence/colour/Guard$Relation;" (.ref b_NOT_EQUAL)) :
    MetFree l (⟨"com/example/occurrence/occurrence/colour/Guard$Relation", "isOrder", "()Z"⟩ : MethodName) (head1 (Jvm.Cond.code (⟨"com/example/occurrence/occurrence/colour/Guard$Relation", "isOrder", "()Z"⟩ : MethodName) prog_23_method_4_code 1 (some .boolean) :: ws) ({ frames := 0, cells := 0, slots := 0, locals := 0 } : Room)) (fun a₀ U₀ => a₀ = #[(.ref a)] ∧ Z.Warmed39 U₀.vm ∧ U₀.heap = h0) (fun _ _ _ _ _ => True) (fun _ U₀ o₀ U₁ => ∃ v₀ L₀, o₀ = .returned v₀ ∧ rm_ord_Q Z a b_EQUAL b_NOT_EQUAL h0 n0 v₀ U₁.heap L₀ ∧ FrameEnd U₀ o₀ U₁ L₀ ({ frames := 0, cells := 0, slots := 0, locals := 0 } : Room).cells ({ frames := 0, cells := 0, slots := 0, locals := 0 } : Room).slots) := by
  refine MetFree.of_bodySF (plainFor_of_name own_pn1) hisR ?_
  intro p e s m args below meth c s₁ Bd hml0 hP hK
  obtain ⟨rfl, hZ, hh⟩ := hP
  have hx := Bd.exec
  have hby := Bd.bytes
  have hml : c.maxLocals = 1 := hml0
  have hown : s.vm.findClass "com/example/occurrence/occurrence/colour/Guard$Relation" = some m.cls := findClass_of_methodNamed Bd.named
  have hnm := (name_of_methodNamed Bd.named Bd.method).1
  have X0 : Stand p l e ({ frames := 0, cells := 0, slots := 0, locals := 0 } : Room) s m #[(.ref a)] below meth c s₁ [] 0 0 := Stand.of_body Bd
  have e0 : s₁.heap = h0 := by rw [← hh, Bd.state]; rfl
  have N0 := Fr.nil n0
  have pre0 : ∀ t, Steps p.tables e below (s₁.setTop (mkF m 0 #[.val (.ref a)] [])) t → Steps p.tables e below (s₁.setTop (entryFrame m #[(.ref a)] 1)) t := fun t kk₀ => castTop (rm_ord_ef m a) kk₀
  by_cases q0 : a = b_EQUAL
  rotate_left
  by_cases q1 : a = b_NOT_EQUAL
  rotate_left
  · obtain ⟨T10, X10, e10, st10⟩ := getS X0 hx hZ (host := "") hown (hw _ (List.mem_of_getElem? (i := 13) rfl)) Via.refl e0 S_EQUAL (g := (mkF m 1 #[.val (.ref a)] [(.ref a)])) rfl (hb hby own_d_prog_23_method_4_1)
    obtain ⟨T11, X11, e11, st11⟩ := getS X10 hx hZ (host := "") hown (hw _ (List.mem_of_getElem? (i := 30) rfl)) Via.refl e10 S_NOT_EQUAL (g := (mkF m 8 #[.val (.ref a)] [(.ref a)])) rfl (hb hby own_d_prog_23_method_4_8)
    obtain ⟨fs, hr, hrun, hended, hW, hsame⟩ := X11.leave (v := some (.int (1 : Int32))) (fun h => by rw [Bd.returns] at h; cases h)
    refine ⟨_, _, pre0 _ ?_, hrun, hended, _, _, rfl, ?_, ⟨_, rfl⟩, hW, hsame.mono (by decide) (by decide)⟩
    · show Steps p.tables e below (s₁.setTop (mkF m 0 #[.val (.ref a)] [])) _
      refine XS.aloadN X0.here hx rfl (hb hby own_d_prog_23_method_4_0) rfl rfl ?_
      show Steps p.tables e below (s₁.setTop (mkF m 1 #[.val (.ref a)] [(.ref a)])) _
      refine st10 _ ?_
      show Steps p.tables e below (T10.setTop (mkF m 4 #[.val (.ref a)] [(.ref b_EQUAL), (.ref a)])) _
      refine Jvm.RoadKit.acmp (g := (mkF m 4 #[.val (.ref a)] [(.ref b_EQUAL), (.ref a)])) X10 hx rfl rfl rfl (pc0 := 4) (pc' := 7) (same := false) rfl (hb hby own_d_prog_23_method_4_4) rfl (decide_eq_false (own_ref_ne q0)) (by decide) (by decide) ?_
      show Steps p.tables e below (T10.setTop (mkF m 7 #[.val (.ref a)] [])) _
      refine XS.aloadN X10.here hx rfl (hb hby own_d_prog_23_method_4_7) rfl rfl ?_
      show Steps p.tables e below (T10.setTop (mkF m 8 #[.val (.ref a)] [(.ref a)])) _
      refine st11 _ ?_
      show Steps p.tables e below (T11.setTop (mkF m 11 #[.val (.ref a)] [(.ref b_NOT_EQUAL), (.ref a)])) _
      refine Jvm.RoadKit.acmp (g := (mkF m 11 #[.val (.ref a)] [(.ref b_NOT_EQUAL), (.ref a)])) X11 hx rfl rfl rfl (pc0 := 11) (pc' := 14) (same := false) rfl (hb hby own_d_prog_23_method_4_11) rfl (decide_eq_false (own_ref_ne q1)) (by decide) (by decide) ?_
      show Steps p.tables e below (T11.setTop (mkF m 14 #[.val (.ref a)] [])) _
      refine XS.iconst X11.here hx rfl (hb hby own_d_prog_23_method_4_14) ?_
      show Steps p.tables e below (T11.setTop (mkF m 15 #[.val (.ref a)] [(.int (1 : Int32))])) _
      refine XS.goto X11.here hx rfl (pc0 := 15) (pc' := 19) rfl (hb hby own_d_prog_23_method_4_15) (by decide) (by decide) ?_
      show Steps p.tables e below (T11.setTop (mkF m 19 #[.val (.ref a)] [(.int (1 : Int32))])) _
      exact own_retZ X11 hx rfl Bd.returns (hb hby own_d_prog_23_method_4_19) hr
    · show rm_ord_Q Z a b_EQUAL b_NOT_EQUAL h0 n0 _ T11.heap _
      rw [e11]
      exact ⟨by simp [q0, q1], N0, rfl⟩
  · obtain ⟨T7, X7, e7, st7⟩ := getS X0 hx hZ (host := "") hown (hw _ (List.mem_of_getElem? (i := 13) rfl)) Via.refl e0 S_EQUAL (g := (mkF m 1 #[.val (.ref a)] [(.ref a)])) rfl (hb hby own_d_prog_23_method_4_1)
    obtain ⟨fs, hr, hrun, hended, hW, hsame⟩ := X7.leave (v := some (.int (0 : Int32))) (fun h => by rw [Bd.returns] at h; cases h)
    refine ⟨_, _, pre0 _ ?_, hrun, hended, _, _, rfl, ?_, ⟨_, rfl⟩, hW, hsame.mono (by decide) (by decide)⟩
    · show Steps p.tables e below (s₁.setTop (mkF m 0 #[.val (.ref a)] [])) _
      refine XS.aloadN X0.here hx rfl (hb hby own_d_prog_23_method_4_0) rfl rfl ?_
      show Steps p.tables e below (s₁.setTop (mkF m 1 #[.val (.ref a)] [(.ref a)])) _
      refine st7 _ ?_
      show Steps p.tables e below (T7.setTop (mkF m 4 #[.val (.ref a)] [(.ref b_EQUAL), (.ref a)])) _
      refine Jvm.RoadKit.acmp (g := (mkF m 4 #[.val (.ref a)] [(.ref b_EQUAL), (.ref a)])) X7 hx rfl rfl rfl (pc0 := 4) (pc' := 18) (same := true) rfl (hb hby own_d_prog_23_method_4_4) rfl (decide_eq_true (own_ref_eq q0)) (by decide) (by decide) ?_
      show Steps p.tables e below (T7.setTop (mkF m 18 #[.val (.ref a)] [])) _
      refine XS.iconst X7.here hx rfl (hb hby own_d_prog_23_method_4_18) ?_
      show Steps p.tables e below (T7.setTop (mkF m 19 #[.val (.ref a)] [(.int (0 : Int32))])) _
      exact own_retZ X7 hx rfl Bd.returns (hb hby own_d_prog_23_method_4_19) hr
    · show rm_ord_Q Z a b_EQUAL b_NOT_EQUAL h0 n0 _ T7.heap _
      rw [e7]
      exact ⟨by simp [q0], N0, rfl⟩
  · obtain ⟨T8, X8, e8, st8⟩ := getS X0 hx hZ (host := "") hown (hw _ (List.mem_of_getElem? (i := 13) rfl)) Via.refl e0 S_EQUAL (g := (mkF m 1 #[.val (.ref a)] [(.ref a)])) rfl (hb hby own_d_prog_23_method_4_1)
    obtain ⟨T9, X9, e9, st9⟩ := getS X8 hx hZ (host := "") hown (hw _ (List.mem_of_getElem? (i := 30) rfl)) Via.refl e8 S_NOT_EQUAL (g := (mkF m 8 #[.val (.ref a)] [(.ref a)])) rfl (hb hby own_d_prog_23_method_4_8)
    obtain ⟨fs, hr, hrun, hended, hW, hsame⟩ := X9.leave (v := some (.int (0 : Int32))) (fun h => by rw [Bd.returns] at h; cases h)
    refine ⟨_, _, pre0 _ ?_, hrun, hended, _, _, rfl, ?_, ⟨_, rfl⟩, hW, hsame.mono (by decide) (by decide)⟩
    · show Steps p.tables e below (s₁.setTop (mkF m 0 #[.val (.ref a)] [])) _
      refine XS.aloadN X0.here hx rfl (hb hby own_d_prog_23_method_4_0) rfl rfl ?_
      show Steps p.tables e below (s₁.setTop (mkF m 1 #[.val (.ref a)] [(.ref a)])) _
      refine st8 _ ?_
      show Steps p.tables e below (T8.setTop (mkF m 4 #[.val (.ref a)] [(.ref b_EQUAL), (.ref a)])) _
      refine Jvm.RoadKit.acmp (g := (mkF m 4 #[.val (.ref a)] [(.ref b_EQUAL), (.ref a)])) X8 hx rfl rfl rfl (pc0 := 4) (pc' := 7) (same := false) rfl (hb hby own_d_prog_23_method_4_4) rfl (decide_eq_false (own_ref_ne q0)) (by decide) (by decide) ?_
      show Steps p.tables e below (T8.setTop (mkF m 7 #[.val (.ref a)] [])) _
      refine XS.aloadN X8.here hx rfl (hb hby own_d_prog_23_method_4_7) rfl rfl ?_
      show Steps p.tables e below (T8.setTop (mkF m 8 #[.val (.ref a)] [(.ref a)])) _
      refine st9 _ ?_
      show Steps p.tables e below (T9.setTop (mkF m 11 #[.val (.ref a)] [(.ref b_NOT_EQUAL), (.ref a)])) _
      refine Jvm.RoadKit.acmp (g := (mkF m 11 #[.val (.ref a)] [(.ref b_NOT_EQUAL), (.ref a)])) X9 hx rfl rfl rfl (pc0 := 11) (pc' := 18) (same := true) rfl (hb hby own_d_prog_23_method_4_11) rfl (decide_eq_true (own_ref_eq q1)) (by decide) (by decide) ?_
      show Steps p.tables e below (T9.setTop (mkF m 18 #[.val (.ref a)] [])) _
      refine XS.iconst X9.here hx rfl (hb hby own_d_prog_23_method_4_18) ?_
      show Steps p.tables e below (T9.setTop (mkF m 19 #[.val (.ref a)] [(.int (0 : Int32))])) _
      exact own_retZ X9 hx rfl Bd.returns (hb hby own_d_prog_23_method_4_19) hr
    · show rm_ord_Q Z a b_EQUAL b_NOT_EQUAL h0 n0 _ T9.heap _
      rw [e9]
      exact ⟨by simp [q1], N0, rfl⟩
theorem rm_ordinal_ef (m : MethodId) (x0 : Addr) : entryFrame m #[(.ref x0)] 1 = mkF m 0 #[.val (.ref x0)] [] := by first | (simp [entryFrame, mkF, argsToLocals, Value.category]; done) | rfl
def rm_ordinal_Q (Z : State) (a : Addr) (u : Int32) (h0 : Heap) (n0 : Nat) (v : Option Value) (h : Heap) (L : List Loc) : Prop := v = some (.int u) ∧ Fr n0 L ∧ h = h0
set_option maxRecDepth 65536 in
set_option maxHeartbeats 40000000 in
theorem rm_ordinal (l : Launch) (Z : State) (a0 : Array Value) (hw : ∀ d ∈ tables_1, d.before a0 Z = true) (ws : List Jvm.Cond) (a : Addr) (u : Int32) (h0 : Heap) (n0 : Nat) (Z0 : n0 ≤ h0.size) (Fu : Fld Z h0 a "java/lang/Enum" "ordinal" "I" (.int u)) :
    MetFree l (⟨"java/lang/Enum", "ordinal", "()I"⟩ : MethodName) (head1 (Jvm.Cond.code (⟨"java/lang/Enum", "ordinal", "()I"⟩ : MethodName) jdk_37_method_2_code 1 (some .int) :: ws) ({ frames := 0, cells := 0, slots := 0, locals := 0 } : Room)) (fun a₀ U₀ => a₀ = #[(.ref a)] ∧ Z.Warmed39 U₀.vm ∧ U₀.heap = h0) (fun _ _ _ _ _ => True) (fun _ U₀ o₀ U₁ => ∃ v₀ L₀, o₀ = .returned v₀ ∧ rm_ordinal_Q Z a u h0 n0 v₀ U₁.heap L₀ ∧ FrameEnd U₀ o₀ U₁ L₀ ({ frames := 0, cells := 0, slots := 0, locals := 0 } : Room).cells ({ frames := 0, cells := 0, slots := 0, locals := 0 } : Room).slots) := by
  refine MetFree.of_bodySF (plainFor_of_name own_pn2) hisR ?_
  intro p e s m args below meth c s₁ Bd hml0 hP hK
  obtain ⟨rfl, hZ, hh⟩ := hP
  have hx := Bd.exec
  have hby := Bd.bytes
  have hml : c.maxLocals = 1 := hml0
  have hown : s.vm.findClass "java/lang/Enum" = some m.cls := findClass_of_methodNamed Bd.named
  have hnm := (name_of_methodNamed Bd.named Bd.method).1
  have X0 : Stand p l e ({ frames := 0, cells := 0, slots := 0, locals := 0 } : Room) s m #[(.ref a)] below meth c s₁ [] 0 0 := Stand.of_body Bd
  have e0 : s₁.heap = h0 := by rw [← hh, Bd.state]; rfl
  have N0 := Fr.nil n0
  have pre0 : ∀ t, Steps p.tables e below (s₁.setTop (mkF m 0 #[.val (.ref a)] [])) t → Steps p.tables e below (s₁.setTop (entryFrame m #[(.ref a)] 1)) t := fun t kk₀ => castTop (rm_ordinal_ef m a) kk₀
  obtain ⟨T12, X12, e12, st12⟩ := getF X0 hx hZ hown (host := "") (Or.inl (hw _ (List.mem_of_getElem? (i := 26) rfl))) Via.refl e0 Fu (g := (mkF m 1 #[.val (.ref a)] [(.ref a)])) rfl rfl (hb hby own_d_jdk_37_method_2_1)
  obtain ⟨fs, hr, hrun, hended, hW, hsame⟩ := X12.leave (v := some (.int u)) (fun h => by rw [Bd.returns] at h; cases h)
  refine ⟨_, _, pre0 _ ?_, hrun, hended, _, _, rfl, ?_, ⟨_, rfl⟩, hW, hsame.mono (by decide) (by decide)⟩
  · show Steps p.tables e below (s₁.setTop (mkF m 0 #[.val (.ref a)] [])) _
    refine XS.aloadN X0.here hx rfl (hb hby own_d_jdk_37_method_2_0) rfl rfl ?_
    show Steps p.tables e below (s₁.setTop (mkF m 1 #[.val (.ref a)] [(.ref a)])) _
    refine st12 _ ?_
    show Steps p.tables e below (T12.setTop (mkF m 4 #[.val (.ref a)] [(.int u)])) _
    exact own_retI X12 hx Bd.returns (hb hby own_d_jdk_37_method_2_4) hr
  · show rm_ordinal_Q Z a u h0 n0 _ T12.heap _
    rw [e12]
    exact ⟨rfl, N0, rfl⟩
theorem rm_holds_ef (m : MethodId) (x0 : Addr) (x1 : Int32) (x2 : Int32) : entryFrame m #[(.ref x0), (.int x1), (.int x2)] 4 = mkF m 0 #[.val (.ref x0), .val (.int x1), .val (.int x2), .unset] [] := by first | (simp [entryFrame, mkF, argsToLocals, Value.category]; done) | rfl
def rm_holds_Q (Z : State) (a : Addr) (i : Int32) (j : Int32) (od : Int32) (h0 : Heap) (n0 : Nat) (v : Option Value) (h : Heap) (L : List Loc) : Prop := v = some (.int (own_holds od i j)) ∧ Fr n0 L ∧ h = h0
set_option maxRecDepth 65536 in
set_option maxHeartbeats 40000000 in
theorem rm_holds (l : Launch) (Z : State) (a0 : Array Value) (hw : ∀ d ∈ tables_1, d.before a0 Z = true) (ws : List Jvm.Cond) (a : Addr) (i : Int32) (j : Int32) (od : Int32) (h0 : Heap) (n0 : Nat) (Z0 : n0 ≤ h0.size) (Fo : Fld Z h0 a "java/lang/Enum" "ordinal" "I" (.int od)) (Eo : Exa Z h0 a "com/example/occurrence/occurrence/colour/Guard$Relation") (ho : od = (0 : Int32) ∨ od = (1 : Int32) ∨ od = (2 : Int32) ∨ od = (3 : Int32) ∨ od = (4 : Int32) ∨ od = (5 : Int32)) :
    MetFree l (⟨"com/example/occurrence/occurrence/colour/Guard$Relation", "holds", "(II)Z"⟩ : MethodName) (head1 (Jvm.Cond.code (⟨"com/example/occurrence/occurrence/colour/Guard$Relation", "holds", "(II)Z"⟩ : MethodName) prog_23_method_5_code 4 (some .boolean) :: ws) ({ frames := 1, cells := 0, slots := 0, locals := 12 } : Room)) (fun a₀ U₀ => a₀ = #[(.ref a), (.int i), (.int j)] ∧ Z.Warmed39 U₀.vm ∧ U₀.heap = h0) (fun _ _ _ _ _ => True) (fun _ U₀ o₀ U₁ => ∃ v₀ L₀, o₀ = .returned v₀ ∧ rm_holds_Q Z a i j od h0 n0 v₀ U₁.heap L₀ ∧ FrameEnd U₀ o₀ U₁ L₀ ({ frames := 1, cells := 0, slots := 0, locals := 12 } : Room).cells ({ frames := 1, cells := 0, slots := 0, locals := 12 } : Room).slots) := by
  refine MetFree.of_bodySF (plainFor_of_name own_pn1) hisR ?_
  intro p e s m args below meth c s₁ Bd hml0 hP hK
  obtain ⟨rfl, hZ, hh⟩ := hP
  have hx := Bd.exec
  have hby := Bd.bytes
  have hml : c.maxLocals = 4 := hml0
  have hown : s.vm.findClass "com/example/occurrence/occurrence/colour/Guard$Relation" = some m.cls := findClass_of_methodNamed Bd.named
  have hnm := (name_of_methodNamed Bd.named Bd.method).1
  have X0 : Stand p l e ({ frames := 1, cells := 0, slots := 0, locals := 12 } : Room) s m #[(.ref a), (.int i), (.int j)] below meth c s₁ [] 0 0 := Stand.of_body Bd
  have e0 : s₁.heap = h0 := by rw [← hh, Bd.state]; rfl
  have N0 := Fr.nil n0
  have pre0 : ∀ t, Steps p.tables e below (s₁.setTop (mkF m 0 #[.val (.ref a), .val (.int i), .val (.int j), .unset] [])) t → Steps p.tables e below (s₁.setTop (entryFrame m #[(.ref a), (.int i), (.int j)] 4)) t := fun t kk₀ => castTop (rm_holds_ef m a i j) kk₀
  have hcs : (od = (0 : Int32) ∧ i = j) ∨ (od = (0 : Int32) ∧ ¬ (i = j)) ∨ (od = (1 : Int32) ∧ i = j) ∨ (od = (1 : Int32) ∧ ¬ (i = j)) ∨ (od = (2 : Int32) ∧ i < j) ∨ (od = (2 : Int32) ∧ ¬ (i < j)) ∨ (od = (3 : Int32) ∧ j < i) ∨ (od = (3 : Int32) ∧ ¬ (j < i)) ∨ (od = (4 : Int32) ∧ j < i) ∨ (od = (4 : Int32) ∧ ¬ (j < i)) ∨ (od = (5 : Int32) ∧ i < j) ∨ (od = (5 : Int32) ∧ ¬ (i < j)) := by
    rcases ho with q | q | q | q | q | q
    · by_cases r : i = j
      · exact Or.inl (⟨q, r⟩)
      · exact Or.inr (Or.inl (⟨q, r⟩))
    · by_cases r : i = j
      · exact Or.inr (Or.inr (Or.inl (⟨q, r⟩)))
      · exact Or.inr (Or.inr (Or.inr (Or.inl (⟨q, r⟩))))
    · by_cases r : i < j
      · exact Or.inr (Or.inr (Or.inr (Or.inr (Or.inl (⟨q, r⟩)))))
      · exact Or.inr (Or.inr (Or.inr (Or.inr (Or.inr (Or.inl (⟨q, r⟩))))))
    · by_cases r : j < i
      · exact Or.inr (Or.inr (Or.inr (Or.inr (Or.inr (Or.inr (Or.inl (⟨q, r⟩)))))))
      · exact Or.inr (Or.inr (Or.inr (Or.inr (Or.inr (Or.inr (Or.inr (Or.inl (⟨q, r⟩))))))))
    · by_cases r : j < i
      · exact Or.inr (Or.inr (Or.inr (Or.inr (Or.inr (Or.inr (Or.inr (Or.inr (Or.inl (⟨q, r⟩)))))))))
      · exact Or.inr (Or.inr (Or.inr (Or.inr (Or.inr (Or.inr (Or.inr (Or.inr (Or.inr (Or.inl (⟨q, r⟩))))))))))
    · by_cases r : i < j
      · exact Or.inr (Or.inr (Or.inr (Or.inr (Or.inr (Or.inr (Or.inr (Or.inr (Or.inr (Or.inr (Or.inl (⟨q, r⟩)))))))))))
      · exact Or.inr (Or.inr (Or.inr (Or.inr (Or.inr (Or.inr (Or.inr (Or.inr (Or.inr (Or.inr (Or.inr (⟨q, r⟩)))))))))))
  rcases hcs with ⟨q, r⟩ | ⟨q, r⟩ | ⟨q, r⟩ | ⟨q, r⟩ | ⟨q, r⟩ | ⟨q, r⟩ | ⟨q, r⟩ | ⟨q, r⟩ | ⟨q, r⟩ | ⟨q, r⟩ | ⟨q, r⟩ | ⟨q, r⟩
  · obtain ⟨cq13, kq13, q13a, q13b, q13c⟩ := isOf hZ e0 Eo
    obtain ⟨_, _, ⟨T13, L13, k13, n13⟩, -, X13, ⟨Lc13, hQ13, l13, y13, z13⟩, st13⟩ := X0.virtualBackUp hx (x := (⟨"com/example/occurrence/occurrence/colour/Guard$Relation", "ordinal", "()I"⟩ : MethodName)) (y := (⟨"java/lang/Enum", "ordinal", "()I"⟩ : MethodName)) (owner := "java/lang/Enum") hown (mvT hZ (hw _ (List.mem_of_getElem? (i := 19) rfl))) (mvT hZ (hw _ (List.mem_of_getElem? (i := 20) rfl))) (mvT hZ (hw _ (List.mem_of_getElem? (i := 21) rfl))) (by decide) (mvT hZ (hw _ (List.mem_of_getElem? (i := 23) rfl))) (mvT hZ (hw _ (List.mem_of_getElem? (i := 22) rfl))) (backOf (W := 0) (rm_ordinal l Z a0 hw [] a od h0 n0 Z0 Fo) hZ (hw _ (List.mem_of_getElem? (i := 25) rfl)) (hw _ (List.mem_of_getElem? (i := 24) rfl)) (by decide) (by decide)) q13a q13c (g := (mkF m 1 #[.val (.ref a), .val (.int i), .val (.int j), .unset] [(.ref a)])) rfl (by rw [hml]; rfl) (Steps.refl _) (argsL := []) (rest := []) (lenOf own_pd0 rfl) rfl (by show 2 * 0 + _ ≤ _; exact Nat.le_of_eq rfl) (hb hby own_d_prog_23_method_5_1) (fun _ _ => ⟨rfl, e0, (by decide : 0 + 0 ≤ _), (by decide : 0 + 0 ≤ _)⟩)
    dsimp only [Pt.U, Pt.locs, Pt.cells, Pt.slots] at X13 l13 y13 z13 st13 hQ13
    subst l13 y13 z13
    obtain ⟨rfl, Nq13, eh13⟩ := hQ13
    have N13 := Fr.app N0 Nq13
    obtain ⟨fs, hr, hrun, hended, hW, hsame⟩ := X13.leave (v := some (.int (1 : Int32))) (fun h => by rw [Bd.returns] at h; cases h)
    refine ⟨_, _, pre0 _ ?_, hrun, hended, _, _, rfl, ?_, ⟨_, rfl⟩, hW, hsame.mono (by decide) (by decide)⟩
    · show Steps p.tables e below (s₁.setTop (mkF m 0 #[.val (.ref a), .val (.int i), .val (.int j), .unset] [])) _
      refine XS.aloadN X0.here hx rfl (hb hby own_d_prog_23_method_5_0) rfl rfl ?_
      show Steps p.tables e below (s₁.setTop (mkF m 1 #[.val (.ref a), .val (.int i), .val (.int j), .unset] [(.ref a)])) _
      refine st13.trans ?_
      show Steps p.tables e below (T13.setTop (mkF m 4 #[.val (.ref a), .val (.int i), .val (.int j), .unset] [(.int od)])) _
      refine XS.tswIn X13.here hx rfl (o := 36) (pc0 := 4) (pc' := 40) rfl (hb hby own_d_prog_23_method_5_4) rfl (by rw [q]; decide) (by rw [q]; rfl) (by decide) (by decide) ?_
      show Steps p.tables e below (T13.setTop (mkF m 40 #[.val (.ref a), .val (.int i), .val (.int j), .unset] [])) _
      refine XS.iloadN X13.here hx rfl (hb hby own_d_prog_23_method_5_40) rfl ?_
      show Steps p.tables e below (T13.setTop (mkF m 41 #[.val (.ref a), .val (.int i), .val (.int j), .unset] [(.int i)])) _
      refine XS.iloadN X13.here hx rfl (hb hby own_d_prog_23_method_5_41) rfl ?_
      show Steps p.tables e below (T13.setTop (mkF m 42 #[.val (.ref a), .val (.int i), .val (.int j), .unset] [(.int j), (.int i)])) _
      refine XS.icmpNo X13.here hx rfl (hb hby own_d_prog_23_method_5_42) rfl (teq r).2 ?_
      show Steps p.tables e below (T13.setTop (mkF m 45 #[.val (.ref a), .val (.int i), .val (.int j), .unset] [])) _
      refine XS.iconst X13.here hx rfl (hb hby own_d_prog_23_method_5_45) ?_
      show Steps p.tables e below (T13.setTop (mkF m 46 #[.val (.ref a), .val (.int i), .val (.int j), .unset] [(.int (1 : Int32))])) _
      refine XS.goto X13.here hx rfl (pc0 := 46) (pc' := 50) rfl (hb hby own_d_prog_23_method_5_46) (by decide) (by decide) ?_
      show Steps p.tables e below (T13.setTop (mkF m 50 #[.val (.ref a), .val (.int i), .val (.int j), .unset] [(.int (1 : Int32))])) _
      refine XS.istoreN X13.here hx rfl (hb hby own_d_prog_23_method_5_50) rfl (l' := #[.val (.ref a), .val (.int i), .val (.int j), .val (.int (1 : Int32))]) rfl ?_
      show Steps p.tables e below (T13.setTop (mkF m 51 #[.val (.ref a), .val (.int i), .val (.int j), .val (.int (1 : Int32))] [])) _
      refine XS.goto X13.here hx rfl (pc0 := 51) (pc' := 121) rfl (hb hby own_d_prog_23_method_5_51) (by decide) (by decide) ?_
      show Steps p.tables e below (T13.setTop (mkF m 121 #[.val (.ref a), .val (.int i), .val (.int j), .val (.int (1 : Int32))] [])) _
      refine XS.iloadN X13.here hx rfl (hb hby own_d_prog_23_method_5_121) rfl ?_
      show Steps p.tables e below (T13.setTop (mkF m 122 #[.val (.ref a), .val (.int i), .val (.int j), .val (.int (1 : Int32))] [(.int (1 : Int32))])) _
      exact own_retZ X13 hx rfl Bd.returns (hb hby own_d_prog_23_method_5_122) hr
    · show rm_holds_Q Z a i j od h0 n0 _ T13.heap _
      rw [eh13]
      exact ⟨by simp +decide [own_holds, q, r], N13, rfl⟩
  · obtain ⟨cq14, kq14, q14a, q14b, q14c⟩ := isOf hZ e0 Eo
    obtain ⟨_, _, ⟨T14, L14, k14, n14⟩, -, X14, ⟨Lc14, hQ14, l14, y14, z14⟩, st14⟩ := X0.virtualBackUp hx (x := (⟨"com/example/occurrence/occurrence/colour/Guard$Relation", "ordinal", "()I"⟩ : MethodName)) (y := (⟨"java/lang/Enum", "ordinal", "()I"⟩ : MethodName)) (owner := "java/lang/Enum") hown (mvT hZ (hw _ (List.mem_of_getElem? (i := 19) rfl))) (mvT hZ (hw _ (List.mem_of_getElem? (i := 20) rfl))) (mvT hZ (hw _ (List.mem_of_getElem? (i := 21) rfl))) (by decide) (mvT hZ (hw _ (List.mem_of_getElem? (i := 23) rfl))) (mvT hZ (hw _ (List.mem_of_getElem? (i := 22) rfl))) (backOf (W := 0) (rm_ordinal l Z a0 hw [] a od h0 n0 Z0 Fo) hZ (hw _ (List.mem_of_getElem? (i := 25) rfl)) (hw _ (List.mem_of_getElem? (i := 24) rfl)) (by decide) (by decide)) q14a q14c (g := (mkF m 1 #[.val (.ref a), .val (.int i), .val (.int j), .unset] [(.ref a)])) rfl (by rw [hml]; rfl) (Steps.refl _) (argsL := []) (rest := []) (lenOf own_pd0 rfl) rfl (by show 2 * 0 + _ ≤ _; exact Nat.le_of_eq rfl) (hb hby own_d_prog_23_method_5_1) (fun _ _ => ⟨rfl, e0, (by decide : 0 + 0 ≤ _), (by decide : 0 + 0 ≤ _)⟩)
    dsimp only [Pt.U, Pt.locs, Pt.cells, Pt.slots] at X14 l14 y14 z14 st14 hQ14
    subst l14 y14 z14
    obtain ⟨rfl, Nq14, eh14⟩ := hQ14
    have N14 := Fr.app N0 Nq14
    obtain ⟨fs, hr, hrun, hended, hW, hsame⟩ := X14.leave (v := some (.int (0 : Int32))) (fun h => by rw [Bd.returns] at h; cases h)
    refine ⟨_, _, pre0 _ ?_, hrun, hended, _, _, rfl, ?_, ⟨_, rfl⟩, hW, hsame.mono (by decide) (by decide)⟩
    · show Steps p.tables e below (s₁.setTop (mkF m 0 #[.val (.ref a), .val (.int i), .val (.int j), .unset] [])) _
      refine XS.aloadN X0.here hx rfl (hb hby own_d_prog_23_method_5_0) rfl rfl ?_
      show Steps p.tables e below (s₁.setTop (mkF m 1 #[.val (.ref a), .val (.int i), .val (.int j), .unset] [(.ref a)])) _
      refine st14.trans ?_
      show Steps p.tables e below (T14.setTop (mkF m 4 #[.val (.ref a), .val (.int i), .val (.int j), .unset] [(.int od)])) _
      refine XS.tswIn X14.here hx rfl (o := 36) (pc0 := 4) (pc' := 40) rfl (hb hby own_d_prog_23_method_5_4) rfl (by rw [q]; decide) (by rw [q]; rfl) (by decide) (by decide) ?_
      show Steps p.tables e below (T14.setTop (mkF m 40 #[.val (.ref a), .val (.int i), .val (.int j), .unset] [])) _
      refine XS.iloadN X14.here hx rfl (hb hby own_d_prog_23_method_5_40) rfl ?_
      show Steps p.tables e below (T14.setTop (mkF m 41 #[.val (.ref a), .val (.int i), .val (.int j), .unset] [(.int i)])) _
      refine XS.iloadN X14.here hx rfl (hb hby own_d_prog_23_method_5_41) rfl ?_
      show Steps p.tables e below (T14.setTop (mkF m 42 #[.val (.ref a), .val (.int i), .val (.int j), .unset] [(.int j), (.int i)])) _
      refine XS.icmpYes X14.here hx rfl (pc0 := 42) (pc' := 49) rfl (hb hby own_d_prog_23_method_5_42) rfl (feq r).2 (by decide) (by decide) ?_
      show Steps p.tables e below (T14.setTop (mkF m 49 #[.val (.ref a), .val (.int i), .val (.int j), .unset] [])) _
      refine XS.iconst X14.here hx rfl (hb hby own_d_prog_23_method_5_49) ?_
      show Steps p.tables e below (T14.setTop (mkF m 50 #[.val (.ref a), .val (.int i), .val (.int j), .unset] [(.int (0 : Int32))])) _
      refine XS.istoreN X14.here hx rfl (hb hby own_d_prog_23_method_5_50) rfl (l' := #[.val (.ref a), .val (.int i), .val (.int j), .val (.int (0 : Int32))]) rfl ?_
      show Steps p.tables e below (T14.setTop (mkF m 51 #[.val (.ref a), .val (.int i), .val (.int j), .val (.int (0 : Int32))] [])) _
      refine XS.goto X14.here hx rfl (pc0 := 51) (pc' := 121) rfl (hb hby own_d_prog_23_method_5_51) (by decide) (by decide) ?_
      show Steps p.tables e below (T14.setTop (mkF m 121 #[.val (.ref a), .val (.int i), .val (.int j), .val (.int (0 : Int32))] [])) _
      refine XS.iloadN X14.here hx rfl (hb hby own_d_prog_23_method_5_121) rfl ?_
      show Steps p.tables e below (T14.setTop (mkF m 122 #[.val (.ref a), .val (.int i), .val (.int j), .val (.int (0 : Int32))] [(.int (0 : Int32))])) _
      exact own_retZ X14 hx rfl Bd.returns (hb hby own_d_prog_23_method_5_122) hr
    · show rm_holds_Q Z a i j od h0 n0 _ T14.heap _
      rw [eh14]
      exact ⟨by simp +decide [own_holds, q, r], N14, rfl⟩
  · obtain ⟨cq15, kq15, q15a, q15b, q15c⟩ := isOf hZ e0 Eo
    obtain ⟨_, _, ⟨T15, L15, k15, n15⟩, -, X15, ⟨Lc15, hQ15, l15, y15, z15⟩, st15⟩ := X0.virtualBackUp hx (x := (⟨"com/example/occurrence/occurrence/colour/Guard$Relation", "ordinal", "()I"⟩ : MethodName)) (y := (⟨"java/lang/Enum", "ordinal", "()I"⟩ : MethodName)) (owner := "java/lang/Enum") hown (mvT hZ (hw _ (List.mem_of_getElem? (i := 19) rfl))) (mvT hZ (hw _ (List.mem_of_getElem? (i := 20) rfl))) (mvT hZ (hw _ (List.mem_of_getElem? (i := 21) rfl))) (by decide) (mvT hZ (hw _ (List.mem_of_getElem? (i := 23) rfl))) (mvT hZ (hw _ (List.mem_of_getElem? (i := 22) rfl))) (backOf (W := 0) (rm_ordinal l Z a0 hw [] a od h0 n0 Z0 Fo) hZ (hw _ (List.mem_of_getElem? (i := 25) rfl)) (hw _ (List.mem_of_getElem? (i := 24) rfl)) (by decide) (by decide)) q15a q15c (g := (mkF m 1 #[.val (.ref a), .val (.int i), .val (.int j), .unset] [(.ref a)])) rfl (by rw [hml]; rfl) (Steps.refl _) (argsL := []) (rest := []) (lenOf own_pd0 rfl) rfl (by show 2 * 0 + _ ≤ _; exact Nat.le_of_eq rfl) (hb hby own_d_prog_23_method_5_1) (fun _ _ => ⟨rfl, e0, (by decide : 0 + 0 ≤ _), (by decide : 0 + 0 ≤ _)⟩)
    dsimp only [Pt.U, Pt.locs, Pt.cells, Pt.slots] at X15 l15 y15 z15 st15 hQ15
    subst l15 y15 z15
    obtain ⟨rfl, Nq15, eh15⟩ := hQ15
    have N15 := Fr.app N0 Nq15
    obtain ⟨fs, hr, hrun, hended, hW, hsame⟩ := X15.leave (v := some (.int (0 : Int32))) (fun h => by rw [Bd.returns] at h; cases h)
    refine ⟨_, _, pre0 _ ?_, hrun, hended, _, _, rfl, ?_, ⟨_, rfl⟩, hW, hsame.mono (by decide) (by decide)⟩
    · show Steps p.tables e below (s₁.setTop (mkF m 0 #[.val (.ref a), .val (.int i), .val (.int j), .unset] [])) _
      refine XS.aloadN X0.here hx rfl (hb hby own_d_prog_23_method_5_0) rfl rfl ?_
      show Steps p.tables e below (s₁.setTop (mkF m 1 #[.val (.ref a), .val (.int i), .val (.int j), .unset] [(.ref a)])) _
      refine st15.trans ?_
      show Steps p.tables e below (T15.setTop (mkF m 4 #[.val (.ref a), .val (.int i), .val (.int j), .unset] [(.int od)])) _
      refine XS.tswIn X15.here hx rfl (o := 50) (pc0 := 4) (pc' := 54) rfl (hb hby own_d_prog_23_method_5_4) rfl (by rw [q]; decide) (by rw [q]; rfl) (by decide) (by decide) ?_
      show Steps p.tables e below (T15.setTop (mkF m 54 #[.val (.ref a), .val (.int i), .val (.int j), .unset] [])) _
      refine XS.iloadN X15.here hx rfl (hb hby own_d_prog_23_method_5_54) rfl ?_
      show Steps p.tables e below (T15.setTop (mkF m 55 #[.val (.ref a), .val (.int i), .val (.int j), .unset] [(.int i)])) _
      refine XS.iloadN X15.here hx rfl (hb hby own_d_prog_23_method_5_55) rfl ?_
      show Steps p.tables e below (T15.setTop (mkF m 56 #[.val (.ref a), .val (.int i), .val (.int j), .unset] [(.int j), (.int i)])) _
      refine XS.icmpYes X15.here hx rfl (pc0 := 56) (pc' := 63) rfl (hb hby own_d_prog_23_method_5_56) rfl (teq r).1 (by decide) (by decide) ?_
      show Steps p.tables e below (T15.setTop (mkF m 63 #[.val (.ref a), .val (.int i), .val (.int j), .unset] [])) _
      refine XS.iconst X15.here hx rfl (hb hby own_d_prog_23_method_5_63) ?_
      show Steps p.tables e below (T15.setTop (mkF m 64 #[.val (.ref a), .val (.int i), .val (.int j), .unset] [(.int (0 : Int32))])) _
      refine XS.istoreN X15.here hx rfl (hb hby own_d_prog_23_method_5_64) rfl (l' := #[.val (.ref a), .val (.int i), .val (.int j), .val (.int (0 : Int32))]) rfl ?_
      show Steps p.tables e below (T15.setTop (mkF m 65 #[.val (.ref a), .val (.int i), .val (.int j), .val (.int (0 : Int32))] [])) _
      refine XS.goto X15.here hx rfl (pc0 := 65) (pc' := 121) rfl (hb hby own_d_prog_23_method_5_65) (by decide) (by decide) ?_
      show Steps p.tables e below (T15.setTop (mkF m 121 #[.val (.ref a), .val (.int i), .val (.int j), .val (.int (0 : Int32))] [])) _
      refine XS.iloadN X15.here hx rfl (hb hby own_d_prog_23_method_5_121) rfl ?_
      show Steps p.tables e below (T15.setTop (mkF m 122 #[.val (.ref a), .val (.int i), .val (.int j), .val (.int (0 : Int32))] [(.int (0 : Int32))])) _
      exact own_retZ X15 hx rfl Bd.returns (hb hby own_d_prog_23_method_5_122) hr
    · show rm_holds_Q Z a i j od h0 n0 _ T15.heap _
      rw [eh15]
      exact ⟨by simp +decide [own_holds, q, r], N15, rfl⟩
  · obtain ⟨cq16, kq16, q16a, q16b, q16c⟩ := isOf hZ e0 Eo
    obtain ⟨_, _, ⟨T16, L16, k16, n16⟩, -, X16, ⟨Lc16, hQ16, l16, y16, z16⟩, st16⟩ := X0.virtualBackUp hx (x := (⟨"com/example/occurrence/occurrence/colour/Guard$Relation", "ordinal", "()I"⟩ : MethodName)) (y := (⟨"java/lang/Enum", "ordinal", "()I"⟩ : MethodName)) (owner := "java/lang/Enum") hown (mvT hZ (hw _ (List.mem_of_getElem? (i := 19) rfl))) (mvT hZ (hw _ (List.mem_of_getElem? (i := 20) rfl))) (mvT hZ (hw _ (List.mem_of_getElem? (i := 21) rfl))) (by decide) (mvT hZ (hw _ (List.mem_of_getElem? (i := 23) rfl))) (mvT hZ (hw _ (List.mem_of_getElem? (i := 22) rfl))) (backOf (W := 0) (rm_ordinal l Z a0 hw [] a od h0 n0 Z0 Fo) hZ (hw _ (List.mem_of_getElem? (i := 25) rfl)) (hw _ (List.mem_of_getElem? (i := 24) rfl)) (by decide) (by decide)) q16a q16c (g := (mkF m 1 #[.val (.ref a), .val (.int i), .val (.int j), .unset] [(.ref a)])) rfl (by rw [hml]; rfl) (Steps.refl _) (argsL := []) (rest := []) (lenOf own_pd0 rfl) rfl (by show 2 * 0 + _ ≤ _; exact Nat.le_of_eq rfl) (hb hby own_d_prog_23_method_5_1) (fun _ _ => ⟨rfl, e0, (by decide : 0 + 0 ≤ _), (by decide : 0 + 0 ≤ _)⟩)
    dsimp only [Pt.U, Pt.locs, Pt.cells, Pt.slots] at X16 l16 y16 z16 st16 hQ16
    subst l16 y16 z16
    obtain ⟨rfl, Nq16, eh16⟩ := hQ16
    have N16 := Fr.app N0 Nq16
    obtain ⟨fs, hr, hrun, hended, hW, hsame⟩ := X16.leave (v := some (.int (1 : Int32))) (fun h => by rw [Bd.returns] at h; cases h)
    refine ⟨_, _, pre0 _ ?_, hrun, hended, _, _, rfl, ?_, ⟨_, rfl⟩, hW, hsame.mono (by decide) (by decide)⟩
    · show Steps p.tables e below (s₁.setTop (mkF m 0 #[.val (.ref a), .val (.int i), .val (.int j), .unset] [])) _
      refine XS.aloadN X0.here hx rfl (hb hby own_d_prog_23_method_5_0) rfl rfl ?_
      show Steps p.tables e below (s₁.setTop (mkF m 1 #[.val (.ref a), .val (.int i), .val (.int j), .unset] [(.ref a)])) _
      refine st16.trans ?_
      show Steps p.tables e below (T16.setTop (mkF m 4 #[.val (.ref a), .val (.int i), .val (.int j), .unset] [(.int od)])) _
      refine XS.tswIn X16.here hx rfl (o := 50) (pc0 := 4) (pc' := 54) rfl (hb hby own_d_prog_23_method_5_4) rfl (by rw [q]; decide) (by rw [q]; rfl) (by decide) (by decide) ?_
      show Steps p.tables e below (T16.setTop (mkF m 54 #[.val (.ref a), .val (.int i), .val (.int j), .unset] [])) _
      refine XS.iloadN X16.here hx rfl (hb hby own_d_prog_23_method_5_54) rfl ?_
      show Steps p.tables e below (T16.setTop (mkF m 55 #[.val (.ref a), .val (.int i), .val (.int j), .unset] [(.int i)])) _
      refine XS.iloadN X16.here hx rfl (hb hby own_d_prog_23_method_5_55) rfl ?_
      show Steps p.tables e below (T16.setTop (mkF m 56 #[.val (.ref a), .val (.int i), .val (.int j), .unset] [(.int j), (.int i)])) _
      refine XS.icmpNo X16.here hx rfl (hb hby own_d_prog_23_method_5_56) rfl (feq r).1 ?_
      show Steps p.tables e below (T16.setTop (mkF m 59 #[.val (.ref a), .val (.int i), .val (.int j), .unset] [])) _
      refine XS.iconst X16.here hx rfl (hb hby own_d_prog_23_method_5_59) ?_
      show Steps p.tables e below (T16.setTop (mkF m 60 #[.val (.ref a), .val (.int i), .val (.int j), .unset] [(.int (1 : Int32))])) _
      refine XS.goto X16.here hx rfl (pc0 := 60) (pc' := 64) rfl (hb hby own_d_prog_23_method_5_60) (by decide) (by decide) ?_
      show Steps p.tables e below (T16.setTop (mkF m 64 #[.val (.ref a), .val (.int i), .val (.int j), .unset] [(.int (1 : Int32))])) _
      refine XS.istoreN X16.here hx rfl (hb hby own_d_prog_23_method_5_64) rfl (l' := #[.val (.ref a), .val (.int i), .val (.int j), .val (.int (1 : Int32))]) rfl ?_
      show Steps p.tables e below (T16.setTop (mkF m 65 #[.val (.ref a), .val (.int i), .val (.int j), .val (.int (1 : Int32))] [])) _
      refine XS.goto X16.here hx rfl (pc0 := 65) (pc' := 121) rfl (hb hby own_d_prog_23_method_5_65) (by decide) (by decide) ?_
      show Steps p.tables e below (T16.setTop (mkF m 121 #[.val (.ref a), .val (.int i), .val (.int j), .val (.int (1 : Int32))] [])) _
      refine XS.iloadN X16.here hx rfl (hb hby own_d_prog_23_method_5_121) rfl ?_
      show Steps p.tables e below (T16.setTop (mkF m 122 #[.val (.ref a), .val (.int i), .val (.int j), .val (.int (1 : Int32))] [(.int (1 : Int32))])) _
      exact own_retZ X16 hx rfl Bd.returns (hb hby own_d_prog_23_method_5_122) hr
    · show rm_holds_Q Z a i j od h0 n0 _ T16.heap _
      rw [eh16]
      exact ⟨by simp +decide [own_holds, q, r], N16, rfl⟩
  · obtain ⟨cq17, kq17, q17a, q17b, q17c⟩ := isOf hZ e0 Eo
    obtain ⟨_, _, ⟨T17, L17, k17, n17⟩, -, X17, ⟨Lc17, hQ17, l17, y17, z17⟩, st17⟩ := X0.virtualBackUp hx (x := (⟨"com/example/occurrence/occurrence/colour/Guard$Relation", "ordinal", "()I"⟩ : MethodName)) (y := (⟨"java/lang/Enum", "ordinal", "()I"⟩ : MethodName)) (owner := "java/lang/Enum") hown (mvT hZ (hw _ (List.mem_of_getElem? (i := 19) rfl))) (mvT hZ (hw _ (List.mem_of_getElem? (i := 20) rfl))) (mvT hZ (hw _ (List.mem_of_getElem? (i := 21) rfl))) (by decide) (mvT hZ (hw _ (List.mem_of_getElem? (i := 23) rfl))) (mvT hZ (hw _ (List.mem_of_getElem? (i := 22) rfl))) (backOf (W := 0) (rm_ordinal l Z a0 hw [] a od h0 n0 Z0 Fo) hZ (hw _ (List.mem_of_getElem? (i := 25) rfl)) (hw _ (List.mem_of_getElem? (i := 24) rfl)) (by decide) (by decide)) q17a q17c (g := (mkF m 1 #[.val (.ref a), .val (.int i), .val (.int j), .unset] [(.ref a)])) rfl (by rw [hml]; rfl) (Steps.refl _) (argsL := []) (rest := []) (lenOf own_pd0 rfl) rfl (by show 2 * 0 + _ ≤ _; exact Nat.le_of_eq rfl) (hb hby own_d_prog_23_method_5_1) (fun _ _ => ⟨rfl, e0, (by decide : 0 + 0 ≤ _), (by decide : 0 + 0 ≤ _)⟩)
    dsimp only [Pt.U, Pt.locs, Pt.cells, Pt.slots] at X17 l17 y17 z17 st17 hQ17
    subst l17 y17 z17
    obtain ⟨rfl, Nq17, eh17⟩ := hQ17
    have N17 := Fr.app N0 Nq17
    obtain ⟨fs, hr, hrun, hended, hW, hsame⟩ := X17.leave (v := some (.int (1 : Int32))) (fun h => by rw [Bd.returns] at h; cases h)
    refine ⟨_, _, pre0 _ ?_, hrun, hended, _, _, rfl, ?_, ⟨_, rfl⟩, hW, hsame.mono (by decide) (by decide)⟩
    · show Steps p.tables e below (s₁.setTop (mkF m 0 #[.val (.ref a), .val (.int i), .val (.int j), .unset] [])) _
      refine XS.aloadN X0.here hx rfl (hb hby own_d_prog_23_method_5_0) rfl rfl ?_
      show Steps p.tables e below (s₁.setTop (mkF m 1 #[.val (.ref a), .val (.int i), .val (.int j), .unset] [(.ref a)])) _
      refine st17.trans ?_
      show Steps p.tables e below (T17.setTop (mkF m 4 #[.val (.ref a), .val (.int i), .val (.int j), .unset] [(.int od)])) _
      refine XS.tswIn X17.here hx rfl (o := 64) (pc0 := 4) (pc' := 68) rfl (hb hby own_d_prog_23_method_5_4) rfl (by rw [q]; decide) (by rw [q]; rfl) (by decide) (by decide) ?_
      show Steps p.tables e below (T17.setTop (mkF m 68 #[.val (.ref a), .val (.int i), .val (.int j), .unset] [])) _
      refine XS.iloadN X17.here hx rfl (hb hby own_d_prog_23_method_5_68) rfl ?_
      show Steps p.tables e below (T17.setTop (mkF m 69 #[.val (.ref a), .val (.int i), .val (.int j), .unset] [(.int i)])) _
      refine XS.iloadN X17.here hx rfl (hb hby own_d_prog_23_method_5_69) rfl ?_
      show Steps p.tables e below (T17.setTop (mkF m 70 #[.val (.ref a), .val (.int i), .val (.int j), .unset] [(.int j), (.int i)])) _
      refine XS.icmpNo X17.here hx rfl (hb hby own_d_prog_23_method_5_70) rfl (tlt r).2.1 ?_
      show Steps p.tables e below (T17.setTop (mkF m 73 #[.val (.ref a), .val (.int i), .val (.int j), .unset] [])) _
      refine XS.iconst X17.here hx rfl (hb hby own_d_prog_23_method_5_73) ?_
      show Steps p.tables e below (T17.setTop (mkF m 74 #[.val (.ref a), .val (.int i), .val (.int j), .unset] [(.int (1 : Int32))])) _
      refine XS.goto X17.here hx rfl (pc0 := 74) (pc' := 78) rfl (hb hby own_d_prog_23_method_5_74) (by decide) (by decide) ?_
      show Steps p.tables e below (T17.setTop (mkF m 78 #[.val (.ref a), .val (.int i), .val (.int j), .unset] [(.int (1 : Int32))])) _
      refine XS.istoreN X17.here hx rfl (hb hby own_d_prog_23_method_5_78) rfl (l' := #[.val (.ref a), .val (.int i), .val (.int j), .val (.int (1 : Int32))]) rfl ?_
      show Steps p.tables e below (T17.setTop (mkF m 79 #[.val (.ref a), .val (.int i), .val (.int j), .val (.int (1 : Int32))] [])) _
      refine XS.goto X17.here hx rfl (pc0 := 79) (pc' := 121) rfl (hb hby own_d_prog_23_method_5_79) (by decide) (by decide) ?_
      show Steps p.tables e below (T17.setTop (mkF m 121 #[.val (.ref a), .val (.int i), .val (.int j), .val (.int (1 : Int32))] [])) _
      refine XS.iloadN X17.here hx rfl (hb hby own_d_prog_23_method_5_121) rfl ?_
      show Steps p.tables e below (T17.setTop (mkF m 122 #[.val (.ref a), .val (.int i), .val (.int j), .val (.int (1 : Int32))] [(.int (1 : Int32))])) _
      exact own_retZ X17 hx rfl Bd.returns (hb hby own_d_prog_23_method_5_122) hr
    · show rm_holds_Q Z a i j od h0 n0 _ T17.heap _
      rw [eh17]
      exact ⟨by simp +decide [own_holds, q, r], N17, rfl⟩
  · obtain ⟨cq18, kq18, q18a, q18b, q18c⟩ := isOf hZ e0 Eo
    obtain ⟨_, _, ⟨T18, L18, k18, n18⟩, -, X18, ⟨Lc18, hQ18, l18, y18, z18⟩, st18⟩ := X0.virtualBackUp hx (x := (⟨"com/example/occurrence/occurrence/colour/Guard$Relation", "ordinal", "()I"⟩ : MethodName)) (y := (⟨"java/lang/Enum", "ordinal", "()I"⟩ : MethodName)) (owner := "java/lang/Enum") hown (mvT hZ (hw _ (List.mem_of_getElem? (i := 19) rfl))) (mvT hZ (hw _ (List.mem_of_getElem? (i := 20) rfl))) (mvT hZ (hw _ (List.mem_of_getElem? (i := 21) rfl))) (by decide) (mvT hZ (hw _ (List.mem_of_getElem? (i := 23) rfl))) (mvT hZ (hw _ (List.mem_of_getElem? (i := 22) rfl))) (backOf (W := 0) (rm_ordinal l Z a0 hw [] a od h0 n0 Z0 Fo) hZ (hw _ (List.mem_of_getElem? (i := 25) rfl)) (hw _ (List.mem_of_getElem? (i := 24) rfl)) (by decide) (by decide)) q18a q18c (g := (mkF m 1 #[.val (.ref a), .val (.int i), .val (.int j), .unset] [(.ref a)])) rfl (by rw [hml]; rfl) (Steps.refl _) (argsL := []) (rest := []) (lenOf own_pd0 rfl) rfl (by show 2 * 0 + _ ≤ _; exact Nat.le_of_eq rfl) (hb hby own_d_prog_23_method_5_1) (fun _ _ => ⟨rfl, e0, (by decide : 0 + 0 ≤ _), (by decide : 0 + 0 ≤ _)⟩)
    dsimp only [Pt.U, Pt.locs, Pt.cells, Pt.slots] at X18 l18 y18 z18 st18 hQ18
    subst l18 y18 z18
    obtain ⟨rfl, Nq18, eh18⟩ := hQ18
    have N18 := Fr.app N0 Nq18
    obtain ⟨fs, hr, hrun, hended, hW, hsame⟩ := X18.leave (v := some (.int (0 : Int32))) (fun h => by rw [Bd.returns] at h; cases h)
    refine ⟨_, _, pre0 _ ?_, hrun, hended, _, _, rfl, ?_, ⟨_, rfl⟩, hW, hsame.mono (by decide) (by decide)⟩
    · show Steps p.tables e below (s₁.setTop (mkF m 0 #[.val (.ref a), .val (.int i), .val (.int j), .unset] [])) _
      refine XS.aloadN X0.here hx rfl (hb hby own_d_prog_23_method_5_0) rfl rfl ?_
      show Steps p.tables e below (s₁.setTop (mkF m 1 #[.val (.ref a), .val (.int i), .val (.int j), .unset] [(.ref a)])) _
      refine st18.trans ?_
      show Steps p.tables e below (T18.setTop (mkF m 4 #[.val (.ref a), .val (.int i), .val (.int j), .unset] [(.int od)])) _
      refine XS.tswIn X18.here hx rfl (o := 64) (pc0 := 4) (pc' := 68) rfl (hb hby own_d_prog_23_method_5_4) rfl (by rw [q]; decide) (by rw [q]; rfl) (by decide) (by decide) ?_
      show Steps p.tables e below (T18.setTop (mkF m 68 #[.val (.ref a), .val (.int i), .val (.int j), .unset] [])) _
      refine XS.iloadN X18.here hx rfl (hb hby own_d_prog_23_method_5_68) rfl ?_
      show Steps p.tables e below (T18.setTop (mkF m 69 #[.val (.ref a), .val (.int i), .val (.int j), .unset] [(.int i)])) _
      refine XS.iloadN X18.here hx rfl (hb hby own_d_prog_23_method_5_69) rfl ?_
      show Steps p.tables e below (T18.setTop (mkF m 70 #[.val (.ref a), .val (.int i), .val (.int j), .unset] [(.int j), (.int i)])) _
      refine XS.icmpYes X18.here hx rfl (pc0 := 70) (pc' := 77) rfl (hb hby own_d_prog_23_method_5_70) rfl (flt r).2.1 (by decide) (by decide) ?_
      show Steps p.tables e below (T18.setTop (mkF m 77 #[.val (.ref a), .val (.int i), .val (.int j), .unset] [])) _
      refine XS.iconst X18.here hx rfl (hb hby own_d_prog_23_method_5_77) ?_
      show Steps p.tables e below (T18.setTop (mkF m 78 #[.val (.ref a), .val (.int i), .val (.int j), .unset] [(.int (0 : Int32))])) _
      refine XS.istoreN X18.here hx rfl (hb hby own_d_prog_23_method_5_78) rfl (l' := #[.val (.ref a), .val (.int i), .val (.int j), .val (.int (0 : Int32))]) rfl ?_
      show Steps p.tables e below (T18.setTop (mkF m 79 #[.val (.ref a), .val (.int i), .val (.int j), .val (.int (0 : Int32))] [])) _
      refine XS.goto X18.here hx rfl (pc0 := 79) (pc' := 121) rfl (hb hby own_d_prog_23_method_5_79) (by decide) (by decide) ?_
      show Steps p.tables e below (T18.setTop (mkF m 121 #[.val (.ref a), .val (.int i), .val (.int j), .val (.int (0 : Int32))] [])) _
      refine XS.iloadN X18.here hx rfl (hb hby own_d_prog_23_method_5_121) rfl ?_
      show Steps p.tables e below (T18.setTop (mkF m 122 #[.val (.ref a), .val (.int i), .val (.int j), .val (.int (0 : Int32))] [(.int (0 : Int32))])) _
      exact own_retZ X18 hx rfl Bd.returns (hb hby own_d_prog_23_method_5_122) hr
    · show rm_holds_Q Z a i j od h0 n0 _ T18.heap _
      rw [eh18]
      exact ⟨by simp +decide [own_holds, q, r], N18, rfl⟩
  · obtain ⟨cq19, kq19, q19a, q19b, q19c⟩ := isOf hZ e0 Eo
    obtain ⟨_, _, ⟨T19, L19, k19, n19⟩, -, X19, ⟨Lc19, hQ19, l19, y19, z19⟩, st19⟩ := X0.virtualBackUp hx (x := (⟨"com/example/occurrence/occurrence/colour/Guard$Relation", "ordinal", "()I"⟩ : MethodName)) (y := (⟨"java/lang/Enum", "ordinal", "()I"⟩ : MethodName)) (owner := "java/lang/Enum") hown (mvT hZ (hw _ (List.mem_of_getElem? (i := 19) rfl))) (mvT hZ (hw _ (List.mem_of_getElem? (i := 20) rfl))) (mvT hZ (hw _ (List.mem_of_getElem? (i := 21) rfl))) (by decide) (mvT hZ (hw _ (List.mem_of_getElem? (i := 23) rfl))) (mvT hZ (hw _ (List.mem_of_getElem? (i := 22) rfl))) (backOf (W := 0) (rm_ordinal l Z a0 hw [] a od h0 n0 Z0 Fo) hZ (hw _ (List.mem_of_getElem? (i := 25) rfl)) (hw _ (List.mem_of_getElem? (i := 24) rfl)) (by decide) (by decide)) q19a q19c (g := (mkF m 1 #[.val (.ref a), .val (.int i), .val (.int j), .unset] [(.ref a)])) rfl (by rw [hml]; rfl) (Steps.refl _) (argsL := []) (rest := []) (lenOf own_pd0 rfl) rfl (by show 2 * 0 + _ ≤ _; exact Nat.le_of_eq rfl) (hb hby own_d_prog_23_method_5_1) (fun _ _ => ⟨rfl, e0, (by decide : 0 + 0 ≤ _), (by decide : 0 + 0 ≤ _)⟩)
    dsimp only [Pt.U, Pt.locs, Pt.cells, Pt.slots] at X19 l19 y19 z19 st19 hQ19
    subst l19 y19 z19
    obtain ⟨rfl, Nq19, eh19⟩ := hQ19
    have N19 := Fr.app N0 Nq19
    obtain ⟨fs, hr, hrun, hended, hW, hsame⟩ := X19.leave (v := some (.int (0 : Int32))) (fun h => by rw [Bd.returns] at h; cases h)
    refine ⟨_, _, pre0 _ ?_, hrun, hended, _, _, rfl, ?_, ⟨_, rfl⟩, hW, hsame.mono (by decide) (by decide)⟩
    · show Steps p.tables e below (s₁.setTop (mkF m 0 #[.val (.ref a), .val (.int i), .val (.int j), .unset] [])) _
      refine XS.aloadN X0.here hx rfl (hb hby own_d_prog_23_method_5_0) rfl rfl ?_
      show Steps p.tables e below (s₁.setTop (mkF m 1 #[.val (.ref a), .val (.int i), .val (.int j), .unset] [(.ref a)])) _
      refine st19.trans ?_
      show Steps p.tables e below (T19.setTop (mkF m 4 #[.val (.ref a), .val (.int i), .val (.int j), .unset] [(.int od)])) _
      refine XS.tswIn X19.here hx rfl (o := 78) (pc0 := 4) (pc' := 82) rfl (hb hby own_d_prog_23_method_5_4) rfl (by rw [q]; decide) (by rw [q]; rfl) (by decide) (by decide) ?_
      show Steps p.tables e below (T19.setTop (mkF m 82 #[.val (.ref a), .val (.int i), .val (.int j), .unset] [])) _
      refine XS.iloadN X19.here hx rfl (hb hby own_d_prog_23_method_5_82) rfl ?_
      show Steps p.tables e below (T19.setTop (mkF m 83 #[.val (.ref a), .val (.int i), .val (.int j), .unset] [(.int i)])) _
      refine XS.iloadN X19.here hx rfl (hb hby own_d_prog_23_method_5_83) rfl ?_
      show Steps p.tables e below (T19.setTop (mkF m 84 #[.val (.ref a), .val (.int i), .val (.int j), .unset] [(.int j), (.int i)])) _
      refine XS.icmpYes X19.here hx rfl (pc0 := 84) (pc' := 91) rfl (hb hby own_d_prog_23_method_5_84) rfl (tlt r).2.2.1 (by decide) (by decide) ?_
      show Steps p.tables e below (T19.setTop (mkF m 91 #[.val (.ref a), .val (.int i), .val (.int j), .unset] [])) _
      refine XS.iconst X19.here hx rfl (hb hby own_d_prog_23_method_5_91) ?_
      show Steps p.tables e below (T19.setTop (mkF m 92 #[.val (.ref a), .val (.int i), .val (.int j), .unset] [(.int (0 : Int32))])) _
      refine XS.istoreN X19.here hx rfl (hb hby own_d_prog_23_method_5_92) rfl (l' := #[.val (.ref a), .val (.int i), .val (.int j), .val (.int (0 : Int32))]) rfl ?_
      show Steps p.tables e below (T19.setTop (mkF m 93 #[.val (.ref a), .val (.int i), .val (.int j), .val (.int (0 : Int32))] [])) _
      refine XS.goto X19.here hx rfl (pc0 := 93) (pc' := 121) rfl (hb hby own_d_prog_23_method_5_93) (by decide) (by decide) ?_
      show Steps p.tables e below (T19.setTop (mkF m 121 #[.val (.ref a), .val (.int i), .val (.int j), .val (.int (0 : Int32))] [])) _
      refine XS.iloadN X19.here hx rfl (hb hby own_d_prog_23_method_5_121) rfl ?_
      show Steps p.tables e below (T19.setTop (mkF m 122 #[.val (.ref a), .val (.int i), .val (.int j), .val (.int (0 : Int32))] [(.int (0 : Int32))])) _
      exact own_retZ X19 hx rfl Bd.returns (hb hby own_d_prog_23_method_5_122) hr
    · show rm_holds_Q Z a i j od h0 n0 _ T19.heap _
      rw [eh19]
      exact ⟨by simp +decide [own_holds, q, r], N19, rfl⟩
  · obtain ⟨cq20, kq20, q20a, q20b, q20c⟩ := isOf hZ e0 Eo
    obtain ⟨_, _, ⟨T20, L20, k20, n20⟩, -, X20, ⟨Lc20, hQ20, l20, y20, z20⟩, st20⟩ := X0.virtualBackUp hx (x := (⟨"com/example/occurrence/occurrence/colour/Guard$Relation", "ordinal", "()I"⟩ : MethodName)) (y := (⟨"java/lang/Enum", "ordinal", "()I"⟩ : MethodName)) (owner := "java/lang/Enum") hown (mvT hZ (hw _ (List.mem_of_getElem? (i := 19) rfl))) (mvT hZ (hw _ (List.mem_of_getElem? (i := 20) rfl))) (mvT hZ (hw _ (List.mem_of_getElem? (i := 21) rfl))) (by decide) (mvT hZ (hw _ (List.mem_of_getElem? (i := 23) rfl))) (mvT hZ (hw _ (List.mem_of_getElem? (i := 22) rfl))) (backOf (W := 0) (rm_ordinal l Z a0 hw [] a od h0 n0 Z0 Fo) hZ (hw _ (List.mem_of_getElem? (i := 25) rfl)) (hw _ (List.mem_of_getElem? (i := 24) rfl)) (by decide) (by decide)) q20a q20c (g := (mkF m 1 #[.val (.ref a), .val (.int i), .val (.int j), .unset] [(.ref a)])) rfl (by rw [hml]; rfl) (Steps.refl _) (argsL := []) (rest := []) (lenOf own_pd0 rfl) rfl (by show 2 * 0 + _ ≤ _; exact Nat.le_of_eq rfl) (hb hby own_d_prog_23_method_5_1) (fun _ _ => ⟨rfl, e0, (by decide : 0 + 0 ≤ _), (by decide : 0 + 0 ≤ _)⟩)
    dsimp only [Pt.U, Pt.locs, Pt.cells, Pt.slots] at X20 l20 y20 z20 st20 hQ20
    subst l20 y20 z20
    obtain ⟨rfl, Nq20, eh20⟩ := hQ20
    have N20 := Fr.app N0 Nq20
    obtain ⟨fs, hr, hrun, hended, hW, hsame⟩ := X20.leave (v := some (.int (1 : Int32))) (fun h => by rw [Bd.returns] at h; cases h)
    refine ⟨_, _, pre0 _ ?_, hrun, hended, _, _, rfl, ?_, ⟨_, rfl⟩, hW, hsame.mono (by decide) (by decide)⟩
    · show Steps p.tables e below (s₁.setTop (mkF m 0 #[.val (.ref a), .val (.int i), .val (.int j), .unset] [])) _
      refine XS.aloadN X0.here hx rfl (hb hby own_d_prog_23_method_5_0) rfl rfl ?_
      show Steps p.tables e below (s₁.setTop (mkF m 1 #[.val (.ref a), .val (.int i), .val (.int j), .unset] [(.ref a)])) _
      refine st20.trans ?_
      show Steps p.tables e below (T20.setTop (mkF m 4 #[.val (.ref a), .val (.int i), .val (.int j), .unset] [(.int od)])) _
      refine XS.tswIn X20.here hx rfl (o := 78) (pc0 := 4) (pc' := 82) rfl (hb hby own_d_prog_23_method_5_4) rfl (by rw [q]; decide) (by rw [q]; rfl) (by decide) (by decide) ?_
      show Steps p.tables e below (T20.setTop (mkF m 82 #[.val (.ref a), .val (.int i), .val (.int j), .unset] [])) _
      refine XS.iloadN X20.here hx rfl (hb hby own_d_prog_23_method_5_82) rfl ?_
      show Steps p.tables e below (T20.setTop (mkF m 83 #[.val (.ref a), .val (.int i), .val (.int j), .unset] [(.int i)])) _
      refine XS.iloadN X20.here hx rfl (hb hby own_d_prog_23_method_5_83) rfl ?_
      show Steps p.tables e below (T20.setTop (mkF m 84 #[.val (.ref a), .val (.int i), .val (.int j), .unset] [(.int j), (.int i)])) _
      refine XS.icmpNo X20.here hx rfl (hb hby own_d_prog_23_method_5_84) rfl (flt r).2.2.1 ?_
      show Steps p.tables e below (T20.setTop (mkF m 87 #[.val (.ref a), .val (.int i), .val (.int j), .unset] [])) _
      refine XS.iconst X20.here hx rfl (hb hby own_d_prog_23_method_5_87) ?_
      show Steps p.tables e below (T20.setTop (mkF m 88 #[.val (.ref a), .val (.int i), .val (.int j), .unset] [(.int (1 : Int32))])) _
      refine XS.goto X20.here hx rfl (pc0 := 88) (pc' := 92) rfl (hb hby own_d_prog_23_method_5_88) (by decide) (by decide) ?_
      show Steps p.tables e below (T20.setTop (mkF m 92 #[.val (.ref a), .val (.int i), .val (.int j), .unset] [(.int (1 : Int32))])) _
      refine XS.istoreN X20.here hx rfl (hb hby own_d_prog_23_method_5_92) rfl (l' := #[.val (.ref a), .val (.int i), .val (.int j), .val (.int (1 : Int32))]) rfl ?_
      show Steps p.tables e below (T20.setTop (mkF m 93 #[.val (.ref a), .val (.int i), .val (.int j), .val (.int (1 : Int32))] [])) _
      refine XS.goto X20.here hx rfl (pc0 := 93) (pc' := 121) rfl (hb hby own_d_prog_23_method_5_93) (by decide) (by decide) ?_
      show Steps p.tables e below (T20.setTop (mkF m 121 #[.val (.ref a), .val (.int i), .val (.int j), .val (.int (1 : Int32))] [])) _
      refine XS.iloadN X20.here hx rfl (hb hby own_d_prog_23_method_5_121) rfl ?_
      show Steps p.tables e below (T20.setTop (mkF m 122 #[.val (.ref a), .val (.int i), .val (.int j), .val (.int (1 : Int32))] [(.int (1 : Int32))])) _
      exact own_retZ X20 hx rfl Bd.returns (hb hby own_d_prog_23_method_5_122) hr
    · show rm_holds_Q Z a i j od h0 n0 _ T20.heap _
      rw [eh20]
      exact ⟨by simp +decide [own_holds, q, r], N20, rfl⟩
  · obtain ⟨cq21, kq21, q21a, q21b, q21c⟩ := isOf hZ e0 Eo
    obtain ⟨_, _, ⟨T21, L21, k21, n21⟩, -, X21, ⟨Lc21, hQ21, l21, y21, z21⟩, st21⟩ := X0.virtualBackUp hx (x := (⟨"com/example/occurrence/occurrence/colour/Guard$Relation", "ordinal", "()I"⟩ : MethodName)) (y := (⟨"java/lang/Enum", "ordinal", "()I"⟩ : MethodName)) (owner := "java/lang/Enum") hown (mvT hZ (hw _ (List.mem_of_getElem? (i := 19) rfl))) (mvT hZ (hw _ (List.mem_of_getElem? (i := 20) rfl))) (mvT hZ (hw _ (List.mem_of_getElem? (i := 21) rfl))) (by decide) (mvT hZ (hw _ (List.mem_of_getElem? (i := 23) rfl))) (mvT hZ (hw _ (List.mem_of_getElem? (i := 22) rfl))) (backOf (W := 0) (rm_ordinal l Z a0 hw [] a od h0 n0 Z0 Fo) hZ (hw _ (List.mem_of_getElem? (i := 25) rfl)) (hw _ (List.mem_of_getElem? (i := 24) rfl)) (by decide) (by decide)) q21a q21c (g := (mkF m 1 #[.val (.ref a), .val (.int i), .val (.int j), .unset] [(.ref a)])) rfl (by rw [hml]; rfl) (Steps.refl _) (argsL := []) (rest := []) (lenOf own_pd0 rfl) rfl (by show 2 * 0 + _ ≤ _; exact Nat.le_of_eq rfl) (hb hby own_d_prog_23_method_5_1) (fun _ _ => ⟨rfl, e0, (by decide : 0 + 0 ≤ _), (by decide : 0 + 0 ≤ _)⟩)
    dsimp only [Pt.U, Pt.locs, Pt.cells, Pt.slots] at X21 l21 y21 z21 st21 hQ21
    subst l21 y21 z21
    obtain ⟨rfl, Nq21, eh21⟩ := hQ21
    have N21 := Fr.app N0 Nq21
    obtain ⟨fs, hr, hrun, hended, hW, hsame⟩ := X21.leave (v := some (.int (1 : Int32))) (fun h => by rw [Bd.returns] at h; cases h)
    refine ⟨_, _, pre0 _ ?_, hrun, hended, _, _, rfl, ?_, ⟨_, rfl⟩, hW, hsame.mono (by decide) (by decide)⟩
    · show Steps p.tables e below (s₁.setTop (mkF m 0 #[.val (.ref a), .val (.int i), .val (.int j), .unset] [])) _
      refine XS.aloadN X0.here hx rfl (hb hby own_d_prog_23_method_5_0) rfl rfl ?_
      show Steps p.tables e below (s₁.setTop (mkF m 1 #[.val (.ref a), .val (.int i), .val (.int j), .unset] [(.ref a)])) _
      refine st21.trans ?_
      show Steps p.tables e below (T21.setTop (mkF m 4 #[.val (.ref a), .val (.int i), .val (.int j), .unset] [(.int od)])) _
      refine XS.tswIn X21.here hx rfl (o := 92) (pc0 := 4) (pc' := 96) rfl (hb hby own_d_prog_23_method_5_4) rfl (by rw [q]; decide) (by rw [q]; rfl) (by decide) (by decide) ?_
      show Steps p.tables e below (T21.setTop (mkF m 96 #[.val (.ref a), .val (.int i), .val (.int j), .unset] [])) _
      refine XS.iloadN X21.here hx rfl (hb hby own_d_prog_23_method_5_96) rfl ?_
      show Steps p.tables e below (T21.setTop (mkF m 97 #[.val (.ref a), .val (.int i), .val (.int j), .unset] [(.int i)])) _
      refine XS.iloadN X21.here hx rfl (hb hby own_d_prog_23_method_5_97) rfl ?_
      show Steps p.tables e below (T21.setTop (mkF m 98 #[.val (.ref a), .val (.int i), .val (.int j), .unset] [(.int j), (.int i)])) _
      refine XS.icmpNo X21.here hx rfl (hb hby own_d_prog_23_method_5_98) rfl (tlt r).2.2.2 ?_
      show Steps p.tables e below (T21.setTop (mkF m 101 #[.val (.ref a), .val (.int i), .val (.int j), .unset] [])) _
      refine XS.iconst X21.here hx rfl (hb hby own_d_prog_23_method_5_101) ?_
      show Steps p.tables e below (T21.setTop (mkF m 102 #[.val (.ref a), .val (.int i), .val (.int j), .unset] [(.int (1 : Int32))])) _
      refine XS.goto X21.here hx rfl (pc0 := 102) (pc' := 106) rfl (hb hby own_d_prog_23_method_5_102) (by decide) (by decide) ?_
      show Steps p.tables e below (T21.setTop (mkF m 106 #[.val (.ref a), .val (.int i), .val (.int j), .unset] [(.int (1 : Int32))])) _
      refine XS.istoreN X21.here hx rfl (hb hby own_d_prog_23_method_5_106) rfl (l' := #[.val (.ref a), .val (.int i), .val (.int j), .val (.int (1 : Int32))]) rfl ?_
      show Steps p.tables e below (T21.setTop (mkF m 107 #[.val (.ref a), .val (.int i), .val (.int j), .val (.int (1 : Int32))] [])) _
      refine XS.goto X21.here hx rfl (pc0 := 107) (pc' := 121) rfl (hb hby own_d_prog_23_method_5_107) (by decide) (by decide) ?_
      show Steps p.tables e below (T21.setTop (mkF m 121 #[.val (.ref a), .val (.int i), .val (.int j), .val (.int (1 : Int32))] [])) _
      refine XS.iloadN X21.here hx rfl (hb hby own_d_prog_23_method_5_121) rfl ?_
      show Steps p.tables e below (T21.setTop (mkF m 122 #[.val (.ref a), .val (.int i), .val (.int j), .val (.int (1 : Int32))] [(.int (1 : Int32))])) _
      exact own_retZ X21 hx rfl Bd.returns (hb hby own_d_prog_23_method_5_122) hr
    · show rm_holds_Q Z a i j od h0 n0 _ T21.heap _
      rw [eh21]
      exact ⟨by simp +decide [own_holds, q, r], N21, rfl⟩
  · obtain ⟨cq22, kq22, q22a, q22b, q22c⟩ := isOf hZ e0 Eo
    obtain ⟨_, _, ⟨T22, L22, k22, n22⟩, -, X22, ⟨Lc22, hQ22, l22, y22, z22⟩, st22⟩ := X0.virtualBackUp hx (x := (⟨"com/example/occurrence/occurrence/colour/Guard$Relation", "ordinal", "()I"⟩ : MethodName)) (y := (⟨"java/lang/Enum", "ordinal", "()I"⟩ : MethodName)) (owner := "java/lang/Enum") hown (mvT hZ (hw _ (List.mem_of_getElem? (i := 19) rfl))) (mvT hZ (hw _ (List.mem_of_getElem? (i := 20) rfl))) (mvT hZ (hw _ (List.mem_of_getElem? (i := 21) rfl))) (by decide) (mvT hZ (hw _ (List.mem_of_getElem? (i := 23) rfl))) (mvT hZ (hw _ (List.mem_of_getElem? (i := 22) rfl))) (backOf (W := 0) (rm_ordinal l Z a0 hw [] a od h0 n0 Z0 Fo) hZ (hw _ (List.mem_of_getElem? (i := 25) rfl)) (hw _ (List.mem_of_getElem? (i := 24) rfl)) (by decide) (by decide)) q22a q22c (g := (mkF m 1 #[.val (.ref a), .val (.int i), .val (.int j), .unset] [(.ref a)])) rfl (by rw [hml]; rfl) (Steps.refl _) (argsL := []) (rest := []) (lenOf own_pd0 rfl) rfl (by show 2 * 0 + _ ≤ _; exact Nat.le_of_eq rfl) (hb hby own_d_prog_23_method_5_1) (fun _ _ => ⟨rfl, e0, (by decide : 0 + 0 ≤ _), (by decide : 0 + 0 ≤ _)⟩)
    dsimp only [Pt.U, Pt.locs, Pt.cells, Pt.slots] at X22 l22 y22 z22 st22 hQ22
    subst l22 y22 z22
    obtain ⟨rfl, Nq22, eh22⟩ := hQ22
    have N22 := Fr.app N0 Nq22
    obtain ⟨fs, hr, hrun, hended, hW, hsame⟩ := X22.leave (v := some (.int (0 : Int32))) (fun h => by rw [Bd.returns] at h; cases h)
    refine ⟨_, _, pre0 _ ?_, hrun, hended, _, _, rfl, ?_, ⟨_, rfl⟩, hW, hsame.mono (by decide) (by decide)⟩
    · show Steps p.tables e below (s₁.setTop (mkF m 0 #[.val (.ref a), .val (.int i), .val (.int j), .unset] [])) _
      refine XS.aloadN X0.here hx rfl (hb hby own_d_prog_23_method_5_0) rfl rfl ?_
      show Steps p.tables e below (s₁.setTop (mkF m 1 #[.val (.ref a), .val (.int i), .val (.int j), .unset] [(.ref a)])) _
      refine st22.trans ?_
      show Steps p.tables e below (T22.setTop (mkF m 4 #[.val (.ref a), .val (.int i), .val (.int j), .unset] [(.int od)])) _
      refine XS.tswIn X22.here hx rfl (o := 92) (pc0 := 4) (pc' := 96) rfl (hb hby own_d_prog_23_method_5_4) rfl (by rw [q]; decide) (by rw [q]; rfl) (by decide) (by decide) ?_
      show Steps p.tables e below (T22.setTop (mkF m 96 #[.val (.ref a), .val (.int i), .val (.int j), .unset] [])) _
      refine XS.iloadN X22.here hx rfl (hb hby own_d_prog_23_method_5_96) rfl ?_
      show Steps p.tables e below (T22.setTop (mkF m 97 #[.val (.ref a), .val (.int i), .val (.int j), .unset] [(.int i)])) _
      refine XS.iloadN X22.here hx rfl (hb hby own_d_prog_23_method_5_97) rfl ?_
      show Steps p.tables e below (T22.setTop (mkF m 98 #[.val (.ref a), .val (.int i), .val (.int j), .unset] [(.int j), (.int i)])) _
      refine XS.icmpYes X22.here hx rfl (pc0 := 98) (pc' := 105) rfl (hb hby own_d_prog_23_method_5_98) rfl (flt r).2.2.2 (by decide) (by decide) ?_
      show Steps p.tables e below (T22.setTop (mkF m 105 #[.val (.ref a), .val (.int i), .val (.int j), .unset] [])) _
      refine XS.iconst X22.here hx rfl (hb hby own_d_prog_23_method_5_105) ?_
      show Steps p.tables e below (T22.setTop (mkF m 106 #[.val (.ref a), .val (.int i), .val (.int j), .unset] [(.int (0 : Int32))])) _
      refine XS.istoreN X22.here hx rfl (hb hby own_d_prog_23_method_5_106) rfl (l' := #[.val (.ref a), .val (.int i), .val (.int j), .val (.int (0 : Int32))]) rfl ?_
      show Steps p.tables e below (T22.setTop (mkF m 107 #[.val (.ref a), .val (.int i), .val (.int j), .val (.int (0 : Int32))] [])) _
      refine XS.goto X22.here hx rfl (pc0 := 107) (pc' := 121) rfl (hb hby own_d_prog_23_method_5_107) (by decide) (by decide) ?_
      show Steps p.tables e below (T22.setTop (mkF m 121 #[.val (.ref a), .val (.int i), .val (.int j), .val (.int (0 : Int32))] [])) _
      refine XS.iloadN X22.here hx rfl (hb hby own_d_prog_23_method_5_121) rfl ?_
      show Steps p.tables e below (T22.setTop (mkF m 122 #[.val (.ref a), .val (.int i), .val (.int j), .val (.int (0 : Int32))] [(.int (0 : Int32))])) _
      exact own_retZ X22 hx rfl Bd.returns (hb hby own_d_prog_23_method_5_122) hr
    · show rm_holds_Q Z a i j od h0 n0 _ T22.heap _
      rw [eh22]
      exact ⟨by simp +decide [own_holds, q, r], N22, rfl⟩
  · obtain ⟨cq23, kq23, q23a, q23b, q23c⟩ := isOf hZ e0 Eo
    obtain ⟨_, _, ⟨T23, L23, k23, n23⟩, -, X23, ⟨Lc23, hQ23, l23, y23, z23⟩, st23⟩ := X0.virtualBackUp hx (x := (⟨"com/example/occurrence/occurrence/colour/Guard$Relation", "ordinal", "()I"⟩ : MethodName)) (y := (⟨"java/lang/Enum", "ordinal", "()I"⟩ : MethodName)) (owner := "java/lang/Enum") hown (mvT hZ (hw _ (List.mem_of_getElem? (i := 19) rfl))) (mvT hZ (hw _ (List.mem_of_getElem? (i := 20) rfl))) (mvT hZ (hw _ (List.mem_of_getElem? (i := 21) rfl))) (by decide) (mvT hZ (hw _ (List.mem_of_getElem? (i := 23) rfl))) (mvT hZ (hw _ (List.mem_of_getElem? (i := 22) rfl))) (backOf (W := 0) (rm_ordinal l Z a0 hw [] a od h0 n0 Z0 Fo) hZ (hw _ (List.mem_of_getElem? (i := 25) rfl)) (hw _ (List.mem_of_getElem? (i := 24) rfl)) (by decide) (by decide)) q23a q23c (g := (mkF m 1 #[.val (.ref a), .val (.int i), .val (.int j), .unset] [(.ref a)])) rfl (by rw [hml]; rfl) (Steps.refl _) (argsL := []) (rest := []) (lenOf own_pd0 rfl) rfl (by show 2 * 0 + _ ≤ _; exact Nat.le_of_eq rfl) (hb hby own_d_prog_23_method_5_1) (fun _ _ => ⟨rfl, e0, (by decide : 0 + 0 ≤ _), (by decide : 0 + 0 ≤ _)⟩)
    dsimp only [Pt.U, Pt.locs, Pt.cells, Pt.slots] at X23 l23 y23 z23 st23 hQ23
    subst l23 y23 z23
    obtain ⟨rfl, Nq23, eh23⟩ := hQ23
    have N23 := Fr.app N0 Nq23
    obtain ⟨fs, hr, hrun, hended, hW, hsame⟩ := X23.leave (v := some (.int (0 : Int32))) (fun h => by rw [Bd.returns] at h; cases h)
    refine ⟨_, _, pre0 _ ?_, hrun, hended, _, _, rfl, ?_, ⟨_, rfl⟩, hW, hsame.mono (by decide) (by decide)⟩
    · show Steps p.tables e below (s₁.setTop (mkF m 0 #[.val (.ref a), .val (.int i), .val (.int j), .unset] [])) _
      refine XS.aloadN X0.here hx rfl (hb hby own_d_prog_23_method_5_0) rfl rfl ?_
      show Steps p.tables e below (s₁.setTop (mkF m 1 #[.val (.ref a), .val (.int i), .val (.int j), .unset] [(.ref a)])) _
      refine st23.trans ?_
      show Steps p.tables e below (T23.setTop (mkF m 4 #[.val (.ref a), .val (.int i), .val (.int j), .unset] [(.int od)])) _
      refine XS.tswOut X23.here hx rfl (pc0 := 4) (pc' := 110) rfl (hb hby own_d_prog_23_method_5_4) rfl (by rw [q]; decide) (by decide) (by decide) ?_
      show Steps p.tables e below (T23.setTop (mkF m 110 #[.val (.ref a), .val (.int i), .val (.int j), .unset] [])) _
      refine XS.iloadN X23.here hx rfl (hb hby own_d_prog_23_method_5_110) rfl ?_
      show Steps p.tables e below (T23.setTop (mkF m 111 #[.val (.ref a), .val (.int i), .val (.int j), .unset] [(.int i)])) _
      refine XS.iloadN X23.here hx rfl (hb hby own_d_prog_23_method_5_111) rfl ?_
      show Steps p.tables e below (T23.setTop (mkF m 112 #[.val (.ref a), .val (.int i), .val (.int j), .unset] [(.int j), (.int i)])) _
      refine XS.icmpYes X23.here hx rfl (pc0 := 112) (pc' := 119) rfl (hb hby own_d_prog_23_method_5_112) rfl (tlt r).1 (by decide) (by decide) ?_
      show Steps p.tables e below (T23.setTop (mkF m 119 #[.val (.ref a), .val (.int i), .val (.int j), .unset] [])) _
      refine XS.iconst X23.here hx rfl (hb hby own_d_prog_23_method_5_119) ?_
      show Steps p.tables e below (T23.setTop (mkF m 120 #[.val (.ref a), .val (.int i), .val (.int j), .unset] [(.int (0 : Int32))])) _
      refine XS.istoreN X23.here hx rfl (hb hby own_d_prog_23_method_5_120) rfl (l' := #[.val (.ref a), .val (.int i), .val (.int j), .val (.int (0 : Int32))]) rfl ?_
      show Steps p.tables e below (T23.setTop (mkF m 121 #[.val (.ref a), .val (.int i), .val (.int j), .val (.int (0 : Int32))] [])) _
      refine XS.iloadN X23.here hx rfl (hb hby own_d_prog_23_method_5_121) rfl ?_
      show Steps p.tables e below (T23.setTop (mkF m 122 #[.val (.ref a), .val (.int i), .val (.int j), .val (.int (0 : Int32))] [(.int (0 : Int32))])) _
      exact own_retZ X23 hx rfl Bd.returns (hb hby own_d_prog_23_method_5_122) hr
    · show rm_holds_Q Z a i j od h0 n0 _ T23.heap _
      rw [eh23]
      exact ⟨by simp +decide [own_holds, q, r], N23, rfl⟩
  · obtain ⟨cq24, kq24, q24a, q24b, q24c⟩ := isOf hZ e0 Eo
    obtain ⟨_, _, ⟨T24, L24, k24, n24⟩, -, X24, ⟨Lc24, hQ24, l24, y24, z24⟩, st24⟩ := X0.virtualBackUp hx (x := (⟨"com/example/occurrence/occurrence/colour/Guard$Relation", "ordinal", "()I"⟩ : MethodName)) (y := (⟨"java/lang/Enum", "ordinal", "()I"⟩ : MethodName)) (owner := "java/lang/Enum") hown (mvT hZ (hw _ (List.mem_of_getElem? (i := 19) rfl))) (mvT hZ (hw _ (List.mem_of_getElem? (i := 20) rfl))) (mvT hZ (hw _ (List.mem_of_getElem? (i := 21) rfl))) (by decide) (mvT hZ (hw _ (List.mem_of_getElem? (i := 23) rfl))) (mvT hZ (hw _ (List.mem_of_getElem? (i := 22) rfl))) (backOf (W := 0) (rm_ordinal l Z a0 hw [] a od h0 n0 Z0 Fo) hZ (hw _ (List.mem_of_getElem? (i := 25) rfl)) (hw _ (List.mem_of_getElem? (i := 24) rfl)) (by decide) (by decide)) q24a q24c (g := (mkF m 1 #[.val (.ref a), .val (.int i), .val (.int j), .unset] [(.ref a)])) rfl (by rw [hml]; rfl) (Steps.refl _) (argsL := []) (rest := []) (lenOf own_pd0 rfl) rfl (by show 2 * 0 + _ ≤ _; exact Nat.le_of_eq rfl) (hb hby own_d_prog_23_method_5_1) (fun _ _ => ⟨rfl, e0, (by decide : 0 + 0 ≤ _), (by decide : 0 + 0 ≤ _)⟩)
    dsimp only [Pt.U, Pt.locs, Pt.cells, Pt.slots] at X24 l24 y24 z24 st24 hQ24
    subst l24 y24 z24
    obtain ⟨rfl, Nq24, eh24⟩ := hQ24
    have N24 := Fr.app N0 Nq24
    obtain ⟨fs, hr, hrun, hended, hW, hsame⟩ := X24.leave (v := some (.int (1 : Int32))) (fun h => by rw [Bd.returns] at h; cases h)
    refine ⟨_, _, pre0 _ ?_, hrun, hended, _, _, rfl, ?_, ⟨_, rfl⟩, hW, hsame.mono (by decide) (by decide)⟩
    · show Steps p.tables e below (s₁.setTop (mkF m 0 #[.val (.ref a), .val (.int i), .val (.int j), .unset] [])) _
      refine XS.aloadN X0.here hx rfl (hb hby own_d_prog_23_method_5_0) rfl rfl ?_
      show Steps p.tables e below (s₁.setTop (mkF m 1 #[.val (.ref a), .val (.int i), .val (.int j), .unset] [(.ref a)])) _
      refine st24.trans ?_
      show Steps p.tables e below (T24.setTop (mkF m 4 #[.val (.ref a), .val (.int i), .val (.int j), .unset] [(.int od)])) _
      refine XS.tswOut X24.here hx rfl (pc0 := 4) (pc' := 110) rfl (hb hby own_d_prog_23_method_5_4) rfl (by rw [q]; decide) (by decide) (by decide) ?_
      show Steps p.tables e below (T24.setTop (mkF m 110 #[.val (.ref a), .val (.int i), .val (.int j), .unset] [])) _
      refine XS.iloadN X24.here hx rfl (hb hby own_d_prog_23_method_5_110) rfl ?_
      show Steps p.tables e below (T24.setTop (mkF m 111 #[.val (.ref a), .val (.int i), .val (.int j), .unset] [(.int i)])) _
      refine XS.iloadN X24.here hx rfl (hb hby own_d_prog_23_method_5_111) rfl ?_
      show Steps p.tables e below (T24.setTop (mkF m 112 #[.val (.ref a), .val (.int i), .val (.int j), .unset] [(.int j), (.int i)])) _
      refine XS.icmpNo X24.here hx rfl (hb hby own_d_prog_23_method_5_112) rfl (flt r).1 ?_
      show Steps p.tables e below (T24.setTop (mkF m 115 #[.val (.ref a), .val (.int i), .val (.int j), .unset] [])) _
      refine XS.iconst X24.here hx rfl (hb hby own_d_prog_23_method_5_115) ?_
      show Steps p.tables e below (T24.setTop (mkF m 116 #[.val (.ref a), .val (.int i), .val (.int j), .unset] [(.int (1 : Int32))])) _
      refine XS.goto X24.here hx rfl (pc0 := 116) (pc' := 120) rfl (hb hby own_d_prog_23_method_5_116) (by decide) (by decide) ?_
      show Steps p.tables e below (T24.setTop (mkF m 120 #[.val (.ref a), .val (.int i), .val (.int j), .unset] [(.int (1 : Int32))])) _
      refine XS.istoreN X24.here hx rfl (hb hby own_d_prog_23_method_5_120) rfl (l' := #[.val (.ref a), .val (.int i), .val (.int j), .val (.int (1 : Int32))]) rfl ?_
      show Steps p.tables e below (T24.setTop (mkF m 121 #[.val (.ref a), .val (.int i), .val (.int j), .val (.int (1 : Int32))] [])) _
      refine XS.iloadN X24.here hx rfl (hb hby own_d_prog_23_method_5_121) rfl ?_
      show Steps p.tables e below (T24.setTop (mkF m 122 #[.val (.ref a), .val (.int i), .val (.int j), .val (.int (1 : Int32))] [(.int (1 : Int32))])) _
      exact own_retZ X24 hx rfl Bd.returns (hb hby own_d_prog_23_method_5_122) hr
    · show rm_holds_Q Z a i j od h0 n0 _ T24.heap _
      rw [eh24]
      exact ⟨by simp +decide [own_holds, q, r], N24, rfl⟩
theorem rm_law_ef (m : MethodId) (x0 : Int32) : entryFrame m #[(.int x0)] maxLocals = mkF m 0 #[.val (.int x0), .unset, .unset, .unset, .unset, .unset] [] := by first | (simp [entryFrame, mkF, argsToLocals, Value.category, maxLocals]; done) | rfl
def rm_law_Q (Z : State) (p0 : Int32) (b_EQUAL : Addr) (b_LESS_OR_EQUAL : Addr) (b_NOT_EQUAL : Addr) (b_LESS : Addr) (b_GREATER_OR_EQUAL : Addr) (b_GREATER : Addr) (h0 : Heap) (n0 : Nat) (v : Option Value) (h : Heap) (L : List Loc) : Prop := v = some (.int (1 : Int32)) ∧ Fr n0 L
set_option maxRecDepth 65536 in
set_option maxHeartbeats 40000000 in
theorem rm_law (l : Launch) (Z : State) (a0 : Array Value) (hw : ∀ d ∈ tables_1, d.before a0 Z = true) (ws : List Jvm.Cond) (p0 : Int32) (b_EQUAL : Addr) (b_LESS_OR_EQUAL : Addr) (b_NOT_EQUAL : Addr) (b_LESS : Addr) (b_GREATER_OR_EQUAL : Addr) (b_GREATER : Addr) (h0 : Heap) (n0 : Nat) (Z0 : n0 ≤ h0.size) (S_EQUAL : Sta Z h0 "com/example/occurrence/occurrence/colour/Guard$Relation" "EQUAL" "Lcom/example/occurrence/occurrence/colour/Guard$Relation;" (.ref b_EQUAL)) (E_EQUAL : Exa Z h0 b_EQUAL "com/example/occurrence/occurrence/colour/Guard$Relation") (S_LESS_OR_EQUAL : Sta Z h0 "com/example/occurrence/occurrence/colour/Guard$Relation" "LESS_OR_EQUAL" "Lcom/example/occurrence/occurrence/colour/Guard$Relation;" (.ref b_LESS_OR_EQUAL)) (E_LESS_OR_EQUAL : Exa Z h0 b_LESS_OR_EQUAL "com/example/occurrence/occurrence/colour/Guard$Relation") (S_NOT_EQUAL : Sta Z h0 "com/example/occurrence/occurrence/colour/Guard$Relation" "NOT_EQUAL" "Lcom/example/occurrence/occurrence/colour/Guard$Relation;" (.ref b_NOT_EQUAL)) (E_NOT_EQUAL : Exa Z h0 b_NOT_EQUAL "com/example/occurrence/occurrence/colour/Guard$Relation") (S_LESS : Sta Z h0 "com/example/occurrence/occurrence/colour/Guard$Relation" "LESS" "Lcom/example/occurrence/occurrence/colour/Guard$Relation;" (.ref b_LESS)) (E_LESS : Exa Z h0 b_LESS "com/example/occurrence/occurrence/colour/Guard$Relation") (S_GREATER_OR_EQUAL : Sta Z h0 "com/example/occurrence/occurrence/colour/Guard$Relation" "GREATER_OR_EQUAL" "Lcom/example/occurrence/occurrence/colour/Guard$Relation;" (.ref b_GREATER_OR_EQUAL)) (E_GREATER_OR_EQUAL : Exa Z h0 b_GREATER_OR_EQUAL "com/example/occurrence/occurrence/colour/Guard$Relation") (S_GREATER : Sta Z h0 "com/example/occurrence/occurrence/colour/Guard$Relation" "GREATER" "Lcom/example/occurrence/occurrence/colour/Guard$Relation;" (.ref b_GREATER)) (E_GREATER : Exa Z h0 b_GREATER "com/example/occurrence/occurrence/colour/Guard$Relation") (F_EQUAL_ordinal : Fld Z h0 b_EQUAL "java/lang/Enum" "ordinal" "I" (.int (0 : Int32))) (F_LESS_OR_EQUAL_ordinal : Fld Z h0 b_LESS_OR_EQUAL "java/lang/Enum" "ordinal" "I" (.int (3 : Int32))) (F_NOT_EQUAL_ordinal : Fld Z h0 b_NOT_EQUAL "java/lang/Enum" "ordinal" "I" (.int (1 : Int32))) (F_LESS_ordinal : Fld Z h0 b_LESS "java/lang/Enum" "ordinal" "I" (.int (2 : Int32))) (F_GREATER_OR_EQUAL_ordinal : Fld Z h0 b_GREATER_OR_EQUAL "java/lang/Enum" "ordinal" "I" (.int (5 : Int32))) (F_GREATER_ordinal : Fld Z h0 b_GREATER "java/lang/Enum" "ordinal" "I" (.int (4 : Int32))) :
    MetFree l x (head1 (Jvm.Cond.code x code maxLocals ret :: ws) room_1) (fun a₀ U₀ => a₀ = #[(.int p0)] ∧ Z.Warmed39 U₀.vm ∧ U₀.heap = h0) (fun _ _ _ _ _ => True) (fun _ U₀ o₀ U₁ => ∃ v₀ L₀, o₀ = .returned v₀ ∧ rm_law_Q Z p0 b_EQUAL b_LESS_OR_EQUAL b_NOT_EQUAL b_LESS b_GREATER_OR_EQUAL b_GREATER h0 n0 v₀ U₁.heap L₀ ∧ FrameEnd U₀ o₀ U₁ L₀ room_1.cells room_1.slots) := by
  refine MetFree.of_bodySF (plainFor_of_name own_pn0) hisR ?_
  intro p e s m args below meth c s₁ Bd hml0 hP hK
  obtain ⟨rfl, hZ, hh⟩ := hP
  have hx := Bd.exec
  have hby := Bd.bytes
  have hml : c.maxLocals = 6 := hml0
  have hown : s.vm.findClass "com/example/occurrence/occurrence/colour/RelationIsOrderPinLaw" = some m.cls := findClass_of_methodNamed Bd.named
  have hnm := (name_of_methodNamed Bd.named Bd.method).1
  have X0 : Stand p l e room_1 s m #[(.int p0)] below meth c s₁ [] 0 0 := Stand.of_body Bd
  have e0 : s₁.heap = h0 := by rw [← hh, Bd.state]; rfl
  have N0 := Fr.nil n0
  have pre0 : ∀ t, Steps p.tables e below (s₁.setTop (mkF m 0 #[.val (.int p0), .unset, .unset, .unset, .unset, .unset] [])) t → Steps p.tables e below (s₁.setTop (entryFrame m #[(.int p0)] maxLocals)) t := fun t kk₀ => castTop (rm_law_ef m p0) kk₀
  obtain ⟨K, hK⟩ : ∃ K, ((p0 &&& (2147483647 : Int32)) % (6 : Int32)) = K := ⟨_, rfl⟩
  have hr6 := own_mod p0 (6 : Int32) 6 (by decide) (by decide)
  rw [hK] at hr6
  have hK6 := own_six hr6.1 hr6.2
  have ne_EQUAL_NOT_EQUAL : b_EQUAL ≠ b_NOT_EQUAL := own_fld_ne F_EQUAL_ordinal F_NOT_EQUAL_ordinal (by decide)
  have ne_NOT_EQUAL_EQUAL : b_NOT_EQUAL ≠ b_EQUAL := own_fld_ne F_NOT_EQUAL_ordinal F_EQUAL_ordinal (by decide)
  have ne_LESS_EQUAL : b_LESS ≠ b_EQUAL := own_fld_ne F_LESS_ordinal F_EQUAL_ordinal (by decide)
  have ne_LESS_NOT_EQUAL : b_LESS ≠ b_NOT_EQUAL := own_fld_ne F_LESS_ordinal F_NOT_EQUAL_ordinal (by decide)
  have ne_LESS_OR_EQUAL_EQUAL : b_LESS_OR_EQUAL ≠ b_EQUAL := own_fld_ne F_LESS_OR_EQUAL_ordinal F_EQUAL_ordinal (by decide)
  have ne_LESS_OR_EQUAL_NOT_EQUAL : b_LESS_OR_EQUAL ≠ b_NOT_EQUAL := own_fld_ne F_LESS_OR_EQUAL_ordinal F_NOT_EQUAL_ordinal (by decide)
  have ne_GREATER_EQUAL : b_GREATER ≠ b_EQUAL := own_fld_ne F_GREATER_ordinal F_EQUAL_ordinal (by decide)
  have ne_GREATER_NOT_EQUAL : b_GREATER ≠ b_NOT_EQUAL := own_fld_ne F_GREATER_ordinal F_NOT_EQUAL_ordinal (by decide)
  have ne_GREATER_OR_EQUAL_EQUAL : b_GREATER_OR_EQUAL ≠ b_EQUAL := own_fld_ne F_GREATER_OR_EQUAL_ordinal F_EQUAL_ordinal (by decide)
  have ne_GREATER_OR_EQUAL_NOT_EQUAL : b_GREATER_OR_EQUAL ≠ b_NOT_EQUAL := own_fld_ne F_GREATER_OR_EQUAL_ordinal F_NOT_EQUAL_ordinal (by decide)
  have E_K : Exa Z h0 (own_sel b_EQUAL b_NOT_EQUAL b_LESS b_LESS_OR_EQUAL b_GREATER b_GREATER_OR_EQUAL K) "com/example/occurrence/occurrence/colour/Guard$Relation" := by
    rcases hK6 with rfl | rfl | rfl | rfl | rfl | rfl
    · exact E_EQUAL
    · exact E_NOT_EQUAL
    · exact E_LESS
    · exact E_LESS_OR_EQUAL
    · exact E_GREATER
    · exact E_GREATER_OR_EQUAL
  have F_K : Fld Z h0 (own_sel b_EQUAL b_NOT_EQUAL b_LESS b_LESS_OR_EQUAL b_GREATER b_GREATER_OR_EQUAL K) "java/lang/Enum" "ordinal" "I" (.int K) := by
    rcases hK6 with rfl | rfl | rfl | rfl | rfl | rfl
    · exact F_EQUAL_ordinal
    · exact F_NOT_EQUAL_ordinal
    · exact F_LESS_ordinal
    · exact F_LESS_OR_EQUAL_ordinal
    · exact F_GREATER_ordinal
    · exact F_GREATER_OR_EQUAL_ordinal
  obtain ⟨vX, hvX⟩ : ∃ z, z = if K < (2 : Int32) then (0 : Int32) else (1 : Int32) := ⟨_, rfl⟩
  obtain ⟨vD, hvD⟩ : ∃ z, z = if (own_holds K (0 : Int32) (1 : Int32)) = (own_holds K (1 : Int32) (0 : Int32)) then (0 : Int32) else (1 : Int32) := ⟨_, rfl⟩
  have hf1 : (if (own_sel b_EQUAL b_NOT_EQUAL b_LESS b_LESS_OR_EQUAL b_GREATER b_GREATER_OR_EQUAL K) = b_EQUAL ∨ (own_sel b_EQUAL b_NOT_EQUAL b_LESS b_LESS_OR_EQUAL b_GREATER b_GREATER_OR_EQUAL K) = b_NOT_EQUAL then (0 : Int32) else (1 : Int32)) = vX := by
    rw [hvX]
    rcases hK6 with rfl | rfl | rfl | rfl | rfl | rfl <;> simp +decide [own_sel, ne_EQUAL_NOT_EQUAL, ne_NOT_EQUAL_EQUAL, ne_LESS_EQUAL, ne_LESS_NOT_EQUAL, ne_LESS_OR_EQUAL_EQUAL, ne_LESS_OR_EQUAL_NOT_EQUAL, ne_GREATER_EQUAL, ne_GREATER_NOT_EQUAL, ne_GREATER_OR_EQUAL_EQUAL, ne_GREATER_OR_EQUAL_NOT_EQUAL]
  have hf2 : (if (own_sel b_EQUAL b_NOT_EQUAL b_LESS b_LESS_OR_EQUAL b_GREATER b_GREATER_OR_EQUAL K) = b_EQUAL ∨ (own_sel b_EQUAL b_NOT_EQUAL b_LESS b_LESS_OR_EQUAL b_GREATER b_GREATER_OR_EQUAL K) = b_NOT_EQUAL then (0 : Int32) else (1 : Int32)) = vD := by
    rw [hf1, hvX, hvD]
    rcases hK6 with rfl | rfl | rfl | rfl | rfl | rfl <;> decide
  obtain ⟨_, _, ⟨T25, L25, k25, n25⟩, -, X25, ⟨Lc25, hQ25, l25, y25, z25⟩, st25⟩ := Jvm.LawKit.callS X0 hx (y := (⟨"com/example/occurrence/occurrence/colour/RelationIsOrderPinLaw", "pick", "(I)Lcom/example/occurrence/occurrence/colour/Guard$Relation;"⟩ : MethodName)) hown (mvT hZ (hw _ (List.mem_of_getElem? (i := 1) rfl))) (mvT hZ (hw _ (List.mem_of_getElem? (i := 2) rfl))) (mvT hZ (hw _ (List.mem_of_getElem? (i := 3) rfl))) (mvT hZ (hw _ (List.mem_of_getElem? (i := 4) rfl))) (by decide) (backOf (W := 0) (rm_pick l Z a0 hw [] K b_EQUAL b_NOT_EQUAL b_LESS b_LESS_OR_EQUAL b_GREATER b_GREATER_OR_EQUAL h0 n0 Z0 S_EQUAL S_LESS_OR_EQUAL S_NOT_EQUAL S_LESS S_GREATER_OR_EQUAL S_GREATER) hZ (hw _ (List.mem_of_getElem? (i := 4) rfl)) (hw _ (List.mem_of_getElem? (i := 3) rfl)) (by decide) (by decide)) (g := (mkF m 9 #[.val (.int p0), .val (.int K), .unset, .unset, .unset, .unset] [(.int K)])) rfl (by rw [hml]; rfl) (argsL := [(.int K)]) (rest := []) (lenOf own_pd1 rfl) rfl (by show 2 * 0 + _ ≤ _; exact Nat.le_of_eq rfl) (hb hby at_9) (fun _ _ => ⟨rfl, e0, (by decide : 0 + 0 ≤ _), (by decide : 0 + 0 ≤ _)⟩)
  dsimp only [Pt.U, Pt.locs, Pt.cells, Pt.slots] at X25 l25 y25 z25 st25 hQ25
  subst l25 y25 z25
  obtain ⟨rfl, Nq25, eh25⟩ := hQ25
  have N25 := Fr.app N0 Nq25
  obtain ⟨cq26, kq26, q26a, q26b, q26c⟩ := isOf hZ eh25 E_K
  obtain ⟨_, _, ⟨T26, L26, k26, n26⟩, -, X26, ⟨Lc26, hQ26, l26, y26, z26⟩, st26⟩ := X25.virtualBack hx (y := (⟨"com/example/occurrence/occurrence/colour/Guard$Relation", "isOrder", "()Z"⟩ : MethodName)) (z := (⟨"com/example/occurrence/occurrence/colour/Guard$Relation", "isOrder", "()Z"⟩ : MethodName)) hown (mvT hZ (hw _ (List.mem_of_getElem? (i := 8) rfl))) (mvT hZ (hw _ (List.mem_of_getElem? (i := 9) rfl))) (notFace_of_selects (args := #[]) (mvT hZ (hw _ (List.mem_of_getElem? (i := 11) rfl)))) (mvT hZ (hw _ (List.mem_of_getElem? (i := 11) rfl))) (mvT hZ (hw _ (List.mem_of_getElem? (i := 10) rfl))) (by decide) (backOf (W := 0) (rm_ord l Z a0 hw [] (own_sel b_EQUAL b_NOT_EQUAL b_LESS b_LESS_OR_EQUAL b_GREATER b_GREATER_OR_EQUAL K) b_EQUAL b_NOT_EQUAL h0 n0 Z0 S_EQUAL S_NOT_EQUAL) hZ (hw _ (List.mem_of_getElem? (i := 12) rfl)) (hw _ (List.mem_of_getElem? (i := 6) rfl)) (by decide) (by decide)) q26a q26c (g := (mkF m 14 #[.val (.int p0), .val (.int K), .val (.ref (own_sel b_EQUAL b_NOT_EQUAL b_LESS b_LESS_OR_EQUAL b_GREATER b_GREATER_OR_EQUAL K)), .unset, .unset, .unset] [(.ref (own_sel b_EQUAL b_NOT_EQUAL b_LESS b_LESS_OR_EQUAL b_GREATER b_GREATER_OR_EQUAL K))])) rfl (by rw [hml]; rfl) (Steps.refl _) (argsL := []) (rest := []) (lenOf own_pd2 rfl) rfl (by show 2 * 0 + _ ≤ _; exact Nat.le_of_eq rfl) (hb hby at_14) (fun _ _ => ⟨rfl, eh25, (by decide : 0 + 0 ≤ _), (by decide : 0 + 0 ≤ _)⟩)
  dsimp only [Pt.U, Pt.locs, Pt.cells, Pt.slots] at X26 l26 y26 z26 st26 hQ26
  subst l26 y26 z26
  obtain ⟨rfl, Nq26, eh26⟩ := hQ26
  have N26 := Fr.app N25 Nq26
  obtain ⟨T27, X27, e27, st27⟩ := own_join X26 (h := h0) (g := (mkF m 20 #[.val (.int p0), .val (.int K), .val (.ref (own_sel b_EQUAL b_NOT_EQUAL b_LESS b_LESS_OR_EQUAL b_GREATER b_GREATER_OR_EQUAL K)), .val (.int (if (own_sel b_EQUAL b_NOT_EQUAL b_LESS b_LESS_OR_EQUAL b_GREATER b_GREATER_OR_EQUAL K) = b_EQUAL ∨ (own_sel b_EQUAL b_NOT_EQUAL b_LESS b_LESS_OR_EQUAL b_GREATER b_GREATER_OR_EQUAL K) = b_NOT_EQUAL then (0 : Int32) else (1 : Int32))), .unset, .unset] [(.int (2 : Int32)), (.int K)])) (g' := (mkF m 28 #[.val (.int p0), .val (.int K), .val (.ref (own_sel b_EQUAL b_NOT_EQUAL b_LESS b_LESS_OR_EQUAL b_GREATER b_GREATER_OR_EQUAL K)), .val (.int (if (own_sel b_EQUAL b_NOT_EQUAL b_LESS b_LESS_OR_EQUAL b_GREATER b_GREATER_OR_EQUAL K) = b_EQUAL ∨ (own_sel b_EQUAL b_NOT_EQUAL b_LESS b_LESS_OR_EQUAL b_GREATER b_GREATER_OR_EQUAL K) = b_NOT_EQUAL then (0 : Int32) else (1 : Int32))), .unset, .unset] [(.int vX)])) (by
    by_cases q : K < (2 : Int32)
    · refine ⟨T26, X26, eh26, fun target k => ?_⟩
      rw [hvX, if_pos q] at k
      show Steps p.tables e below (T26.setTop (mkF m 20 #[.val (.int p0), .val (.int K), .val (.ref (own_sel b_EQUAL b_NOT_EQUAL b_LESS b_LESS_OR_EQUAL b_GREATER b_GREATER_OR_EQUAL K)), .val (.int (if (own_sel b_EQUAL b_NOT_EQUAL b_LESS b_LESS_OR_EQUAL b_GREATER b_GREATER_OR_EQUAL K) = b_EQUAL ∨ (own_sel b_EQUAL b_NOT_EQUAL b_LESS b_LESS_OR_EQUAL b_GREATER b_GREATER_OR_EQUAL K) = b_NOT_EQUAL then (0 : Int32) else (1 : Int32))), .unset, .unset] [(.int (2 : Int32)), (.int K)])) _
      refine XS.icmpYes X26.here hx rfl (pc0 := 20) (pc' := 27) rfl (hb hby at_20) rfl (tlt q).1 (by decide) (by decide) ?_
      show Steps p.tables e below (T26.setTop (mkF m 27 #[.val (.int p0), .val (.int K), .val (.ref (own_sel b_EQUAL b_NOT_EQUAL b_LESS b_LESS_OR_EQUAL b_GREATER b_GREATER_OR_EQUAL K)), .val (.int (if (own_sel b_EQUAL b_NOT_EQUAL b_LESS b_LESS_OR_EQUAL b_GREATER b_GREATER_OR_EQUAL K) = b_EQUAL ∨ (own_sel b_EQUAL b_NOT_EQUAL b_LESS b_LESS_OR_EQUAL b_GREATER b_GREATER_OR_EQUAL K) = b_NOT_EQUAL then (0 : Int32) else (1 : Int32))), .unset, .unset] [])) _
      refine XS.iconst X26.here hx rfl (hb hby at_27) ?_
      exact k
    · refine ⟨T26, X26, eh26, fun target k => ?_⟩
      rw [hvX, if_neg q] at k
      show Steps p.tables e below (T26.setTop (mkF m 20 #[.val (.int p0), .val (.int K), .val (.ref (own_sel b_EQUAL b_NOT_EQUAL b_LESS b_LESS_OR_EQUAL b_GREATER b_GREATER_OR_EQUAL K)), .val (.int (if (own_sel b_EQUAL b_NOT_EQUAL b_LESS b_LESS_OR_EQUAL b_GREATER b_GREATER_OR_EQUAL K) = b_EQUAL ∨ (own_sel b_EQUAL b_NOT_EQUAL b_LESS b_LESS_OR_EQUAL b_GREATER b_GREATER_OR_EQUAL K) = b_NOT_EQUAL then (0 : Int32) else (1 : Int32))), .unset, .unset] [(.int (2 : Int32)), (.int K)])) _
      refine XS.icmpNo X26.here hx rfl (hb hby at_20) rfl (flt q).1 ?_
      show Steps p.tables e below (T26.setTop (mkF m 23 #[.val (.int p0), .val (.int K), .val (.ref (own_sel b_EQUAL b_NOT_EQUAL b_LESS b_LESS_OR_EQUAL b_GREATER b_GREATER_OR_EQUAL K)), .val (.int (if (own_sel b_EQUAL b_NOT_EQUAL b_LESS b_LESS_OR_EQUAL b_GREATER b_GREATER_OR_EQUAL K) = b_EQUAL ∨ (own_sel b_EQUAL b_NOT_EQUAL b_LESS b_LESS_OR_EQUAL b_GREATER b_GREATER_OR_EQUAL K) = b_NOT_EQUAL then (0 : Int32) else (1 : Int32))), .unset, .unset] [])) _
      refine XS.iconst X26.here hx rfl (hb hby at_23) ?_
      show Steps p.tables e below (T26.setTop (mkF m 24 #[.val (.int p0), .val (.int K), .val (.ref (own_sel b_EQUAL b_NOT_EQUAL b_LESS b_LESS_OR_EQUAL b_GREATER b_GREATER_OR_EQUAL K)), .val (.int (if (own_sel b_EQUAL b_NOT_EQUAL b_LESS b_LESS_OR_EQUAL b_GREATER b_GREATER_OR_EQUAL K) = b_EQUAL ∨ (own_sel b_EQUAL b_NOT_EQUAL b_LESS b_LESS_OR_EQUAL b_GREATER b_GREATER_OR_EQUAL K) = b_NOT_EQUAL then (0 : Int32) else (1 : Int32))), .unset, .unset] [(.int (1 : Int32))])) _
      refine XS.goto X26.here hx rfl (pc0 := 24) (pc' := 28) rfl (hb hby at_24) (by decide) (by decide) ?_
      exact k)
  obtain ⟨cq28, kq28, q28a, q28b, q28c⟩ := isOf hZ e27 E_K
  obtain ⟨_, _, ⟨T28, L28, k28, n28⟩, -, X28, ⟨Lc28, hQ28, l28, y28, z28⟩, st28⟩ := X27.virtualBack hx (y := (⟨"com/example/occurrence/occurrence/colour/Guard$Relation", "holds", "(II)Z"⟩ : MethodName)) (z := (⟨"com/example/occurrence/occurrence/colour/Guard$Relation", "holds", "(II)Z"⟩ : MethodName)) hown (mvT hZ (hw _ (List.mem_of_getElem? (i := 14) rfl))) (mvT hZ (hw _ (List.mem_of_getElem? (i := 15) rfl))) (notFace_of_selects (args := #[]) (mvT hZ (hw _ (List.mem_of_getElem? (i := 17) rfl)))) (mvT hZ (hw _ (List.mem_of_getElem? (i := 17) rfl))) (mvT hZ (hw _ (List.mem_of_getElem? (i := 16) rfl))) (by decide) (backOf (W := 0) (rm_holds l Z a0 hw [] (own_sel b_EQUAL b_NOT_EQUAL b_LESS b_LESS_OR_EQUAL b_GREATER b_GREATER_OR_EQUAL K) (0 : Int32) (1 : Int32) K h0 n0 Z0 F_K E_K hK6) hZ (hw _ (List.mem_of_getElem? (i := 18) rfl)) (hw _ (List.mem_of_getElem? (i := 6) rfl)) (by decide) (by decide)) q28a q28c (g := (mkF m 33 #[.val (.int p0), .val (.int K), .val (.ref (own_sel b_EQUAL b_NOT_EQUAL b_LESS b_LESS_OR_EQUAL b_GREATER b_GREATER_OR_EQUAL K)), .val (.int (if (own_sel b_EQUAL b_NOT_EQUAL b_LESS b_LESS_OR_EQUAL b_GREATER b_GREATER_OR_EQUAL K) = b_EQUAL ∨ (own_sel b_EQUAL b_NOT_EQUAL b_LESS b_LESS_OR_EQUAL b_GREATER b_GREATER_OR_EQUAL K) = b_NOT_EQUAL then (0 : Int32) else (1 : Int32))), .val (.int vX), .unset] [(.int (1 : Int32)), (.int (0 : Int32)), (.ref (own_sel b_EQUAL b_NOT_EQUAL b_LESS b_LESS_OR_EQUAL b_GREATER b_GREATER_OR_EQUAL K))])) rfl (by rw [hml]; rfl) (Steps.refl _) (argsL := [(.int (0 : Int32)), (.int (1 : Int32))]) (rest := []) (lenOf own_pd3 rfl) rfl (by show 2 * 0 + _ ≤ _; exact Nat.le_of_eq rfl) (hb hby at_33) (fun _ _ => ⟨rfl, e27, (by decide : 0 + 0 ≤ _), (by decide : 0 + 0 ≤ _)⟩)
  dsimp only [Pt.U, Pt.locs, Pt.cells, Pt.slots] at X28 l28 y28 z28 st28 hQ28
  subst l28 y28 z28
  obtain ⟨rfl, Nq28, eh28⟩ := hQ28
  have N28 := Fr.app N26 Nq28
  obtain ⟨cq29, kq29, q29a, q29b, q29c⟩ := isOf hZ eh28 E_K
  obtain ⟨_, _, ⟨T29, L29, k29, n29⟩, -, X29, ⟨Lc29, hQ29, l29, y29, z29⟩, st29⟩ := X28.virtualBack hx (y := (⟨"com/example/occurrence/occurrence/colour/Guard$Relation", "holds", "(II)Z"⟩ : MethodName)) (z := (⟨"com/example/occurrence/occurrence/colour/Guard$Relation", "holds", "(II)Z"⟩ : MethodName)) hown (mvT hZ (hw _ (List.mem_of_getElem? (i := 14) rfl))) (mvT hZ (hw _ (List.mem_of_getElem? (i := 15) rfl))) (notFace_of_selects (args := #[]) (mvT hZ (hw _ (List.mem_of_getElem? (i := 17) rfl)))) (mvT hZ (hw _ (List.mem_of_getElem? (i := 17) rfl))) (mvT hZ (hw _ (List.mem_of_getElem? (i := 16) rfl))) (by decide) (backOf (W := 1) (rm_holds l Z a0 hw [] (own_sel b_EQUAL b_NOT_EQUAL b_LESS b_LESS_OR_EQUAL b_GREATER b_GREATER_OR_EQUAL K) (1 : Int32) (0 : Int32) K h0 n0 Z0 F_K E_K hK6) hZ (hw _ (List.mem_of_getElem? (i := 18) rfl)) (hw _ (List.mem_of_getElem? (i := 6) rfl)) (by decide) (by decide)) q29a q29c (g := (mkF m 39 #[.val (.int p0), .val (.int K), .val (.ref (own_sel b_EQUAL b_NOT_EQUAL b_LESS b_LESS_OR_EQUAL b_GREATER b_GREATER_OR_EQUAL K)), .val (.int (if (own_sel b_EQUAL b_NOT_EQUAL b_LESS b_LESS_OR_EQUAL b_GREATER b_GREATER_OR_EQUAL K) = b_EQUAL ∨ (own_sel b_EQUAL b_NOT_EQUAL b_LESS b_LESS_OR_EQUAL b_GREATER b_GREATER_OR_EQUAL K) = b_NOT_EQUAL then (0 : Int32) else (1 : Int32))), .val (.int vX), .unset] [(.int (0 : Int32)), (.int (1 : Int32)), (.ref (own_sel b_EQUAL b_NOT_EQUAL b_LESS b_LESS_OR_EQUAL b_GREATER b_GREATER_OR_EQUAL K)), (.int (own_holds K (0 : Int32) (1 : Int32)))])) rfl (by rw [hml]; rfl) (Steps.refl _) (argsL := [(.int (1 : Int32)), (.int (0 : Int32))]) (rest := [(.int (own_holds K (0 : Int32) (1 : Int32)))]) (lenOf own_pd3 rfl) rfl (by show 2 * 0 + _ ≤ _; exact Nat.le_of_eq rfl) (hb hby at_39) (fun _ _ => ⟨rfl, eh28, (by decide : 0 + 0 ≤ _), (by decide : 0 + 0 ≤ _)⟩)
  dsimp only [Pt.U, Pt.locs, Pt.cells, Pt.slots] at X29 l29 y29 z29 st29 hQ29
  subst l29 y29 z29
  obtain ⟨rfl, Nq29, eh29⟩ := hQ29
  have N29 := Fr.app N28 Nq29
  obtain ⟨T30, X30, e30, st30⟩ := own_join X29 (h := h0) (g := (mkF m 42 #[.val (.int p0), .val (.int K), .val (.ref (own_sel b_EQUAL b_NOT_EQUAL b_LESS b_LESS_OR_EQUAL b_GREATER b_GREATER_OR_EQUAL K)), .val (.int (if (own_sel b_EQUAL b_NOT_EQUAL b_LESS b_LESS_OR_EQUAL b_GREATER b_GREATER_OR_EQUAL K) = b_EQUAL ∨ (own_sel b_EQUAL b_NOT_EQUAL b_LESS b_LESS_OR_EQUAL b_GREATER b_GREATER_OR_EQUAL K) = b_NOT_EQUAL then (0 : Int32) else (1 : Int32))), .val (.int vX), .unset] [(.int (own_holds K (1 : Int32) (0 : Int32))), (.int (own_holds K (0 : Int32) (1 : Int32)))])) (g' := (mkF m 50 #[.val (.int p0), .val (.int K), .val (.ref (own_sel b_EQUAL b_NOT_EQUAL b_LESS b_LESS_OR_EQUAL b_GREATER b_GREATER_OR_EQUAL K)), .val (.int (if (own_sel b_EQUAL b_NOT_EQUAL b_LESS b_LESS_OR_EQUAL b_GREATER b_GREATER_OR_EQUAL K) = b_EQUAL ∨ (own_sel b_EQUAL b_NOT_EQUAL b_LESS b_LESS_OR_EQUAL b_GREATER b_GREATER_OR_EQUAL K) = b_NOT_EQUAL then (0 : Int32) else (1 : Int32))), .val (.int vX), .unset] [(.int vD)])) (by
    by_cases q : (own_holds K (0 : Int32) (1 : Int32)) = (own_holds K (1 : Int32) (0 : Int32))
    · refine ⟨T29, X29, eh29, fun target k => ?_⟩
      rw [hvD, if_pos q] at k
      show Steps p.tables e below (T29.setTop (mkF m 42 #[.val (.int p0), .val (.int K), .val (.ref (own_sel b_EQUAL b_NOT_EQUAL b_LESS b_LESS_OR_EQUAL b_GREATER b_GREATER_OR_EQUAL K)), .val (.int (if (own_sel b_EQUAL b_NOT_EQUAL b_LESS b_LESS_OR_EQUAL b_GREATER b_GREATER_OR_EQUAL K) = b_EQUAL ∨ (own_sel b_EQUAL b_NOT_EQUAL b_LESS b_LESS_OR_EQUAL b_GREATER b_GREATER_OR_EQUAL K) = b_NOT_EQUAL then (0 : Int32) else (1 : Int32))), .val (.int vX), .unset] [(.int (own_holds K (1 : Int32) (0 : Int32))), (.int (own_holds K (0 : Int32) (1 : Int32)))])) _
      refine XS.icmpYes X29.here hx rfl (pc0 := 42) (pc' := 49) rfl (hb hby at_42) rfl (teq q).1 (by decide) (by decide) ?_
      show Steps p.tables e below (T29.setTop (mkF m 49 #[.val (.int p0), .val (.int K), .val (.ref (own_sel b_EQUAL b_NOT_EQUAL b_LESS b_LESS_OR_EQUAL b_GREATER b_GREATER_OR_EQUAL K)), .val (.int (if (own_sel b_EQUAL b_NOT_EQUAL b_LESS b_LESS_OR_EQUAL b_GREATER b_GREATER_OR_EQUAL K) = b_EQUAL ∨ (own_sel b_EQUAL b_NOT_EQUAL b_LESS b_LESS_OR_EQUAL b_GREATER b_GREATER_OR_EQUAL K) = b_NOT_EQUAL then (0 : Int32) else (1 : Int32))), .val (.int vX), .unset] [])) _
      refine XS.iconst X29.here hx rfl (hb hby at_49) ?_
      exact k
    · refine ⟨T29, X29, eh29, fun target k => ?_⟩
      rw [hvD, if_neg q] at k
      show Steps p.tables e below (T29.setTop (mkF m 42 #[.val (.int p0), .val (.int K), .val (.ref (own_sel b_EQUAL b_NOT_EQUAL b_LESS b_LESS_OR_EQUAL b_GREATER b_GREATER_OR_EQUAL K)), .val (.int (if (own_sel b_EQUAL b_NOT_EQUAL b_LESS b_LESS_OR_EQUAL b_GREATER b_GREATER_OR_EQUAL K) = b_EQUAL ∨ (own_sel b_EQUAL b_NOT_EQUAL b_LESS b_LESS_OR_EQUAL b_GREATER b_GREATER_OR_EQUAL K) = b_NOT_EQUAL then (0 : Int32) else (1 : Int32))), .val (.int vX), .unset] [(.int (own_holds K (1 : Int32) (0 : Int32))), (.int (own_holds K (0 : Int32) (1 : Int32)))])) _
      refine XS.icmpNo X29.here hx rfl (hb hby at_42) rfl (feq q).1 ?_
      show Steps p.tables e below (T29.setTop (mkF m 45 #[.val (.int p0), .val (.int K), .val (.ref (own_sel b_EQUAL b_NOT_EQUAL b_LESS b_LESS_OR_EQUAL b_GREATER b_GREATER_OR_EQUAL K)), .val (.int (if (own_sel b_EQUAL b_NOT_EQUAL b_LESS b_LESS_OR_EQUAL b_GREATER b_GREATER_OR_EQUAL K) = b_EQUAL ∨ (own_sel b_EQUAL b_NOT_EQUAL b_LESS b_LESS_OR_EQUAL b_GREATER b_GREATER_OR_EQUAL K) = b_NOT_EQUAL then (0 : Int32) else (1 : Int32))), .val (.int vX), .unset] [])) _
      refine XS.iconst X29.here hx rfl (hb hby at_45) ?_
      show Steps p.tables e below (T29.setTop (mkF m 46 #[.val (.int p0), .val (.int K), .val (.ref (own_sel b_EQUAL b_NOT_EQUAL b_LESS b_LESS_OR_EQUAL b_GREATER b_GREATER_OR_EQUAL K)), .val (.int (if (own_sel b_EQUAL b_NOT_EQUAL b_LESS b_LESS_OR_EQUAL b_GREATER b_GREATER_OR_EQUAL K) = b_EQUAL ∨ (own_sel b_EQUAL b_NOT_EQUAL b_LESS b_LESS_OR_EQUAL b_GREATER b_GREATER_OR_EQUAL K) = b_NOT_EQUAL then (0 : Int32) else (1 : Int32))), .val (.int vX), .unset] [(.int (1 : Int32))])) _
      refine XS.goto X29.here hx rfl (pc0 := 46) (pc' := 50) rfl (hb hby at_46) (by decide) (by decide) ?_
      exact k)
  obtain ⟨fs, hr, hrun, hended, hW, hsame⟩ := X30.leave (v := some (.int (1 : Int32))) (fun h => by rw [Bd.returns] at h; cases h)
  refine ⟨_, _, pre0 _ ?_, hrun, hended, _, _, rfl, ?_, ⟨_, rfl⟩, hW, hsame.mono (by decide) (by decide)⟩
  · show Steps p.tables e below (s₁.setTop (mkF m 0 #[.val (.int p0), .unset, .unset, .unset, .unset, .unset] [])) _
    refine XS.iloadN X0.here hx rfl (hb hby at_0) rfl ?_
    show Steps p.tables e below (s₁.setTop (mkF m 1 #[.val (.int p0), .unset, .unset, .unset, .unset, .unset] [(.int p0)])) _
    refine X0.ldcI hx hown (mvT hZ (hw _ (List.mem_of_getElem? (i := 0) rfl))) (g := (mkF m 1 #[.val (.int p0), .unset, .unset, .unset, .unset, .unset] [(.int p0)])) rfl (hb hby at_1) ?_
    show Steps p.tables e below (s₁.setTop (mkF m 3 #[.val (.int p0), .unset, .unset, .unset, .unset, .unset] [(.int (2147483647 : Int32)), (.int p0)])) _
    refine XS.iand X0.here hx rfl (hb hby at_3) rfl ?_
    show Steps p.tables e below (s₁.setTop (mkF m 4 #[.val (.int p0), .unset, .unset, .unset, .unset, .unset] [(.int (p0 &&& (2147483647 : Int32)))])) _
    refine XS.bipush X0.here hx rfl (hb hby at_4) ?_
    show Steps p.tables e below (s₁.setTop (mkF m 6 #[.val (.int p0), .unset, .unset, .unset, .unset, .unset] [(.int (6 : Int32)), (.int (p0 &&& (2147483647 : Int32)))])) _
    refine iremM X0 hx rfl (hb hby at_6) rfl (by decide) ?_
    rw [hK]
    show Steps p.tables e below (s₁.setTop (mkF m 7 #[.val (.int p0), .unset, .unset, .unset, .unset, .unset] [(.int K)])) _
    refine XS.istoreN X0.here hx rfl (hb hby at_7) rfl (l' := #[.val (.int p0), .val (.int K), .unset, .unset, .unset, .unset]) rfl ?_
    show Steps p.tables e below (s₁.setTop (mkF m 8 #[.val (.int p0), .val (.int K), .unset, .unset, .unset, .unset] [])) _
    refine XS.iloadN X0.here hx rfl (hb hby at_8) rfl ?_
    show Steps p.tables e below (s₁.setTop (mkF m 9 #[.val (.int p0), .val (.int K), .unset, .unset, .unset, .unset] [(.int K)])) _
    refine st25 _ ?_
    show Steps p.tables e below (T25.setTop (mkF m 12 #[.val (.int p0), .val (.int K), .unset, .unset, .unset, .unset] [(.ref (own_sel b_EQUAL b_NOT_EQUAL b_LESS b_LESS_OR_EQUAL b_GREATER b_GREATER_OR_EQUAL K))])) _
    refine XS.astoreN X25.here hx rfl (hb hby at_12) rfl rfl (l' := #[.val (.int p0), .val (.int K), .val (.ref (own_sel b_EQUAL b_NOT_EQUAL b_LESS b_LESS_OR_EQUAL b_GREATER b_GREATER_OR_EQUAL K)), .unset, .unset, .unset]) rfl ?_
    show Steps p.tables e below (T25.setTop (mkF m 13 #[.val (.int p0), .val (.int K), .val (.ref (own_sel b_EQUAL b_NOT_EQUAL b_LESS b_LESS_OR_EQUAL b_GREATER b_GREATER_OR_EQUAL K)), .unset, .unset, .unset] [])) _
    refine XS.aloadN X25.here hx rfl (hb hby at_13) rfl rfl ?_
    show Steps p.tables e below (T25.setTop (mkF m 14 #[.val (.int p0), .val (.int K), .val (.ref (own_sel b_EQUAL b_NOT_EQUAL b_LESS b_LESS_OR_EQUAL b_GREATER b_GREATER_OR_EQUAL K)), .unset, .unset, .unset] [(.ref (own_sel b_EQUAL b_NOT_EQUAL b_LESS b_LESS_OR_EQUAL b_GREATER b_GREATER_OR_EQUAL K))])) _
    refine st26.trans ?_
    show Steps p.tables e below (T26.setTop (mkF m 17 #[.val (.int p0), .val (.int K), .val (.ref (own_sel b_EQUAL b_NOT_EQUAL b_LESS b_LESS_OR_EQUAL b_GREATER b_GREATER_OR_EQUAL K)), .unset, .unset, .unset] [(.int (if (own_sel b_EQUAL b_NOT_EQUAL b_LESS b_LESS_OR_EQUAL b_GREATER b_GREATER_OR_EQUAL K) = b_EQUAL ∨ (own_sel b_EQUAL b_NOT_EQUAL b_LESS b_LESS_OR_EQUAL b_GREATER b_GREATER_OR_EQUAL K) = b_NOT_EQUAL then (0 : Int32) else (1 : Int32)))])) _
    refine XS.istoreN X26.here hx rfl (hb hby at_17) rfl (l' := #[.val (.int p0), .val (.int K), .val (.ref (own_sel b_EQUAL b_NOT_EQUAL b_LESS b_LESS_OR_EQUAL b_GREATER b_GREATER_OR_EQUAL K)), .val (.int (if (own_sel b_EQUAL b_NOT_EQUAL b_LESS b_LESS_OR_EQUAL b_GREATER b_GREATER_OR_EQUAL K) = b_EQUAL ∨ (own_sel b_EQUAL b_NOT_EQUAL b_LESS b_LESS_OR_EQUAL b_GREATER b_GREATER_OR_EQUAL K) = b_NOT_EQUAL then (0 : Int32) else (1 : Int32))), .unset, .unset]) rfl ?_
    show Steps p.tables e below (T26.setTop (mkF m 18 #[.val (.int p0), .val (.int K), .val (.ref (own_sel b_EQUAL b_NOT_EQUAL b_LESS b_LESS_OR_EQUAL b_GREATER b_GREATER_OR_EQUAL K)), .val (.int (if (own_sel b_EQUAL b_NOT_EQUAL b_LESS b_LESS_OR_EQUAL b_GREATER b_GREATER_OR_EQUAL K) = b_EQUAL ∨ (own_sel b_EQUAL b_NOT_EQUAL b_LESS b_LESS_OR_EQUAL b_GREATER b_GREATER_OR_EQUAL K) = b_NOT_EQUAL then (0 : Int32) else (1 : Int32))), .unset, .unset] [])) _
    refine XS.iloadN X26.here hx rfl (hb hby at_18) rfl ?_
    show Steps p.tables e below (T26.setTop (mkF m 19 #[.val (.int p0), .val (.int K), .val (.ref (own_sel b_EQUAL b_NOT_EQUAL b_LESS b_LESS_OR_EQUAL b_GREATER b_GREATER_OR_EQUAL K)), .val (.int (if (own_sel b_EQUAL b_NOT_EQUAL b_LESS b_LESS_OR_EQUAL b_GREATER b_GREATER_OR_EQUAL K) = b_EQUAL ∨ (own_sel b_EQUAL b_NOT_EQUAL b_LESS b_LESS_OR_EQUAL b_GREATER b_GREATER_OR_EQUAL K) = b_NOT_EQUAL then (0 : Int32) else (1 : Int32))), .unset, .unset] [(.int K)])) _
    refine XS.iconst X26.here hx rfl (hb hby at_19) ?_
    show Steps p.tables e below (T26.setTop (mkF m 20 #[.val (.int p0), .val (.int K), .val (.ref (own_sel b_EQUAL b_NOT_EQUAL b_LESS b_LESS_OR_EQUAL b_GREATER b_GREATER_OR_EQUAL K)), .val (.int (if (own_sel b_EQUAL b_NOT_EQUAL b_LESS b_LESS_OR_EQUAL b_GREATER b_GREATER_OR_EQUAL K) = b_EQUAL ∨ (own_sel b_EQUAL b_NOT_EQUAL b_LESS b_LESS_OR_EQUAL b_GREATER b_GREATER_OR_EQUAL K) = b_NOT_EQUAL then (0 : Int32) else (1 : Int32))), .unset, .unset] [(.int (2 : Int32)), (.int K)])) _
    refine st27 _ ?_
    show Steps p.tables e below (T27.setTop (mkF m 28 #[.val (.int p0), .val (.int K), .val (.ref (own_sel b_EQUAL b_NOT_EQUAL b_LESS b_LESS_OR_EQUAL b_GREATER b_GREATER_OR_EQUAL K)), .val (.int (if (own_sel b_EQUAL b_NOT_EQUAL b_LESS b_LESS_OR_EQUAL b_GREATER b_GREATER_OR_EQUAL K) = b_EQUAL ∨ (own_sel b_EQUAL b_NOT_EQUAL b_LESS b_LESS_OR_EQUAL b_GREATER b_GREATER_OR_EQUAL K) = b_NOT_EQUAL then (0 : Int32) else (1 : Int32))), .unset, .unset] [(.int vX)])) _
    refine XS.istore X27.here hx rfl (hb hby at_28) rfl (l' := #[.val (.int p0), .val (.int K), .val (.ref (own_sel b_EQUAL b_NOT_EQUAL b_LESS b_LESS_OR_EQUAL b_GREATER b_GREATER_OR_EQUAL K)), .val (.int (if (own_sel b_EQUAL b_NOT_EQUAL b_LESS b_LESS_OR_EQUAL b_GREATER b_GREATER_OR_EQUAL K) = b_EQUAL ∨ (own_sel b_EQUAL b_NOT_EQUAL b_LESS b_LESS_OR_EQUAL b_GREATER b_GREATER_OR_EQUAL K) = b_NOT_EQUAL then (0 : Int32) else (1 : Int32))), .val (.int vX), .unset]) rfl ?_
    show Steps p.tables e below (T27.setTop (mkF m 30 #[.val (.int p0), .val (.int K), .val (.ref (own_sel b_EQUAL b_NOT_EQUAL b_LESS b_LESS_OR_EQUAL b_GREATER b_GREATER_OR_EQUAL K)), .val (.int (if (own_sel b_EQUAL b_NOT_EQUAL b_LESS b_LESS_OR_EQUAL b_GREATER b_GREATER_OR_EQUAL K) = b_EQUAL ∨ (own_sel b_EQUAL b_NOT_EQUAL b_LESS b_LESS_OR_EQUAL b_GREATER b_GREATER_OR_EQUAL K) = b_NOT_EQUAL then (0 : Int32) else (1 : Int32))), .val (.int vX), .unset] [])) _
    refine XS.aloadN X27.here hx rfl (hb hby at_30) rfl rfl ?_
    show Steps p.tables e below (T27.setTop (mkF m 31 #[.val (.int p0), .val (.int K), .val (.ref (own_sel b_EQUAL b_NOT_EQUAL b_LESS b_LESS_OR_EQUAL b_GREATER b_GREATER_OR_EQUAL K)), .val (.int (if (own_sel b_EQUAL b_NOT_EQUAL b_LESS b_LESS_OR_EQUAL b_GREATER b_GREATER_OR_EQUAL K) = b_EQUAL ∨ (own_sel b_EQUAL b_NOT_EQUAL b_LESS b_LESS_OR_EQUAL b_GREATER b_GREATER_OR_EQUAL K) = b_NOT_EQUAL then (0 : Int32) else (1 : Int32))), .val (.int vX), .unset] [(.ref (own_sel b_EQUAL b_NOT_EQUAL b_LESS b_LESS_OR_EQUAL b_GREATER b_GREATER_OR_EQUAL K))])) _
    refine XS.iconst X27.here hx rfl (hb hby at_31) ?_
    show Steps p.tables e below (T27.setTop (mkF m 32 #[.val (.int p0), .val (.int K), .val (.ref (own_sel b_EQUAL b_NOT_EQUAL b_LESS b_LESS_OR_EQUAL b_GREATER b_GREATER_OR_EQUAL K)), .val (.int (if (own_sel b_EQUAL b_NOT_EQUAL b_LESS b_LESS_OR_EQUAL b_GREATER b_GREATER_OR_EQUAL K) = b_EQUAL ∨ (own_sel b_EQUAL b_NOT_EQUAL b_LESS b_LESS_OR_EQUAL b_GREATER b_GREATER_OR_EQUAL K) = b_NOT_EQUAL then (0 : Int32) else (1 : Int32))), .val (.int vX), .unset] [(.int (0 : Int32)), (.ref (own_sel b_EQUAL b_NOT_EQUAL b_LESS b_LESS_OR_EQUAL b_GREATER b_GREATER_OR_EQUAL K))])) _
    refine XS.iconst X27.here hx rfl (hb hby at_32) ?_
    show Steps p.tables e below (T27.setTop (mkF m 33 #[.val (.int p0), .val (.int K), .val (.ref (own_sel b_EQUAL b_NOT_EQUAL b_LESS b_LESS_OR_EQUAL b_GREATER b_GREATER_OR_EQUAL K)), .val (.int (if (own_sel b_EQUAL b_NOT_EQUAL b_LESS b_LESS_OR_EQUAL b_GREATER b_GREATER_OR_EQUAL K) = b_EQUAL ∨ (own_sel b_EQUAL b_NOT_EQUAL b_LESS b_LESS_OR_EQUAL b_GREATER b_GREATER_OR_EQUAL K) = b_NOT_EQUAL then (0 : Int32) else (1 : Int32))), .val (.int vX), .unset] [(.int (1 : Int32)), (.int (0 : Int32)), (.ref (own_sel b_EQUAL b_NOT_EQUAL b_LESS b_LESS_OR_EQUAL b_GREATER b_GREATER_OR_EQUAL K))])) _
    refine st28.trans ?_
    show Steps p.tables e below (T28.setTop (mkF m 36 #[.val (.int p0), .val (.int K), .val (.ref (own_sel b_EQUAL b_NOT_EQUAL b_LESS b_LESS_OR_EQUAL b_GREATER b_GREATER_OR_EQUAL K)), .val (.int (if (own_sel b_EQUAL b_NOT_EQUAL b_LESS b_LESS_OR_EQUAL b_GREATER b_GREATER_OR_EQUAL K) = b_EQUAL ∨ (own_sel b_EQUAL b_NOT_EQUAL b_LESS b_LESS_OR_EQUAL b_GREATER b_GREATER_OR_EQUAL K) = b_NOT_EQUAL then (0 : Int32) else (1 : Int32))), .val (.int vX), .unset] [(.int (own_holds K (0 : Int32) (1 : Int32)))])) _
    refine XS.aloadN X28.here hx rfl (hb hby at_36) rfl rfl ?_
    show Steps p.tables e below (T28.setTop (mkF m 37 #[.val (.int p0), .val (.int K), .val (.ref (own_sel b_EQUAL b_NOT_EQUAL b_LESS b_LESS_OR_EQUAL b_GREATER b_GREATER_OR_EQUAL K)), .val (.int (if (own_sel b_EQUAL b_NOT_EQUAL b_LESS b_LESS_OR_EQUAL b_GREATER b_GREATER_OR_EQUAL K) = b_EQUAL ∨ (own_sel b_EQUAL b_NOT_EQUAL b_LESS b_LESS_OR_EQUAL b_GREATER b_GREATER_OR_EQUAL K) = b_NOT_EQUAL then (0 : Int32) else (1 : Int32))), .val (.int vX), .unset] [(.ref (own_sel b_EQUAL b_NOT_EQUAL b_LESS b_LESS_OR_EQUAL b_GREATER b_GREATER_OR_EQUAL K)), (.int (own_holds K (0 : Int32) (1 : Int32)))])) _
    refine XS.iconst X28.here hx rfl (hb hby at_37) ?_
    show Steps p.tables e below (T28.setTop (mkF m 38 #[.val (.int p0), .val (.int K), .val (.ref (own_sel b_EQUAL b_NOT_EQUAL b_LESS b_LESS_OR_EQUAL b_GREATER b_GREATER_OR_EQUAL K)), .val (.int (if (own_sel b_EQUAL b_NOT_EQUAL b_LESS b_LESS_OR_EQUAL b_GREATER b_GREATER_OR_EQUAL K) = b_EQUAL ∨ (own_sel b_EQUAL b_NOT_EQUAL b_LESS b_LESS_OR_EQUAL b_GREATER b_GREATER_OR_EQUAL K) = b_NOT_EQUAL then (0 : Int32) else (1 : Int32))), .val (.int vX), .unset] [(.int (1 : Int32)), (.ref (own_sel b_EQUAL b_NOT_EQUAL b_LESS b_LESS_OR_EQUAL b_GREATER b_GREATER_OR_EQUAL K)), (.int (own_holds K (0 : Int32) (1 : Int32)))])) _
    refine XS.iconst X28.here hx rfl (hb hby at_38) ?_
    show Steps p.tables e below (T28.setTop (mkF m 39 #[.val (.int p0), .val (.int K), .val (.ref (own_sel b_EQUAL b_NOT_EQUAL b_LESS b_LESS_OR_EQUAL b_GREATER b_GREATER_OR_EQUAL K)), .val (.int (if (own_sel b_EQUAL b_NOT_EQUAL b_LESS b_LESS_OR_EQUAL b_GREATER b_GREATER_OR_EQUAL K) = b_EQUAL ∨ (own_sel b_EQUAL b_NOT_EQUAL b_LESS b_LESS_OR_EQUAL b_GREATER b_GREATER_OR_EQUAL K) = b_NOT_EQUAL then (0 : Int32) else (1 : Int32))), .val (.int vX), .unset] [(.int (0 : Int32)), (.int (1 : Int32)), (.ref (own_sel b_EQUAL b_NOT_EQUAL b_LESS b_LESS_OR_EQUAL b_GREATER b_GREATER_OR_EQUAL K)), (.int (own_holds K (0 : Int32) (1 : Int32)))])) _
    refine st29.trans ?_
    show Steps p.tables e below (T29.setTop (mkF m 42 #[.val (.int p0), .val (.int K), .val (.ref (own_sel b_EQUAL b_NOT_EQUAL b_LESS b_LESS_OR_EQUAL b_GREATER b_GREATER_OR_EQUAL K)), .val (.int (if (own_sel b_EQUAL b_NOT_EQUAL b_LESS b_LESS_OR_EQUAL b_GREATER b_GREATER_OR_EQUAL K) = b_EQUAL ∨ (own_sel b_EQUAL b_NOT_EQUAL b_LESS b_LESS_OR_EQUAL b_GREATER b_GREATER_OR_EQUAL K) = b_NOT_EQUAL then (0 : Int32) else (1 : Int32))), .val (.int vX), .unset] [(.int (own_holds K (1 : Int32) (0 : Int32))), (.int (own_holds K (0 : Int32) (1 : Int32)))])) _
    refine st30 _ ?_
    show Steps p.tables e below (T30.setTop (mkF m 50 #[.val (.int p0), .val (.int K), .val (.ref (own_sel b_EQUAL b_NOT_EQUAL b_LESS b_LESS_OR_EQUAL b_GREATER b_GREATER_OR_EQUAL K)), .val (.int (if (own_sel b_EQUAL b_NOT_EQUAL b_LESS b_LESS_OR_EQUAL b_GREATER b_GREATER_OR_EQUAL K) = b_EQUAL ∨ (own_sel b_EQUAL b_NOT_EQUAL b_LESS b_LESS_OR_EQUAL b_GREATER b_GREATER_OR_EQUAL K) = b_NOT_EQUAL then (0 : Int32) else (1 : Int32))), .val (.int vX), .unset] [(.int vD)])) _
    refine XS.istore X30.here hx rfl (hb hby at_50) rfl (l' := #[.val (.int p0), .val (.int K), .val (.ref (own_sel b_EQUAL b_NOT_EQUAL b_LESS b_LESS_OR_EQUAL b_GREATER b_GREATER_OR_EQUAL K)), .val (.int (if (own_sel b_EQUAL b_NOT_EQUAL b_LESS b_LESS_OR_EQUAL b_GREATER b_GREATER_OR_EQUAL K) = b_EQUAL ∨ (own_sel b_EQUAL b_NOT_EQUAL b_LESS b_LESS_OR_EQUAL b_GREATER b_GREATER_OR_EQUAL K) = b_NOT_EQUAL then (0 : Int32) else (1 : Int32))), .val (.int vX), .val (.int vD)]) rfl ?_
    show Steps p.tables e below (T30.setTop (mkF m 52 #[.val (.int p0), .val (.int K), .val (.ref (own_sel b_EQUAL b_NOT_EQUAL b_LESS b_LESS_OR_EQUAL b_GREATER b_GREATER_OR_EQUAL K)), .val (.int (if (own_sel b_EQUAL b_NOT_EQUAL b_LESS b_LESS_OR_EQUAL b_GREATER b_GREATER_OR_EQUAL K) = b_EQUAL ∨ (own_sel b_EQUAL b_NOT_EQUAL b_LESS b_LESS_OR_EQUAL b_GREATER b_GREATER_OR_EQUAL K) = b_NOT_EQUAL then (0 : Int32) else (1 : Int32))), .val (.int vX), .val (.int vD)] [])) _
    refine XS.iloadN X30.here hx rfl (hb hby at_52) rfl ?_
    show Steps p.tables e below (T30.setTop (mkF m 53 #[.val (.int p0), .val (.int K), .val (.ref (own_sel b_EQUAL b_NOT_EQUAL b_LESS b_LESS_OR_EQUAL b_GREATER b_GREATER_OR_EQUAL K)), .val (.int (if (own_sel b_EQUAL b_NOT_EQUAL b_LESS b_LESS_OR_EQUAL b_GREATER b_GREATER_OR_EQUAL K) = b_EQUAL ∨ (own_sel b_EQUAL b_NOT_EQUAL b_LESS b_LESS_OR_EQUAL b_GREATER b_GREATER_OR_EQUAL K) = b_NOT_EQUAL then (0 : Int32) else (1 : Int32))), .val (.int vX), .val (.int vD)] [(.int (if (own_sel b_EQUAL b_NOT_EQUAL b_LESS b_LESS_OR_EQUAL b_GREATER b_GREATER_OR_EQUAL K) = b_EQUAL ∨ (own_sel b_EQUAL b_NOT_EQUAL b_LESS b_LESS_OR_EQUAL b_GREATER b_GREATER_OR_EQUAL K) = b_NOT_EQUAL then (0 : Int32) else (1 : Int32)))])) _
    refine XS.iload X30.here hx rfl (hb hby at_53) rfl ?_
    show Steps p.tables e below (T30.setTop (mkF m 55 #[.val (.int p0), .val (.int K), .val (.ref (own_sel b_EQUAL b_NOT_EQUAL b_LESS b_LESS_OR_EQUAL b_GREATER b_GREATER_OR_EQUAL K)), .val (.int (if (own_sel b_EQUAL b_NOT_EQUAL b_LESS b_LESS_OR_EQUAL b_GREATER b_GREATER_OR_EQUAL K) = b_EQUAL ∨ (own_sel b_EQUAL b_NOT_EQUAL b_LESS b_LESS_OR_EQUAL b_GREATER b_GREATER_OR_EQUAL K) = b_NOT_EQUAL then (0 : Int32) else (1 : Int32))), .val (.int vX), .val (.int vD)] [(.int vX), (.int (if (own_sel b_EQUAL b_NOT_EQUAL b_LESS b_LESS_OR_EQUAL b_GREATER b_GREATER_OR_EQUAL K) = b_EQUAL ∨ (own_sel b_EQUAL b_NOT_EQUAL b_LESS b_LESS_OR_EQUAL b_GREATER b_GREATER_OR_EQUAL K) = b_NOT_EQUAL then (0 : Int32) else (1 : Int32)))])) _
    refine XS.icmpNo X30.here hx rfl (hb hby at_55) rfl (teq hf1).2 ?_
    show Steps p.tables e below (T30.setTop (mkF m 58 #[.val (.int p0), .val (.int K), .val (.ref (own_sel b_EQUAL b_NOT_EQUAL b_LESS b_LESS_OR_EQUAL b_GREATER b_GREATER_OR_EQUAL K)), .val (.int (if (own_sel b_EQUAL b_NOT_EQUAL b_LESS b_LESS_OR_EQUAL b_GREATER b_GREATER_OR_EQUAL K) = b_EQUAL ∨ (own_sel b_EQUAL b_NOT_EQUAL b_LESS b_LESS_OR_EQUAL b_GREATER b_GREATER_OR_EQUAL K) = b_NOT_EQUAL then (0 : Int32) else (1 : Int32))), .val (.int vX), .val (.int vD)] [])) _
    refine XS.iloadN X30.here hx rfl (hb hby at_58) rfl ?_
    show Steps p.tables e below (T30.setTop (mkF m 59 #[.val (.int p0), .val (.int K), .val (.ref (own_sel b_EQUAL b_NOT_EQUAL b_LESS b_LESS_OR_EQUAL b_GREATER b_GREATER_OR_EQUAL K)), .val (.int (if (own_sel b_EQUAL b_NOT_EQUAL b_LESS b_LESS_OR_EQUAL b_GREATER b_GREATER_OR_EQUAL K) = b_EQUAL ∨ (own_sel b_EQUAL b_NOT_EQUAL b_LESS b_LESS_OR_EQUAL b_GREATER b_GREATER_OR_EQUAL K) = b_NOT_EQUAL then (0 : Int32) else (1 : Int32))), .val (.int vX), .val (.int vD)] [(.int (if (own_sel b_EQUAL b_NOT_EQUAL b_LESS b_LESS_OR_EQUAL b_GREATER b_GREATER_OR_EQUAL K) = b_EQUAL ∨ (own_sel b_EQUAL b_NOT_EQUAL b_LESS b_LESS_OR_EQUAL b_GREATER b_GREATER_OR_EQUAL K) = b_NOT_EQUAL then (0 : Int32) else (1 : Int32)))])) _
    refine XS.iload X30.here hx rfl (hb hby at_59) rfl ?_
    show Steps p.tables e below (T30.setTop (mkF m 61 #[.val (.int p0), .val (.int K), .val (.ref (own_sel b_EQUAL b_NOT_EQUAL b_LESS b_LESS_OR_EQUAL b_GREATER b_GREATER_OR_EQUAL K)), .val (.int (if (own_sel b_EQUAL b_NOT_EQUAL b_LESS b_LESS_OR_EQUAL b_GREATER b_GREATER_OR_EQUAL K) = b_EQUAL ∨ (own_sel b_EQUAL b_NOT_EQUAL b_LESS b_LESS_OR_EQUAL b_GREATER b_GREATER_OR_EQUAL K) = b_NOT_EQUAL then (0 : Int32) else (1 : Int32))), .val (.int vX), .val (.int vD)] [(.int vD), (.int (if (own_sel b_EQUAL b_NOT_EQUAL b_LESS b_LESS_OR_EQUAL b_GREATER b_GREATER_OR_EQUAL K) = b_EQUAL ∨ (own_sel b_EQUAL b_NOT_EQUAL b_LESS b_LESS_OR_EQUAL b_GREATER b_GREATER_OR_EQUAL K) = b_NOT_EQUAL then (0 : Int32) else (1 : Int32)))])) _
    refine XS.icmpNo X30.here hx rfl (hb hby at_61) rfl (teq hf2).2 ?_
    show Steps p.tables e below (T30.setTop (mkF m 64 #[.val (.int p0), .val (.int K), .val (.ref (own_sel b_EQUAL b_NOT_EQUAL b_LESS b_LESS_OR_EQUAL b_GREATER b_GREATER_OR_EQUAL K)), .val (.int (if (own_sel b_EQUAL b_NOT_EQUAL b_LESS b_LESS_OR_EQUAL b_GREATER b_GREATER_OR_EQUAL K) = b_EQUAL ∨ (own_sel b_EQUAL b_NOT_EQUAL b_LESS b_LESS_OR_EQUAL b_GREATER b_GREATER_OR_EQUAL K) = b_NOT_EQUAL then (0 : Int32) else (1 : Int32))), .val (.int vX), .val (.int vD)] [])) _
    refine XS.iconst X30.here hx rfl (hb hby at_64) ?_
    show Steps p.tables e below (T30.setTop (mkF m 65 #[.val (.int p0), .val (.int K), .val (.ref (own_sel b_EQUAL b_NOT_EQUAL b_LESS b_LESS_OR_EQUAL b_GREATER b_GREATER_OR_EQUAL K)), .val (.int (if (own_sel b_EQUAL b_NOT_EQUAL b_LESS b_LESS_OR_EQUAL b_GREATER b_GREATER_OR_EQUAL K) = b_EQUAL ∨ (own_sel b_EQUAL b_NOT_EQUAL b_LESS b_LESS_OR_EQUAL b_GREATER b_GREATER_OR_EQUAL K) = b_NOT_EQUAL then (0 : Int32) else (1 : Int32))), .val (.int vX), .val (.int vD)] [(.int (1 : Int32))])) _
    refine XS.goto X30.here hx rfl (pc0 := 65) (pc' := 69) rfl (hb hby at_65) (by decide) (by decide) ?_
    show Steps p.tables e below (T30.setTop (mkF m 69 #[.val (.int p0), .val (.int K), .val (.ref (own_sel b_EQUAL b_NOT_EQUAL b_LESS b_LESS_OR_EQUAL b_GREATER b_GREATER_OR_EQUAL K)), .val (.int (if (own_sel b_EQUAL b_NOT_EQUAL b_LESS b_LESS_OR_EQUAL b_GREATER b_GREATER_OR_EQUAL K) = b_EQUAL ∨ (own_sel b_EQUAL b_NOT_EQUAL b_LESS b_LESS_OR_EQUAL b_GREATER b_GREATER_OR_EQUAL K) = b_NOT_EQUAL then (0 : Int32) else (1 : Int32))), .val (.int vX), .val (.int vD)] [(.int (1 : Int32))])) _
    exact own_retZ X30 hx rfl Bd.returns (hb hby at_69) hr
  · show rm_law_Q Z p0 b_EQUAL b_LESS_OR_EQUAL b_NOT_EQUAL b_LESS b_GREATER_OR_EQUAL b_GREATER h0 n0 _ T30.heap _
    rw [e30]
    exact ⟨rfl, N29⟩
set_option maxRecDepth 65536 in
set_option maxHeartbeats 40000000 in
theorem own_comes {Post : Tables → Env → Array Value → State → Outcome → State → Prop} (hpost : ∀ tb e args s v u, (limb_1_1.after args s (.returned v) u = true ∧ limb_1_2.after args s (.returned v) u = true ∧ True) → FrameEnd s (.returned v) u (Jvm.fieldLocs frame_1_writes args s ++ Jvm.arrayLocs frame_1_arrays args s ++ Jvm.staticLocs frame_1_statics s) 0 0 → Post tb e args s (.returned v) u) :
    ArmFor flags0 classFile x code maxLocals ret World_1 tables_1 room_1 Calls_1 rest_1 Pre_1 Post := by
  intro l hfl _ _ p e ha hc hk s m args below hf hA hF happ hP
  obtain ⟨hcalls, hrest, hpre⟩ := hP
  obtain ⟨-, -, -, hnamed, -, -, -, hat⟩ := (Spec.applies_iff hf).mp happ
  obtain ⟨hg, hn⟩ := and_e (Cond.before_iff.mp (show (Jvm.Cond.and given_1 narrow_1).before args s = true from hpre))
  obtain ⟨h1, h2⟩ := and_e hg
  obtain ⟨w0, rfl⟩ := own_arg1 h1
  have hw := fun d (hd : d ∈ tables_1) => atoms_spec (ws := Jvm.Cond.code x code maxLocals ret :: tables_1) hat d (List.mem_cons_of_mem _ hd)
  have hfit : Fit s := fun {y c} hc i hi => by
    obtain ⟨ha, rfl⟩ := Array.getElem?_eq_some_iff.mp hc
    have q := List.all_eq_true.mp ((Array.all_eq_true_iff_forall_mem.mp hF) _ (Array.getElem_mem ha)) i (List.mem_range.mpr hi)
    simpa [Array.getElem?_eq_getElem hi] using q
  have g0 := h2
  obtain ⟨i0, e0⟩ := is_v g0
  obtain rfl : w0 = (.int i0) := Option.some.inj e0
  obtain ⟨c0, hn⟩ := and_e hn
  obtain ⟨c1, hn⟩ := and_e hn
  obtain ⟨c2, hn⟩ := and_e hn
  obtain ⟨c3, hn⟩ := and_e hn
  obtain ⟨c4, hn⟩ := and_e hn
  obtain ⟨c5, hn⟩ := and_e hn
  obtain ⟨c6, hn⟩ := and_e hn
  obtain ⟨c7, hn⟩ := and_e hn
  obtain ⟨c8, hn⟩ := and_e hn
  obtain ⟨c9, hn⟩ := and_e hn
  obtain ⟨c10, hn⟩ := and_e hn
  have c11 := hn
  obtain ⟨b_EQUAL, ev_EQUAL⟩ := exa_v c0
  have S_EQUAL := Sta.start ev_EQUAL (Or.inr ⟨(hw _ (List.mem_of_getElem? (i := 6) rfl)), (hw _ (List.mem_of_getElem? (i := 7) rfl))⟩)
  have E_EQUAL := Exa.start ev_EQUAL c0
  obtain ⟨b_LESS_OR_EQUAL, ev_LESS_OR_EQUAL⟩ := exa_v c2
  have S_LESS_OR_EQUAL := Sta.start ev_LESS_OR_EQUAL (Or.inr ⟨(hw _ (List.mem_of_getElem? (i := 6) rfl)), (hw _ (List.mem_of_getElem? (i := 29) rfl))⟩)
  have E_LESS_OR_EQUAL := Exa.start ev_LESS_OR_EQUAL c2
  obtain ⟨b_NOT_EQUAL, ev_NOT_EQUAL⟩ := exa_v c4
  have S_NOT_EQUAL := Sta.start ev_NOT_EQUAL (Or.inr ⟨(hw _ (List.mem_of_getElem? (i := 6) rfl)), (hw _ (List.mem_of_getElem? (i := 31) rfl))⟩)
  have E_NOT_EQUAL := Exa.start ev_NOT_EQUAL c4
  obtain ⟨b_LESS, ev_LESS⟩ := exa_v c6
  have S_LESS := Sta.start ev_LESS (Or.inr ⟨(hw _ (List.mem_of_getElem? (i := 6) rfl)), (hw _ (List.mem_of_getElem? (i := 33) rfl))⟩)
  have E_LESS := Exa.start ev_LESS c6
  obtain ⟨b_GREATER_OR_EQUAL, ev_GREATER_OR_EQUAL⟩ := exa_v c8
  have S_GREATER_OR_EQUAL := Sta.start ev_GREATER_OR_EQUAL (Or.inr ⟨(hw _ (List.mem_of_getElem? (i := 6) rfl)), (hw _ (List.mem_of_getElem? (i := 36) rfl))⟩)
  have E_GREATER_OR_EQUAL := Exa.start ev_GREATER_OR_EQUAL c8
  obtain ⟨b_GREATER, ev_GREATER⟩ := exa_v c10
  have S_GREATER := Sta.start ev_GREATER (Or.inr ⟨(hw _ (List.mem_of_getElem? (i := 6) rfl)), (hw _ (List.mem_of_getElem? (i := 38) rfl))⟩)
  have E_GREATER := Exa.start ev_GREATER c10
  have F_EQUAL_ordinal := own_fI ev_EQUAL c1
  have F_LESS_OR_EQUAL_ordinal := own_fI ev_LESS_OR_EQUAL c3
  have F_NOT_EQUAL_ordinal := own_fI ev_NOT_EQUAL c5
  have F_LESS_ordinal := own_fI ev_LESS c7
  have F_GREATER_OR_EQUAL_ordinal := own_fI ev_GREATER_OR_EQUAL c9
  have F_GREATER_ordinal := own_fI ev_GREATER c11
  obtain ⟨n, o, h1, h2, h3, _, L, rfl, ⟨rfl, N⟩, hq⟩ := rm_law l s _ hw tables_1 i0 b_EQUAL b_LESS_OR_EQUAL b_NOT_EQUAL b_LESS b_GREATER_OR_EQUAL b_GREATER s.heap s.heap.size (Nat.le_refl _) S_EQUAL E_EQUAL S_LESS_OR_EQUAL E_LESS_OR_EQUAL S_NOT_EQUAL E_NOT_EQUAL S_LESS E_LESS S_GREATER_OR_EQUAL E_GREATER_OR_EQUAL S_GREATER E_GREATER F_EQUAL_ordinal F_LESS_OR_EQUAL_ordinal F_NOT_EQUAL_ordinal F_LESS_ordinal F_GREATER_OR_EQUAL_ordinal F_GREATER_ordinal p e ha hc hk s m _ below hf ((Spec.applies_iff_loose hf).mp happ).1 ⟨rfl, State.Warmed39.refl s, rfl⟩ trivial
  exact ⟨n, _, h1, h2, h3, hpost _ _ _ _ _ _ ⟨Cond.after_iff.mpr rfl, Cond.after_iff.mpr (eq_i res_at (Term.int_eval (1)) rfl), trivial⟩ ⟨hq.1, hq.2.1, (hq.2.2.sift fun y hy => Or.inr (N y hy)).mono (by decide) (by decide)⟩⟩
theorem main_1_1 : Claimed_1_1 := own_comes fun _ _ _ _ _ _ h hF => ⟨h.1, hF⟩
theorem main_1_2 : Claimed_1_2 := own_comes fun _ _ _ _ _ _ h hF => ⟨h.2.1, hF⟩
end Jvm.Pilot.@@N@@
namespace Jvm.Pilot.@@N@@
open Jvm Jvm.ClassFile Sem Op Lib Jvm.Free Jvm.Stand Jvm.Pilot.@@N@@.Jvm.D
/-! MADE BY PROGRAM (witnessworld.py) out of the Statement's table words and the real class files: 12 classes; the members and pool entries that the words name. The judged class is class 1, her method 2. -/
namespace start1
open Jvm.ClassFile
def u (s : String) : CpInfo := .utf8 (stringToUtf16 s)
/-- a pool by its gaps: so many unusable entries, then the entry; so many at the end -/
def gap : Nat → List CpInfo → List CpInfo
  | 0, r => r
  | n + 1, r => .unusable :: gap n r
def poolList (es : List (Nat × CpInfo)) (last : Nat) : List CpInfo := es.foldr (fun e r => gap e.1 (e.2 :: r)) (gap last [])
def pool (es : List (Nat × CpInfo)) (last : Nat) : Array CpInfo := ⟨poolList es last⟩
def fileOf (pool : Array CpInfo) (this : Nat) (attrs : Array Attribute := #[]) (ms : Array MethodInfo := #[]) (fl : Nat := 33) (sup : Nat := 0) (ifs : Array Nat := #[]) (fds : Array FieldInfo := #[]) : ClassFile where
  minorVersion := 0
  majorVersion := 65
  constantPool := pool
  accessFlags := fl
  thisClass := this
  superClass := sup
  interfaces := ifs
  fields := fds
  methods := ms
  attributes := attrs
def plain (name : String) (sup : Option ClassId) : Class where
  name := name
  kind := .ordinary
  loader := none
  accessFlags := 33
  super := sup
  interfaces := #[]
  cf := none
  fields := #[]
  methods := #[]
  instanceTypes := #[]
  staticTypes := #[]
  resolved := #[]
  callSites := []
  init := .initialized
  statics := none
  mirror := none

def pool0 : Array CpInfo := pool [(5, u "<init>"), (0, u "()V"), (1, .class_ 10), (1, u "java/lang/Object")] 113

def k0m0 : Method := { name := "<init>", desc := "()V", sig := { parameters := [], returnType := none }, accessFlags := 1, code := none }
/-- java/lang/Object -/
def k0 : Class := { plain "java/lang/Object" none with
  accessFlags := 33
  interfaces := #[]
  cf := some (fileOf pool0 8 #[] #[{ accessFlags := 1, nameIndex := 5, descriptorIndex := 6, attributes := #[] }] 33 0 #[] #[])
  fields := #[]
  methods := #[k0m0]
  instanceTypes := #[]
  staticTypes := #[]
  resolved := Array.replicate 124 none
  statics := none }

def pool1 : Array CpInfo := pool [(2, .class_ 4), (1, u "java/lang/Object"), (0, u "<init>"), (0, u "()V"), (0, .fieldref 8 9), (0, .class_ 10), (0, .nameAndType 11 12), (0, u "com/example/occurrence/occurrence/colour/Guard$Relation"), (0, u "EQUAL"), (0, u "Lcom/example/occurrence/occurrence/colour/Guard$Relation;"), (0, .fieldref 8 14), (0, .nameAndType 15 12), (0, u "NOT_EQUAL"), (0, .fieldref 8 17), (0, .nameAndType 18 12), (0, u "LESS"), (0, .fieldref 8 20), (0, .nameAndType 21 12), (0, u "LESS_OR_EQUAL"), (0, .fieldref 8 23), (0, .nameAndType 24 12), (0, u "GREATER"), (0, .fieldref 8 26), (0, .nameAndType 27 12), (0, u "GREATER_OR_EQUAL"), (0, .integer 2147483647), (0, .methodref 30 31), (0, .class_ 32), (0, .nameAndType 33 34), (0, u "com/example/occurrence/occurrence/colour/RelationIsOrderPinLaw"), (0, u "pick"), (0, u "(I)Lcom/example/occurrence/occurrence/colour/Guard$Relation;"), (0, .methodref 8 36), (0, .nameAndType 37 38), (0, u "isOrder"), (0, u "()Z"), (0, .methodref 8 40), (0, .nameAndType 41 42), (0, u "holds"), (0, u "(II)Z"), (3, u "law"), (0, u "(I)Z")] 6

def k1m0 : Method := { name := "<init>", desc := "()V", sig := { parameters := [], returnType := none }, accessFlags := 2, code := none }
def k1c1 : Code := { maxStack := 2, maxLocals := 1, code := method_2_code, exceptionTable := #[], attributes := #[] }
def k1m1 : Method := { name := "pick", desc := "(I)Lcom/example/occurrence/occurrence/colour/Guard$Relation;", sig := { parameters := [.int], returnType := some (.object "com/example/occurrence/occurrence/colour/Guard$Relation") }, accessFlags := 10, code := some k1c1 }
def k1c2 : Code := { maxStack := 4, maxLocals := 6, code := code, exceptionTable := #[], attributes := #[] }
def k1m2 : Method := { name := "law", desc := "(I)Z", sig := { parameters := [.int], returnType := some .boolean }, accessFlags := 9, code := some k1c2 }
/-- com/example/occurrence/occurrence/colour/RelationIsOrderPinLaw -/
def k1 : Class := { plain "com/example/occurrence/occurrence/colour/RelationIsOrderPinLaw" (some 0) with
  accessFlags := 49
  interfaces := #[]
  cf := some (fileOf pool1 30 #[] #[{ accessFlags := 2, nameIndex := 5, descriptorIndex := 6, attributes := #[] }, { accessFlags := 10, nameIndex := 33, descriptorIndex := 34, attributes := #[] }, { accessFlags := 9, nameIndex := 46, descriptorIndex := 47, attributes := #[] }] 49 2 #[] #[])
  fields := #[]
  methods := #[k1m0, k1m1, k1m2]
  instanceTypes := #[]
  staticTypes := #[]
  resolved := Array.replicate 54 none
  statics := none }

def pool2 : Array CpInfo := pool [(1, .class_ 2), (0, u "java/lang/constant/Constable"), (0, .class_ 4), (0, u "java/lang/Object")] 6

/-- java/lang/constant/Constable -/
def k2 : Class := { plain "java/lang/constant/Constable" (some 0) with
  accessFlags := 1537
  interfaces := #[]
  cf := some (fileOf pool2 1 #[] #[] 1537 3 #[] #[])
  fields := #[]
  methods := #[]
  instanceTypes := #[]
  staticTypes := #[]
  resolved := Array.replicate 11 none
  statics := none }

def pool3 : Array CpInfo := pool [(1, .class_ 2), (0, u "java/lang/Comparable"), (0, .class_ 4), (0, u "java/lang/Object")] 7

/-- java/lang/Comparable -/
def k3 : Class := { plain "java/lang/Comparable" (some 0) with
  accessFlags := 1537
  interfaces := #[]
  cf := some (fileOf pool3 1 #[] #[] 1537 3 #[] #[])
  fields := #[]
  methods := #[]
  instanceTypes := #[]
  staticTypes := #[]
  resolved := Array.replicate 12 none
  statics := none }

def pool4 : Array CpInfo := pool [(1, .class_ 2), (0, u "java/io/Serializable"), (0, .class_ 4), (0, u "java/lang/Object")] 2

/-- java/io/Serializable -/
def k4 : Class := { plain "java/io/Serializable" (some 0) with
  accessFlags := 1537
  interfaces := #[]
  cf := some (fileOf pool4 1 #[] #[] 1537 3 #[] #[])
  fields := #[]
  methods := #[]
  instanceTypes := #[]
  staticTypes := #[]
  resolved := Array.replicate 7 none
  statics := none }

def pool5 : Array CpInfo := pool [(2, .class_ 4), (1, u "java/lang/Enum"), (0, u "name"), (0, u "Ljava/lang/String;"), (0, .fieldref 2 8), (0, .nameAndType 9 10), (0, u "ordinal"), (0, u "I"), (1, .class_ 14), (1, u "java/lang/Object"), (4, u "hash"), (86, .class_ 108), (1, u "java/lang/Enum$EnumDesc"), (2, .class_ 112), (0, u "java/lang/constant/Constable"), (0, .class_ 114), (0, u "java/lang/Comparable"), (0, .class_ 116), (0, u "java/io/Serializable"), (9, u "()I")] 77

def k5c0 : Code := { maxStack := 1, maxLocals := 1, code := jdk_37_method_2_code, exceptionTable := #[], attributes := #[] }
def k5m0 : Method := { name := "ordinal", desc := "()I", sig := { parameters := [], returnType := some .int }, accessFlags := 17, code := some k5c0 }
/-- java/lang/Enum -/
def k5 : Class := { plain "java/lang/Enum" (some 0) with
  accessFlags := 1057
  interfaces := #[2, 3, 4]
  cf := some (fileOf pool5 2 #[.nestMembers #[106]] #[{ accessFlags := 17, nameIndex := 9, descriptorIndex := 126, attributes := #[] }] 1057 12 #[111, 113, 115] #[{ accessFlags := 18, nameIndex := 5, descriptorIndex := 6, attributes := #[] }, { accessFlags := 18, nameIndex := 9, descriptorIndex := 10, attributes := #[] }, { accessFlags := 2, nameIndex := 19, descriptorIndex := 10, attributes := #[] }])
  fields := #[{ name := "name", type := (.object "java/lang/String"), accessFlags := 18, slot := 0, constantValue := 0 }, { name := "ordinal", type := .int, accessFlags := 18, slot := 1, constantValue := 0 }, { name := "hash", type := .int, accessFlags := 2, slot := 2, constantValue := 0 }]
  methods := #[k5m0]
  instanceTypes := #[(.object "java/lang/String"), .int, .int]
  staticTypes := #[]
  resolved := Array.replicate 204 none
  statics := none }

def pool6 : Array CpInfo := pool [(1, .class_ 2), (0, u "com/example/occurrence/occurrence/colour/Guard$Relation"), (0, .fieldref 1 4), (0, .nameAndType 5 6), (0, u "EQUAL"), (0, u "Lcom/example/occurrence/occurrence/colour/Guard$Relation;"), (0, .fieldref 1 8), (0, .nameAndType 9 6), (0, u "NOT_EQUAL"), (2, u "LESS"), (2, u "LESS_OR_EQUAL"), (2, u "GREATER"), (2, u "GREATER_OR_EQUAL"), (2, u "$VALUES"), (0, u "[Lcom/example/occurrence/occurrence/colour/Guard$Relation;"), (6, .class_ 34), (1, u "java/lang/Enum"), (6, .methodref 1 42), (0, .nameAndType 43 44), (0, u "ordinal"), (0, u "()I"), (18, u "isOrder"), (0, u "()Z"), (1, u "holds"), (0, u "(II)Z"), (5, .class_ 74), (0, u "com/example/occurrence/occurrence/colour/Guard")] 2

def k6c0 : Code := { maxStack := 2, maxLocals := 1, code := prog_23_method_4_code, exceptionTable := #[], attributes := #[] }
def k6m0 : Method := { name := "isOrder", desc := "()Z", sig := { parameters := [], returnType := some .boolean }, accessFlags := 1, code := some k6c0 }
def k6c1 : Code := { maxStack := 2, maxLocals := 4, code := prog_23_method_5_code, exceptionTable := #[], attributes := #[] }
def k6m1 : Method := { name := "holds", desc := "(II)Z", sig := { parameters := [.int, .int], returnType := some .boolean }, accessFlags := 1, code := some k6c1 }
/-- com/example/occurrence/occurrence/colour/Guard$Relation -/
def k6 : Class := { plain "com/example/occurrence/occurrence/colour/Guard$Relation" (some 5) with
  accessFlags := 16433
  interfaces := #[]
  cf := some (fileOf pool6 1 #[.nestHost 73] #[{ accessFlags := 1, nameIndex := 63, descriptorIndex := 64, attributes := #[] }, { accessFlags := 1, nameIndex := 66, descriptorIndex := 67, attributes := #[] }] 16433 32 #[] #[{ accessFlags := 16409, nameIndex := 5, descriptorIndex := 6, attributes := #[] }, { accessFlags := 16409, nameIndex := 9, descriptorIndex := 6, attributes := #[] }, { accessFlags := 16409, nameIndex := 12, descriptorIndex := 6, attributes := #[] }, { accessFlags := 16409, nameIndex := 15, descriptorIndex := 6, attributes := #[] }, { accessFlags := 16409, nameIndex := 18, descriptorIndex := 6, attributes := #[] }, { accessFlags := 16409, nameIndex := 21, descriptorIndex := 6, attributes := #[] }, { accessFlags := 4122, nameIndex := 24, descriptorIndex := 25, attributes := #[] }])
  fields := #[{ name := "EQUAL", type := (.object "com/example/occurrence/occurrence/colour/Guard$Relation"), accessFlags := 16409, slot := 0, constantValue := 0 }, { name := "NOT_EQUAL", type := (.object "com/example/occurrence/occurrence/colour/Guard$Relation"), accessFlags := 16409, slot := 1, constantValue := 0 }, { name := "LESS", type := (.object "com/example/occurrence/occurrence/colour/Guard$Relation"), accessFlags := 16409, slot := 2, constantValue := 0 }, { name := "LESS_OR_EQUAL", type := (.object "com/example/occurrence/occurrence/colour/Guard$Relation"), accessFlags := 16409, slot := 3, constantValue := 0 }, { name := "GREATER", type := (.object "com/example/occurrence/occurrence/colour/Guard$Relation"), accessFlags := 16409, slot := 4, constantValue := 0 }, { name := "GREATER_OR_EQUAL", type := (.object "com/example/occurrence/occurrence/colour/Guard$Relation"), accessFlags := 16409, slot := 5, constantValue := 0 }, { name := "$VALUES", type := (.array (.object "com/example/occurrence/occurrence/colour/Guard$Relation")), accessFlags := 4122, slot := 6, constantValue := 0 }]
  methods := #[k6m0, k6m1]
  instanceTypes := #[(.object "java/lang/String"), .int, .int]
  staticTypes := #[(.object "com/example/occurrence/occurrence/colour/Guard$Relation"), (.object "com/example/occurrence/occurrence/colour/Guard$Relation"), (.object "com/example/occurrence/occurrence/colour/Guard$Relation"), (.object "com/example/occurrence/occurrence/colour/Guard$Relation"), (.object "com/example/occurrence/occurrence/colour/Guard$Relation"), (.object "com/example/occurrence/occurrence/colour/Guard$Relation"), (.array (.object "com/example/occurrence/occurrence/colour/Guard$Relation"))]
  resolved := Array.replicate 77 none
  statics := some 0 }

def pool7 : Array CpInfo := pool [(1, u "java/lang/Cloneable"), (0, .class_ 1), (0, u "java/lang/Object"), (0, .class_ 3)] 3

/-- java/lang/Cloneable -/
def k7 : Class := { plain "java/lang/Cloneable" (some 0) with
  accessFlags := 1537
  interfaces := #[]
  cf := some (fileOf pool7 2 #[] #[] 1537 4 #[] #[])
  fields := #[]
  methods := #[]
  instanceTypes := #[]
  staticTypes := #[]
  resolved := Array.replicate 8 none
  statics := none }

/-- the primitive byte -/
def k8 : Class := { plain "byte" none with kind := .primitive 'B', accessFlags := 0x411 }
/-- [B -/
def k9 : Class := { plain "[B" (some 0) with kind := .array 8 .byte, interfaces := #[7, 4], accessFlags := 1041 }

/-- the primitive int -/
def k10 : Class := { plain "int" none with kind := .primitive 'I', accessFlags := 0x411 }
/-- [I -/
def k11 : Class := { plain "[I" (some 0) with kind := .array 10 .int, interfaces := #[7, 4], accessFlags := 1041 }

def heap : Heap := #[{ cls := 6, slots := #[.ref 1, .ref 3, .ref 4, .ref 2, .ref 6, .ref 5, .null], vm := .statics 6 },
  { cls := 6, slots := #[.null, .int 0, .int 0], vm := .none },
  { cls := 6, slots := #[.null, .int 3, .int 0], vm := .none },
  { cls := 6, slots := #[.null, .int 1, .int 0], vm := .none },
  { cls := 6, slots := #[.null, .int 2, .int 0], vm := .none },
  { cls := 6, slots := #[.null, .int 5, .int 0], vm := .none },
  { cls := 6, slots := #[.null, .int 4, .int 0], vm := .none }]
def classes : Array Class := #[k0, k1, k2, k3, k4, k5, k6, k7, k8, k9, k10, k11]
def interned : List (Array UInt16 × Addr) := []
def slotsUsed : Nat := 25
def theMethod : MethodId := ⟨1, 2⟩
def args0 : Array Value := #[.int 5]
def aboutOver (below : List Frame) : State where
  vm := { classes := classes, interned := interned.toArray }
  heap := heap
  slotsUsed := slotsUsed
  threads := #[{ frames := .invoking theMethod args0 :: below }]
def below0 : List Frame := [.native { method := ⟨0, 0⟩, args := #[] }]
def about1 : State := aboutOver below0
def p0 : Program := .bare "" "" ""
def e0 : Env := launch0.env 0 0 0
theorem w_frames : about1.frames = Frame.invoking theMethod args0 :: below0 := rfl
set_option maxRecDepth 65536 in
theorem w_args : argsFit about1.vm theMethod args0 = true := by decide +kernel
set_option maxRecDepth 65536 in
theorem w_heap : heapFits about1 = true := by decide +kernel
set_option maxRecDepth 65536 in
theorem w_runnable : about1.curStatus? = some .runnable := by decide +kernel
set_option maxRecDepth 65536 in
theorem w_alone : about1.alone = true := by decide +kernel
set_option maxRecDepth 65536 in
theorem w_named : about1.methodNamed? x = some theMethod := by decide +kernel
set_option maxRecDepth 65536 in
theorem w_hears : about1.hears theMethod below0 = true := by decide +kernel
set_option maxRecDepth 65536 in
theorem w_ripe : about1.ripe theMethod args0 below0 = true := by decide +kernel
theorem w_running : about1.status = .running := rfl
set_option maxRecDepth 65536 in
theorem w_room : about1.hasRoom e0.platform room_1 = true :=
  launch0.hasRoom_least _ room_1 (by decide +kernel) (by decide +kernel) (by decide +kernel) (by decide +kernel) (by decide +kernel) (by decide +kernel)
theorem allAtoms_all (ts : List Jvm.Cond) (a : Array Jvm.Value) (st : Jvm.State) : (allAtoms ts).before a st = ts.all (fun c => c.before a st) := by
  induction ts with
  | nil => rfl
  | cons c t ih =>
    show (Jvm.Cond.and c (allAtoms t)).before a st = _
    rw [Jvm.Cond.before_and, ih, List.all_cons]
def words1 : List Jvm.Cond := Jvm.Cond.code x code maxLocals ret :: tables_1
/-- a 'code' word, met by the world's own term for the bytes: nothing is compared byte by byte -/
theorem code_word {y : MethodName} {bytes : ByteArray} {mx : Nat} {rt : Option FieldType} {a : Array Value} {s : State} {m : MethodId} {meth : Method} {c : Code} (h1 : s.methodNamed? y = some m) (h2 : s.vm.method? m = some meth) (h3 : meth.code = some c) (h4 : c.code = bytes)
    (h5 : (c.maxLocals == mx && c.exceptionTable.isEmpty && decide (c.maxStack ≤ mostOperands) && decide (meth.sig.returnType = rt) && !meth.locks && decide (parseMethodDescriptor y.desc = some meth.sig)) = true) : (Jvm.Cond.code y bytes mx rt).before a s = true := by
  simp only [Bool.and_eq_true, beq_iff_eq, Bool.not_eq_true', decide_eq_true_eq] at h5
  obtain ⟨⟨⟨⟨⟨g1, g2⟩, g3⟩, g4⟩, g5⟩, g6⟩ := h5
  simp [Cond.before, Cond.holds, Cond.value, h1, h2, h3, h4, g1, g2, g3, g4, g5, g6]
def isCode : Jvm.Cond → Bool
  | .code _ _ _ _ => true
  | _ => false
theorem all_split {L : List Jvm.Cond} {P : Jvm.Cond → Bool} (h1 : L.all (fun c => isCode c || P c) = true) (h2 : ∀ c ∈ L.filter isCode, P c = true) : L.all P = true := by
  refine List.all_eq_true.mpr fun c hc => ?_
  have h := List.all_eq_true.mp h1 c hc
  rcases Bool.eq_false_or_eq_true (isCode c) with hi | hi
  · exact h2 c (List.mem_filter.mpr ⟨hc, hi⟩)
  · simpa [hi] using h
set_option maxRecDepth 65536 in
theorem w_c0 : (Jvm.Cond.code x code maxLocals ret).before args0 about1 = true := code_word (m := ⟨1, 2⟩) (meth := k1m2) (c := k1c2) (by decide +kernel) rfl rfl rfl (by decide +kernel)
set_option maxRecDepth 65536 in
theorem w_c1 : (Jvm.Cond.code ({ cls := "com/example/occurrence/occurrence/colour/RelationIsOrderPinLaw", name := "pick", desc := "(I)Lcom/example/occurrence/occurrence/colour/Guard$Relation;" } : Jvm.MethodName) method_2_code (1 : Nat) (Option.some (Jvm.ClassFile.FieldType.object "com/example/occurrence/occurrence/colour/Guard$Relation"))).before args0 about1 = true := code_word (m := ⟨1, 1⟩) (meth := k1m1) (c := k1c1) (by decide +kernel) rfl rfl rfl (by decide +kernel)
set_option maxRecDepth 65536 in
theorem w_c2 : (Jvm.Cond.code ({ cls := "com/example/occurrence/occurrence/colour/Guard$Relation", name := "isOrder", desc := "()Z" } : Jvm.MethodName) prog_23_method_4_code (1 : Nat) (Option.some Jvm.ClassFile.FieldType.boolean)).before args0 about1 = true := code_word (m := ⟨6, 0⟩) (meth := k6m0) (c := k6c0) (by decide +kernel) rfl rfl rfl (by decide +kernel)
set_option maxRecDepth 65536 in
theorem w_c3 : (Jvm.Cond.code ({ cls := "com/example/occurrence/occurrence/colour/Guard$Relation", name := "holds", desc := "(II)Z" } : Jvm.MethodName) prog_23_method_5_code (4 : Nat) (Option.some Jvm.ClassFile.FieldType.boolean)).before args0 about1 = true := code_word (m := ⟨6, 1⟩) (meth := k6m1) (c := k6c1) (by decide +kernel) rfl rfl rfl (by decide +kernel)
set_option maxRecDepth 65536 in
theorem w_c4 : (Jvm.Cond.code ({ cls := "java/lang/Enum", name := "ordinal", desc := "()I" } : Jvm.MethodName) jdk_37_method_2_code (1 : Nat) (Option.some Jvm.ClassFile.FieldType.int)).before args0 about1 = true := code_word (m := ⟨5, 0⟩) (meth := k5m0) (c := k5c0) (by decide +kernel) rfl rfl rfl (by decide +kernel)
def codes1 : List Jvm.Cond := [Jvm.Cond.code x code maxLocals ret, Jvm.Cond.code ({ cls := "com/example/occurrence/occurrence/colour/RelationIsOrderPinLaw", name := "pick", desc := "(I)Lcom/example/occurrence/occurrence/colour/Guard$Relation;" } : Jvm.MethodName) method_2_code (1 : Nat) (Option.some (Jvm.ClassFile.FieldType.object "com/example/occurrence/occurrence/colour/Guard$Relation")), Jvm.Cond.code ({ cls := "com/example/occurrence/occurrence/colour/Guard$Relation", name := "isOrder", desc := "()Z" } : Jvm.MethodName) prog_23_method_4_code (1 : Nat) (Option.some Jvm.ClassFile.FieldType.boolean), Jvm.Cond.code ({ cls := "com/example/occurrence/occurrence/colour/Guard$Relation", name := "holds", desc := "(II)Z" } : Jvm.MethodName) prog_23_method_5_code (4 : Nat) (Option.some Jvm.ClassFile.FieldType.boolean), Jvm.Cond.code ({ cls := "java/lang/Enum", name := "ordinal", desc := "()I" } : Jvm.MethodName) jdk_37_method_2_code (1 : Nat) (Option.some Jvm.ClassFile.FieldType.int)]
set_option maxRecDepth 65536 in
theorem codes_eq : words1.filter isCode = codes1 := rfl
theorem w_codes : ∀ c ∈ words1.filter isCode, c.before args0 about1 = true := by
  rw [codes_eq]
  intro c hc
  simp only [codes1, List.mem_cons, List.not_mem_nil, or_false] at hc
  rcases hc with rfl | rfl | rfl | rfl | rfl
  · exact w_c0
  · exact w_c1
  · exact w_c2
  · exact w_c3
  · exact w_c4
set_option maxRecDepth 65536 in
theorem w_t1 : (words1.take 24).all (fun c => isCode c || c.before args0 about1) = true := by decide +kernel
set_option maxRecDepth 65536 in
theorem w_t2 : (words1.drop 24).all (fun c => isCode c || c.before args0 about1) = true := by decide +kernel
theorem w_tables : (allAtoms (Jvm.Cond.code x code maxLocals ret :: tables_1)).before args0 about1 = true := by
  rw [allAtoms_all]
  show words1.all (fun c => c.before args0 about1) = true
  refine all_split ?_ w_codes
  rw [← List.take_append_drop 24 words1, List.all_append, w_t1, w_t2]
  rfl
set_option maxRecDepth 65536 in
theorem w_case : (Jvm.Cond.and given_1 narrow_1).before args0 about1 = true := by decide +kernel
theorem w_applies : (headSpec (Jvm.Cond.code x code maxLocals ret :: tables_1) room_1).applies x e0.platform about1 = true :=
  (Spec.applies_iff w_frames).mpr ⟨w_running, w_runnable, w_alone, w_named, w_hears, w_ripe, w_room, w_tables⟩
theorem atStart : AtStart classFile x code maxLocals ret World_1 tables_1 room_1 Calls_1 rest_1 Pre_1 launch0 p0 e0 about1 theMethod args0 below0 :=
  ⟨lists_1, trivial, launch0.admits_env _ _ _, launch0.least_env, fairChoices_fair.cas, fairChoices_fair.clock, w_frames, w_args, w_heap, w_applies, trivial, trivial, w_case⟩
end start1
theorem witness_1 : WitnessClaimed_1 := ⟨start1.p0, start1.e0, start1.about1, start1.theMethod, start1.args0, start1.below0, start1.atStart⟩
end Jvm.Pilot.@@N@@
