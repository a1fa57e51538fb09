import JvmDerived
import JvmDerived.Pilot.@@N@@Statement
import JvmDerived.Pilot.@@N@@Code
set_option linter.unusedVariables false
set_option linter.unusedSimpArgs false
namespace Jvm.Pilot.@@N@@
open Jvm Jvm.ClassFile Sem Op Lib Jvm.Free Jvm.Stand Jvm.LawKit Jvm.RoadKit Bundle Jvm.Pilot.@@N@@.Jvm.D
section OwnKit
variable {p : Program} {l : Launch} {e : Env} {R : Room} {s : State} {m : MethodId} {args : Array Value} {below : List Frame} {meth : Method} {c : Code} {T : State} {locs : List Loc} {cells slots : Nat} {Z : State} {a0 : Array Value} {h h' h0 : Heap} {a b : Addr} {sl : Nat} {v w : Value} {C n d : String}
theorem own_retZ (X : Stand p l e R s m args below meth c T locs cells slots) (hx : p.tables.exec = Jvm.exec) {pc : Nat} {Ls : Array Slot} {z : Int32} {rest : List Value} (hz : nar .boolean z = z) (hret : meth.sig.returnType = some .boolean) (hd : decode c.code pc = .ok (.ireturn, 1)) {fs : List Frame}
    (hl : ∀ (f : JFrame) (acts : List Action), f.method = m → f.locked = none → f.entered = [] → (doReturn e (T.setTop f) acts (some (.int z))).1 = T.setFrames fs) : Steps p.tables e below (T.setTop (mkF m pc Ls (.int z :: rest))) (T.setFrames fs) :=
  retN X hx hret (Or.inl rfl) hd (by rw [hz]; exact hl)
theorem own_retI (X : Stand p l e R s m args below meth c T locs cells slots) (hx : p.tables.exec = Jvm.exec) {pc : Nat} {Ls : Array Slot} {z : Int32} {rest : List Value} (hret : meth.sig.returnType = some .int) (hd : decode c.code pc = .ok (.ireturn, 1)) {fs : List Frame}
    (hl : ∀ (f : JFrame) (acts : List Action), f.method = m → f.locked = none → f.entered = [] → (doReturn e (T.setTop f) acts (some (.int z))).1 = T.setFrames fs) : Steps p.tables e below (T.setTop (mkF m pc Ls (.int z :: rest))) (T.setFrames fs) :=
  retOut X hx hret rfl (Or.inl ⟨rfl, Or.inl rfl, z, rfl⟩) hd hl
theorem own_retJ (X : Stand p l e R s m args below meth c T locs cells slots) (hx : p.tables.exec = Jvm.exec) {pc : Nat} {Ls : Array Slot} {z : Int64} {rest : List Value} (hret : meth.sig.returnType = some .long) (hd : decode c.code pc = .ok (.lreturn, 1)) {fs : List Frame}
    (hl : ∀ (f : JFrame) (acts : List Action), f.method = m → f.locked = none → f.entered = [] → (doReturn e (T.setTop f) acts (some (.long z))).1 = T.setFrames fs) : Steps p.tables e below (T.setTop (mkF m pc Ls (.long z :: rest))) (T.setFrames fs) :=
  retOut X hx hret rfl (Or.inr (Or.inl ⟨rfl, rfl, z, rfl⟩)) hd hl
theorem own_narR {t : FieldType} (ht : t.isReference = true) (hw : w.isRef = true) : narrow t w = w := by
  cases t <;> first | (cases ht; done) | (cases w <;> first | rfl | (cases hw; done))
theorem own_retA (X : Stand p l e R s m args below meth c T locs cells slots) (hx : p.tables.exec = Jvm.exec) {pc : Nat} {Ls : Array Slot} {t : FieldType} {rest : List Value} (ht : t.isReference = true) (hw : w.isRef = true) (hret : meth.sig.returnType = some t) (hd : decode c.code pc = .ok (.areturn, 1)) {fs : List Frame}
    (hl : ∀ (f : JFrame) (acts : List Action), f.method = m → f.locked = none → f.entered = [] → (doReturn e (T.setTop f) acts (some w)).1 = T.setFrames fs) : Steps p.tables e below (T.setTop (mkF m pc Ls (w :: rest))) (T.setFrames fs) :=
  retOut X hx hret (own_narR ht hw) (Or.inr (Or.inr (Or.inr (Or.inr ⟨rfl, ht, hw⟩)))) hd hl
theorem own_join (X : Stand p l e R s m args below meth c T locs cells slots) {h : Heap} {g g' : JFrame} (K : ∃ T', Stand p l e R s m args below meth c T' locs cells slots ∧ T'.heap = h ∧ ∀ target, Steps p.tables e below (T'.setTop g') target → Steps p.tables e below (T.setTop g) target) :
    ∃ T', Stand p l e R s m args below meth c T' locs cells slots ∧ T'.heap = h ∧ ∀ target, Steps p.tables e below (T'.setTop g') target → Steps p.tables e below (T.setTop g) target := K
theorem own_ext_refl (h : Heap) : Ext h h := ⟨Nat.le_refl _, fun _ _ q => q⟩
theorem own_ext_tr (E : Ext h0 h) (E' : Ext h h') : Ext h0 h' := ⟨Nat.le_trans E.1 E'.1, fun x y q => E'.2 x y (E.2 x y q)⟩
theorem own_ext_wr (E : Ext h0 h) (W : Wr h h' a sl v) (g : h0.size ≤ a) : Ext h0 h' := ⟨by rw [W.size]; exact E.1, fun x y q => by
  obtain ⟨cb', h1, -, -, -, h5, -⟩ := wr_at W (E.2 x y q)
  rw [h1, h5 (fun r => by subst r; exact absurd (Array.getElem?_eq_some_iff.mp q).1 (Nat.not_lt.mpr g))]⟩
theorem own_fld_inj (F : Fld Z h a C n d v) (G : Fld Z h a C n d w) : v = w := by
  obtain ⟨cell, cf, k, i, f, h1, h2, h3, h4, h5, h6, h7⟩ := F
  obtain ⟨cell', cf', k', i', f', g1, g2, g3, g4, g5, g6, g7⟩ := G
  cases h1.symm.trans g1
  cases h2.symm.trans g2
  exact Option.some.inj (h7.symm.trans g7)
theorem own_fld_ne (F : Fld Z h a C n d v) (G : Fld Z h b C n d w) (q : v ≠ w) : a ≠ b := fun r => by subst r; exact q (own_fld_inj F G)
theorem own_ref_ne (q : a ≠ b) : ¬ Value.ref a = Value.ref b := fun r => q (Value.ref.inj r)
theorem own_ref_eq (q : a = b) : Value.ref a = Value.ref b := congrArg Value.ref q
/-- the array at a, of class k, holds just xs -/
def OwnLst (Z : State) (h : Heap) (a : Addr) (ty : FieldType) (k : ClassId) (xs : List Value) : Prop := ∃ cl : Cell, Arr Z h a cl ty ∧ cl.cls = k ∧ cl.slots.toList = xs
theorem OwnLst.ext {ty : FieldType} {k : ClassId} {xs : List Value} (F : OwnLst Z h a ty k xs) (E : Ext h h') : OwnLst Z h' a ty k xs := by obtain ⟨cl, A, q, G⟩ := F; exact ⟨cl, A.ext E, q, G⟩
theorem OwnLst.other {ty : FieldType} {k : ClassId} {xs : List Value} (F : OwnLst Z h b ty k xs) (W : Wr h h' a sl v) (q : b ≠ a) : OwnLst Z h' b ty k xs := by obtain ⟨cl, A, q1, G⟩ := F; exact ⟨cl, A.other W q, q1, G⟩
theorem OwnLst.keep {ty : FieldType} {k : ClassId} {xs : List Value} {ws : List Addr} (F : OwnLst Z h a ty k xs) (K : Keep h h' ws) (q : a ∉ ws) : OwnLst Z h' a ty k xs := by obtain ⟨cl, A, q1, G⟩ := F; exact ⟨cl, ⟨K.2.1 _ _ A.1 q, A.2⟩, q1, G⟩
theorem own_lst_set {ty : FieldType} {k : ClassId} {xs : List Value} {cl : Cell} (A : Arr Z h a cl ty) (q : cl.cls = k) (G : cl.slots.toList = xs) (W : Wr h h' a sl v) : OwnLst Z h' a ty k (xs.set sl v) :=
  ⟨cl.setSlot sl v, A.same W, q, by rw [← G]; simp [Cell.setSlot]⟩
theorem own_lst_new {ty : FieldType} {k : ClassId} {z : Int32} (A : Arr Z h a (newA k ty z) ty) : OwnLst Z h a ty k (List.replicate z.toNatClampNeg (defaultValue ty)) := ⟨_, A, rfl, by simp [newA]⟩
theorem own_inb {xs : List Value} {cl : Cell} {j : Int32} (G : cl.slots.toList = xs) (k : Nat) (hk : xs.length = k) (q : ¬ (j < 0 ∨ k ≤ j.toNatClampNeg)) : ¬ (j < 0 ∨ cl.slots.size ≤ j.toNatClampNeg) := by
  have r : cl.slots.size = k := by rw [← hk, ← G]; simp
  rw [r]; exact q
theorem own_get {xs : List Value} {cl : Cell} {i : Nat} (G : cl.slots.toList = xs) (q : xs[i]? = some v) : cl.slots[i]? = some v := by rw [← Array.getElem?_toList, G]; exact q
theorem own_len {xs : List Value} {cl : Cell} {z : Int32} (G : cl.slots.toList = xs) (q : xs.length.toInt32 = z) : cl.slots.size.toInt32 = z := by rw [← q, ← G]; simp
theorem own_fI {t : Term} {k : Int32} (ht : t.eval args s none [] s = some (.ref a)) (q : (Jvm.Cond.eq (Term.field t C n d) (Term.int k)).value args s none s [] = some true) : Fld s s.heap a C n d (.int k) := by
  obtain ⟨x, y, e1, e2, -, e4⟩ := cmp_v (Or.inl q)
  cases (Term.int_eval k).symm.trans e2
  obtain ⟨z, rfl⟩ := e4
  have r := gotT (Cond.eq_ints e1 (Term.int_eval k)) q
  subst r
  rw [fld_at ht] at e1
  exact Fld.start e1
theorem own_fR {t u : Term} (hu : u.eval args s none [] s = some (.ref b)) (ht : t.eval args s none [] s = some (.ref a)) (q : (Jvm.Cond.eq (Term.field t C n d) u).value args s none s [] = some true) : Fld s s.heap a C n d (.ref b) := by
  obtain ⟨x, y, e1, e2, -, e4⟩ := cmp_v (Or.inl q)
  cases hu.symm.trans e2
  have r := gotT (eq_R e1 hu e4.2 rfl) q
  subst r
  rw [fld_at ht] at e1
  exact Fld.start e1
theorem own_fN {t : Term} (ht : t.eval args s none [] s = some (.ref a)) (q : (Jvm.Cond.eq (Term.field t C n d) Term.null).value args s none s [] = some true) : Fld s s.heap a C n d .null := by
  have e1 := null_v q
  rw [fld_at ht] at e1
  exact Fld.start e1
theorem own_arg1 {args : Array Value} (h1 : (Jvm.Cond.count 1).value args s none s [] = some true) : ∃ w0 : Value, args = #[w0] := by
  have hs : args.size = 1 := by simpa [Cond.value] using h1
  obtain ⟨L⟩ := args
  match L, hs with
  | [w0], _ => exact ⟨w0, rfl⟩
theorem own_arg2 {args : Array Value} (h1 : (Jvm.Cond.count 2).value args s none s [] = some true) : ∃ w0 w1 : Value, args = #[w0, w1] := by
  have hs : args.size = 2 := by simpa [Cond.value] using h1
  obtain ⟨L⟩ := args
  match L, hs with
  | [w0, w1], _ => exact ⟨w0, w1, rfl⟩
theorem own_arg3 {args : Array Value} (h1 : (Jvm.Cond.count 3).value args s none s [] = some true) : ∃ w0 w1 w2 : Value, args = #[w0, w1, w2] := by
  have hs : args.size = 3 := by simpa [Cond.value] using h1
  obtain ⟨L⟩ := args
  match L, hs with
  | [w0, w1, w2], _ => exact ⟨w0, w1, w2, rfl⟩
theorem own_narB (q : Prop) [Decidable q] : nar .boolean (if q then (1 : Int32) else (0 : Int32)) = if q then (1 : Int32) else (0 : Int32) := by split <;> rfl
theorem own_mod (x k : Int32) (z : Int) (hk : k.toInt = z) (hz : 0 < z) : 0 ≤ ((x &&& (2147483647 : Int32)) % k).toInt ∧ ((x &&& (2147483647 : Int32)) % k).toInt < z := by
  have h1 := c_and x (2147483647 : Int32) (by decide)
  rw [(c_irem (x &&& (2147483647 : Int32)) k z hk).1 h1.1]
  exact ⟨Int.emod_nonneg _ (by omega), Int.emod_lt_of_pos _ hz⟩
theorem own_and3 (x : Int32) : (x &&& (3 : Int32)) = 0 ∨ (x &&& (3 : Int32)) = 1 ∨ (x &&& (3 : Int32)) = 2 ∨ (x &&& (3 : Int32)) = 3 := by
  have h1 := c_and x (3 : Int32) (by decide)
  have e3 : (3 : Int32).toInt = 3 := by decide
  rw [e3] at h1
  have e : (x &&& (3 : Int32)).toInt = 0 ∨ (x &&& (3 : Int32)).toInt = 1 ∨ (x &&& (3 : Int32)).toInt = 2 ∨ (x &&& (3 : Int32)).toInt = 3 := by omega
  rcases e with e | e | e | e
  · exact Or.inl (Int32.toInt_inj.mp e)
  · exact Or.inr (Or.inl (Int32.toInt_inj.mp e))
  · exact Or.inr (Or.inr (Or.inl (Int32.toInt_inj.mp e)))
  · exact Or.inr (Or.inr (Or.inr (Int32.toInt_inj.mp e)))
end OwnKit
section OwnKit2
variable {args : Array Value} {s : State} {a b : Addr} {cl : Cell}
theorem own_slen {t : Term} {z : Int32} (hz : ¬ z < 0) (q : (Jvm.Cond.eq (Term.length t) (Term.int z)).value args s none s [] = some true) (ht : t.eval args s none [] s = some (.ref a)) (hc : s.heap[a]? = some cl) : cl.slots.size = z.toNatClampNeg := by
  obtain ⟨x, y, e1, e2, -, e4⟩ := cmp_v (Or.inl q)
  cases (Term.int_eval z).symm.trans e2
  obtain ⟨k, rfl⟩ := e4
  have r := gotT (Cond.eq_ints e1 (Term.int_eval z)) q
  subst r
  obtain ⟨a', c', g1, g2, g3⟩ := Term.length_spec e1
  have g6 := SBG.length_lt g1 g2 e1
  cases ht.symm.trans g1
  have g5 : c' = cl := Option.some.inj ((State.arrayAt?_spec g2).1.symm.trans hc)
  subst g5
  have h3 : c'.slots.size.toInt32 = k := (Value.int.inj g3).symm
  have h1 := back32 hz
  have h4 : c'.slots.size.toInt32.toInt = (c'.slots.size : Int) := len_toInt g6
  have h5 : k.toNatClampNeg.toInt32.toInt = (k.toNatClampNeg : Int) := len_toInt h1.2
  rw [h1.1] at h5
  rw [h3] at h4
  omega
theorem own_selem {t u : Term} {j : Int32} (hu : u.eval args s none [] s = some (.ref b)) (ht : t.eval args s none [] s = some (.ref a)) (hc : s.heap[a]? = some cl) (q : (Jvm.Cond.eq (Term.elem t (Term.int j)) u).value args s none s [] = some true) : cl.slots[j.toNatClampNeg]? = some (.ref b) := by
  obtain ⟨x, y, e1, e2, -, e4⟩ := cmp_v (Or.inl q)
  cases hu.symm.trans e2
  have r := gotT (eq_R e1 hu e4.2 rfl) q
  subst r
  exact (elem_in e1 ht (Term.int_eval j) hc).2
theorem own_nil {A : Array Value} (hs : A.size = (0 : Int32).toNatClampNeg) : A.toList = [] := by
  have q : (0 : Int32).toNatClampNeg = 0 := by decide
  rw [q] at hs
  exact List.eq_nil_of_length_eq_zero (by rw [Array.length_toList]; exact hs)
theorem own_list6 {A : Array Value} (hs : A.size = 6) {v0 v1 v2 v3 v4 v5 : Value} (h0 : A[0]? = some v0) (h1 : A[1]? = some v1) (h2 : A[2]? = some v2) (h3 : A[3]? = some v3) (h4 : A[4]? = some v4) (h5 : A[5]? = some v5) : A.toList = [v0, v1, v2, v3, v4, v5] := by
  obtain ⟨l⟩ := A
  match l, hs with
  | [a, b, c, d, e, f], _ =>
    simp at h0 h1 h2 h3 h4 h5
    simp [h0, h1, h2, h3, h4, h5]
theorem own_list4 {A : Array Value} (hs : A.size = 4) {v0 v1 v2 v3 : Value} (h0 : A[0]? = some v0) (h1 : A[1]? = some v1) (h2 : A[2]? = some v2) (h3 : A[3]? = some v3) : A.toList = [v0, v1, v2, v3] := by
  obtain ⟨l⟩ := A
  match l, hs with
  | [a, b, c, d], _ =>
    simp at h0 h1 h2 h3
    simp [h0, h1, h2, h3]
end OwnKit2
section OwnKit3
variable {Z : State} {h h' h0 : Heap} {a b : Addr} {v : Value} {ty : FieldType} {k : ClassId} {xs : List Value} {n0 : Nat} {ws : List Addr} {sl : Nat}
theorem OwnLst.lt (F : OwnLst Z h a ty k xs) : a < h.size := by obtain ⟨cl, A, -⟩ := F; exact A.lt
theorem own_old_ext (O : Old Z n0 h) (E : Ext h h') : Old Z n0 h' := ⟨O.1, own_ext_tr O.2 E⟩
theorem own_ne_lt (q : a < h.size) (g : b = h.size) : a ≠ b := fun r => by rw [r, g] at q; exact Nat.lt_irrefl _ q
theorem own_ne_le (q : a < h.size) (g : h.size ≤ b) : a ≠ b := fun r => by rw [r] at q; exact Nat.lt_irrefl _ (Nat.lt_of_lt_of_le q g)
theorem own_lst_eq {xs' : List Value} (F : OwnLst Z h a ty k xs) (q : xs = xs') : OwnLst Z h a ty k xs' := q ▸ F
end OwnKit3
theorem own_d_jdk_22_method_1_0 : decode jdk_22_method_1_code 0 = .ok (.aload_n 0, 1) := by decide +kernel
theorem own_d_jdk_22_method_1_1 : decode jdk_22_method_1_code 1 = .ok (.invokespecial 1, 3) := by decide +kernel
theorem own_d_jdk_22_method_1_4 : decode jdk_22_method_1_code 4 = .ok (.return_, 1) := by decide +kernel
theorem own_d_jdk_29_method_65_0 : decode jdk_29_method_65_code 0 = .ok (.iload_n 0, 1) := by decide +kernel
theorem own_d_jdk_29_method_65_1 : decode jdk_29_method_65_code 1 = .ok (.iload_n 1, 1) := by decide +kernel
theorem own_d_jdk_29_method_65_2 : decode jdk_29_method_65_code 2 = .ok (.if_icmp .lt 7, 3) := by decide +kernel
theorem own_d_jdk_29_method_65_5 : decode jdk_29_method_65_code 5 = .ok (.iload_n 0, 1) := by decide +kernel
theorem own_d_jdk_29_method_65_6 : decode jdk_29_method_65_code 6 = .ok (.goto 4, 3) := by decide +kernel
theorem own_d_jdk_29_method_65_10 : decode jdk_29_method_65_code 10 = .ok (.ireturn, 1) := by decide +kernel
theorem own_d_jdk_31_method_17_0 : decode jdk_31_method_17_code 0 = .ok (.iload_n 0, 1) := by decide +kernel
theorem own_d_jdk_31_method_17_1 : decode jdk_31_method_17_code 1 = .ok (.iload_n 1, 1) := by decide +kernel
theorem own_d_jdk_31_method_17_2 : decode jdk_31_method_17_code 2 = .ok (.aconst_null, 1) := by decide +kernel
theorem own_d_jdk_31_method_17_3 : decode jdk_31_method_17_code 3 = .ok (.invokestatic 105, 3) := by decide +kernel
theorem own_d_jdk_31_method_17_6 : decode jdk_31_method_17_code 6 = .ok (.ireturn, 1) := by decide +kernel
theorem own_d_jdk_38_method_18_0 : decode jdk_38_method_18_code 0 = .ok (.aload_n 0, 1) := by decide +kernel
theorem own_d_jdk_38_method_18_1 : decode jdk_38_method_18_code 1 = .ok (.getfield 9, 3) := by decide +kernel
theorem own_d_jdk_38_method_18_4 : decode jdk_38_method_18_code 4 = .ok (.iload_n 1, 1) := by decide +kernel
theorem own_d_jdk_38_method_18_5 : decode jdk_38_method_18_code 5 = .ok (.aaload, 1) := by decide +kernel
theorem own_d_jdk_38_method_18_6 : decode jdk_38_method_18_code 6 = .ok (.areturn, 1) := by decide +kernel
theorem own_d_jdk_38_method_20_0 : decode jdk_38_method_20_code 0 = .ok (.iload_n 1, 1) := by decide +kernel
theorem own_d_jdk_38_method_20_1 : decode jdk_38_method_20_code 1 = .ok (.aload_n 0, 1) := by decide +kernel
theorem own_d_jdk_38_method_20_2 : decode jdk_38_method_20_code 2 = .ok (.getfield 48, 3) := by decide +kernel
theorem own_d_jdk_38_method_20_5 : decode jdk_38_method_20_code 5 = .ok (.invokestatic 118, 3) := by decide +kernel
theorem own_d_jdk_38_method_20_8 : decode jdk_38_method_20_code 8 = .ok (.pop, 1) := by decide +kernel
theorem own_d_jdk_38_method_20_9 : decode jdk_38_method_20_code 9 = .ok (.aload_n 0, 1) := by decide +kernel
theorem own_d_jdk_38_method_20_10 : decode jdk_38_method_20_code 10 = .ok (.iload_n 1, 1) := by decide +kernel
theorem own_d_jdk_38_method_20_11 : decode jdk_38_method_20_code 11 = .ok (.invokevirtual 123, 3) := by decide +kernel
theorem own_d_jdk_38_method_20_14 : decode jdk_38_method_20_code 14 = .ok (.areturn, 1) := by decide +kernel
theorem own_d_jdk_38_method_24_0 : decode jdk_38_method_24_code 0 = .ok (.iload_n 3, 1) := by decide +kernel
theorem own_d_jdk_38_method_24_1 : decode jdk_38_method_24_code 1 = .ok (.aload_n 2, 1) := by decide +kernel
theorem own_d_jdk_38_method_24_2 : decode jdk_38_method_24_code 2 = .ok (.arraylength, 1) := by decide +kernel
theorem own_d_jdk_38_method_24_3 : decode jdk_38_method_24_code 3 = .ok (.if_icmp .ne 8, 3) := by decide +kernel
theorem own_d_jdk_38_method_24_6 : decode jdk_38_method_24_code 6 = .ok (.aload_n 0, 1) := by decide +kernel
theorem own_d_jdk_38_method_24_7 : decode jdk_38_method_24_code 7 = .ok (.invokevirtual 129, 3) := by decide +kernel
theorem own_d_jdk_38_method_24_10 : decode jdk_38_method_24_code 10 = .ok (.astore_n 2, 1) := by decide +kernel
theorem own_d_jdk_38_method_24_11 : decode jdk_38_method_24_code 11 = .ok (.aload_n 2, 1) := by decide +kernel
theorem own_d_jdk_38_method_24_12 : decode jdk_38_method_24_code 12 = .ok (.iload_n 3, 1) := by decide +kernel
theorem own_d_jdk_38_method_24_13 : decode jdk_38_method_24_code 13 = .ok (.aload_n 1, 1) := by decide +kernel
theorem own_d_jdk_38_method_24_14 : decode jdk_38_method_24_code 14 = .ok (.aastore, 1) := by decide +kernel
theorem own_d_jdk_38_method_24_15 : decode jdk_38_method_24_code 15 = .ok (.aload_n 0, 1) := by decide +kernel
theorem own_d_jdk_38_method_24_16 : decode jdk_38_method_24_code 16 = .ok (.iload_n 3, 1) := by decide +kernel
theorem own_d_jdk_38_method_24_17 : decode jdk_38_method_24_code 17 = .ok (.iconst 1, 1) := by decide +kernel
theorem own_d_jdk_38_method_24_18 : decode jdk_38_method_24_code 18 = .ok (.iadd, 1) := by decide +kernel
theorem own_d_jdk_38_method_24_19 : decode jdk_38_method_24_code 19 = .ok (.putfield 48, 3) := by decide +kernel
theorem own_d_jdk_38_method_24_22 : decode jdk_38_method_24_code 22 = .ok (.return_, 1) := by decide +kernel
theorem own_d_jdk_38_method_25_0 : decode jdk_38_method_25_code 0 = .ok (.aload_n 0, 1) := by decide +kernel
theorem own_d_jdk_38_method_25_1 : decode jdk_38_method_25_code 1 = .ok (.dup, 1) := by decide +kernel
theorem own_d_jdk_38_method_25_2 : decode jdk_38_method_25_code 2 = .ok (.getfield 63, 3) := by decide +kernel
theorem own_d_jdk_38_method_25_5 : decode jdk_38_method_25_code 5 = .ok (.iconst 1, 1) := by decide +kernel
theorem own_d_jdk_38_method_25_6 : decode jdk_38_method_25_code 6 = .ok (.iadd, 1) := by decide +kernel
theorem own_d_jdk_38_method_25_7 : decode jdk_38_method_25_code 7 = .ok (.putfield 63, 3) := by decide +kernel
theorem own_d_jdk_38_method_25_10 : decode jdk_38_method_25_code 10 = .ok (.aload_n 0, 1) := by decide +kernel
theorem own_d_jdk_38_method_25_11 : decode jdk_38_method_25_code 11 = .ok (.aload_n 1, 1) := by decide +kernel
theorem own_d_jdk_38_method_25_12 : decode jdk_38_method_25_code 12 = .ok (.aload_n 0, 1) := by decide +kernel
theorem own_d_jdk_38_method_25_13 : decode jdk_38_method_25_code 13 = .ok (.getfield 9, 3) := by decide +kernel
theorem own_d_jdk_38_method_25_16 : decode jdk_38_method_25_code 16 = .ok (.aload_n 0, 1) := by decide +kernel
theorem own_d_jdk_38_method_25_17 : decode jdk_38_method_25_code 17 = .ok (.getfield 48, 3) := by decide +kernel
theorem own_d_jdk_38_method_25_20 : decode jdk_38_method_25_code 20 = .ok (.invokevirtual 131, 3) := by decide +kernel
theorem own_d_jdk_38_method_25_23 : decode jdk_38_method_25_code 23 = .ok (.iconst 1, 1) := by decide +kernel
theorem own_d_jdk_38_method_25_24 : decode jdk_38_method_25_code 24 = .ok (.ireturn, 1) := by decide +kernel
theorem own_d_jdk_38_method_2_0 : decode jdk_38_method_2_code 0 = .ok (.aload_n 0, 1) := by decide +kernel
theorem own_d_jdk_38_method_2_1 : decode jdk_38_method_2_code 1 = .ok (.invokespecial 1, 3) := by decide +kernel
theorem own_d_jdk_38_method_2_4 : decode jdk_38_method_2_code 4 = .ok (.aload_n 0, 1) := by decide +kernel
theorem own_d_jdk_38_method_2_5 : decode jdk_38_method_2_code 5 = .ok (.getstatic 39, 3) := by decide +kernel
theorem own_d_jdk_38_method_2_8 : decode jdk_38_method_2_code 8 = .ok (.putfield 9, 3) := by decide +kernel
theorem own_d_jdk_38_method_2_11 : decode jdk_38_method_2_code 11 = .ok (.return_, 1) := by decide +kernel
theorem own_d_jdk_38_method_6_0 : decode jdk_38_method_6_code 0 = .ok (.aload_n 0, 1) := by decide +kernel
theorem own_d_jdk_38_method_6_1 : decode jdk_38_method_6_code 1 = .ok (.getfield 9, 3) := by decide +kernel
theorem own_d_jdk_38_method_6_4 : decode jdk_38_method_6_code 4 = .ok (.arraylength, 1) := by decide +kernel
theorem own_d_jdk_38_method_6_5 : decode jdk_38_method_6_code 5 = .ok (.istore_n 2, 1) := by decide +kernel
theorem own_d_jdk_38_method_6_6 : decode jdk_38_method_6_code 6 = .ok (.iload_n 2, 1) := by decide +kernel
theorem own_d_jdk_38_method_6_7 : decode jdk_38_method_6_code 7 = .ok (.ifCond .gt 13, 3) := by decide +kernel
theorem own_d_jdk_38_method_6_10 : decode jdk_38_method_6_code 10 = .ok (.aload_n 0, 1) := by decide +kernel
theorem own_d_jdk_38_method_6_11 : decode jdk_38_method_6_code 11 = .ok (.getfield 9, 3) := by decide +kernel
theorem own_d_jdk_38_method_6_14 : decode jdk_38_method_6_code 14 = .ok (.getstatic 39, 3) := by decide +kernel
theorem own_d_jdk_38_method_6_17 : decode jdk_38_method_6_code 17 = .ok (.if_acmp .eq 28, 3) := by decide +kernel
theorem own_d_jdk_38_method_6_45 : decode jdk_38_method_6_code 45 = .ok (.aload_n 0, 1) := by decide +kernel
theorem own_d_jdk_38_method_6_46 : decode jdk_38_method_6_code 46 = .ok (.bipush 10, 2) := by decide +kernel
theorem own_d_jdk_38_method_6_48 : decode jdk_38_method_6_code 48 = .ok (.iload_n 1, 1) := by decide +kernel
theorem own_d_jdk_38_method_6_49 : decode jdk_38_method_6_code 49 = .ok (.invokestatic 79, 3) := by decide +kernel
theorem own_d_jdk_38_method_6_52 : decode jdk_38_method_6_code 52 = .ok (.anewarray 7, 3) := by decide +kernel
theorem own_d_jdk_38_method_6_55 : decode jdk_38_method_6_code 55 = .ok (.dup_x1, 1) := by decide +kernel
theorem own_d_jdk_38_method_6_56 : decode jdk_38_method_6_code 56 = .ok (.putfield 9, 3) := by decide +kernel
theorem own_d_jdk_38_method_6_59 : decode jdk_38_method_6_code 59 = .ok (.areturn, 1) := by decide +kernel
theorem own_d_jdk_38_method_7_0 : decode jdk_38_method_7_code 0 = .ok (.aload_n 0, 1) := by decide +kernel
theorem own_d_jdk_38_method_7_1 : decode jdk_38_method_7_code 1 = .ok (.aload_n 0, 1) := by decide +kernel
theorem own_d_jdk_38_method_7_2 : decode jdk_38_method_7_code 2 = .ok (.getfield 48, 3) := by decide +kernel
theorem own_d_jdk_38_method_7_5 : decode jdk_38_method_7_code 5 = .ok (.iconst 1, 1) := by decide +kernel
theorem own_d_jdk_38_method_7_6 : decode jdk_38_method_7_code 6 = .ok (.iadd, 1) := by decide +kernel
theorem own_d_jdk_38_method_7_7 : decode jdk_38_method_7_code 7 = .ok (.invokevirtual 69, 3) := by decide +kernel
theorem own_d_jdk_38_method_7_10 : decode jdk_38_method_7_code 10 = .ok (.areturn, 1) := by decide +kernel
theorem own_d_jdk_38_method_8_0 : decode jdk_38_method_8_code 0 = .ok (.aload_n 0, 1) := by decide +kernel
theorem own_d_jdk_38_method_8_1 : decode jdk_38_method_8_code 1 = .ok (.getfield 48, 3) := by decide +kernel
theorem own_d_jdk_38_method_8_4 : decode jdk_38_method_8_code 4 = .ok (.ireturn, 1) := by decide +kernel
theorem own_d_jdk_39_method_1_0 : decode jdk_39_method_1_code 0 = .ok (.aload_n 0, 1) := by decide +kernel
theorem own_d_jdk_39_method_1_1 : decode jdk_39_method_1_code 1 = .ok (.invokespecial 1, 3) := by decide +kernel
theorem own_d_jdk_39_method_1_4 : decode jdk_39_method_1_code 4 = .ok (.aload_n 0, 1) := by decide +kernel
theorem own_d_jdk_39_method_1_5 : decode jdk_39_method_1_code 5 = .ok (.iconst 0, 1) := by decide +kernel
theorem own_d_jdk_39_method_1_6 : decode jdk_39_method_1_code 6 = .ok (.putfield 7, 3) := by decide +kernel
theorem own_d_jdk_39_method_1_9 : decode jdk_39_method_1_code 9 = .ok (.return_, 1) := by decide +kernel
theorem own_d_jdk_41_method_11_0 : decode jdk_41_method_11_code 0 = .ok (.iload_n 0, 1) := by decide +kernel
theorem own_d_jdk_41_method_11_1 : decode jdk_41_method_11_code 1 = .ok (.ifCond .lt 8, 3) := by decide +kernel
theorem own_d_jdk_41_method_11_4 : decode jdk_41_method_11_code 4 = .ok (.iload_n 0, 1) := by decide +kernel
theorem own_d_jdk_41_method_11_5 : decode jdk_41_method_11_code 5 = .ok (.iload_n 1, 1) := by decide +kernel
theorem own_d_jdk_41_method_11_6 : decode jdk_41_method_11_code 6 = .ok (.if_icmp .lt 10, 3) := by decide +kernel
theorem own_d_jdk_41_method_11_16 : decode jdk_41_method_11_code 16 = .ok (.iload_n 0, 1) := by decide +kernel
theorem own_d_jdk_41_method_11_17 : decode jdk_41_method_11_code 17 = .ok (.ireturn, 1) := by decide +kernel
theorem own_d_prog_8_method_1_0 : decode prog_8_method_1_code 0 = .ok (.getstatic 16, 3) := by decide +kernel
theorem own_d_prog_8_method_1_3 : decode prog_8_method_1_code 3 = .ok (.invokevirtual 20, 3) := by decide +kernel
theorem own_d_prog_8_method_1_6 : decode prog_8_method_1_code 6 = .ok (.checkcast 21, 3) := by decide +kernel
theorem own_d_prog_8_method_1_9 : decode prog_8_method_1_code 9 = .ok (.areturn, 1) := by decide +kernel
theorem own_d_prog_8_method_6_0 : decode prog_8_method_6_code 0 = .ok (.new 43, 3) := by decide +kernel
theorem own_d_prog_8_method_6_3 : decode prog_8_method_6_code 3 = .ok (.dup, 1) := by decide +kernel
theorem own_d_prog_8_method_6_4 : decode prog_8_method_6_code 4 = .ok (.invokespecial 45, 3) := by decide +kernel
theorem own_d_prog_8_method_6_7 : decode prog_8_method_6_code 7 = .ok (.astore_n 0, 1) := by decide +kernel
theorem own_d_prog_8_method_6_8 : decode prog_8_method_6_code 8 = .ok (.invokestatic 48, 3) := by decide +kernel
theorem own_d_prog_8_method_6_11 : decode prog_8_method_6_code 11 = .ok (.astore_n 1, 1) := by decide +kernel
theorem own_d_prog_8_method_6_12 : decode prog_8_method_6_code 12 = .ok (.aload_n 1, 1) := by decide +kernel
theorem own_d_prog_8_method_6_13 : decode prog_8_method_6_code 13 = .ok (.arraylength, 1) := by decide +kernel
theorem own_d_prog_8_method_6_14 : decode prog_8_method_6_code 14 = .ok (.istore_n 2, 1) := by decide +kernel
theorem own_d_prog_8_method_6_15 : decode prog_8_method_6_code 15 = .ok (.iconst 0, 1) := by decide +kernel
theorem own_d_prog_8_method_6_16 : decode prog_8_method_6_code 16 = .ok (.istore_n 3, 1) := by decide +kernel
theorem own_d_prog_8_method_6_17 : decode prog_8_method_6_code 17 = .ok (.iload_n 3, 1) := by decide +kernel
theorem own_d_prog_8_method_6_18 : decode prog_8_method_6_code 18 = .ok (.iload_n 2, 1) := by decide +kernel
theorem own_d_prog_8_method_6_19 : decode prog_8_method_6_code 19 = .ok (.if_icmp .ge 29, 3) := by decide +kernel
theorem own_d_prog_8_method_6_22 : decode prog_8_method_6_code 22 = .ok (.aload_n 1, 1) := by decide +kernel
theorem own_d_prog_8_method_6_23 : decode prog_8_method_6_code 23 = .ok (.iload_n 3, 1) := by decide +kernel
theorem own_d_prog_8_method_6_24 : decode prog_8_method_6_code 24 = .ok (.aaload, 1) := by decide +kernel
theorem own_d_prog_8_method_6_25 : decode prog_8_method_6_code 25 = .ok (.astore 4, 2) := by decide +kernel
theorem own_d_prog_8_method_6_27 : decode prog_8_method_6_code 27 = .ok (.aload 4, 2) := by decide +kernel
theorem own_d_prog_8_method_6_29 : decode prog_8_method_6_code 29 = .ok (.getstatic 13, 3) := by decide +kernel
theorem own_d_prog_8_method_6_32 : decode prog_8_method_6_code 32 = .ok (.if_acmp .eq 10, 3) := by decide +kernel
theorem own_d_prog_8_method_6_35 : decode prog_8_method_6_code 35 = .ok (.aload_n 0, 1) := by decide +kernel
theorem own_d_prog_8_method_6_36 : decode prog_8_method_6_code 36 = .ok (.aload 4, 2) := by decide +kernel
theorem own_d_prog_8_method_6_38 : decode prog_8_method_6_code 38 = .ok (.invokevirtual 52, 3) := by decide +kernel
theorem own_d_prog_8_method_6_41 : decode prog_8_method_6_code 41 = .ok (.pop, 1) := by decide +kernel
theorem own_d_prog_8_method_6_42 : decode prog_8_method_6_code 42 = .ok (.iinc 3 1, 3) := by decide +kernel
theorem own_d_prog_8_method_6_45 : decode prog_8_method_6_code 45 = .ok (.goto (-28), 3) := by decide +kernel
theorem own_d_prog_8_method_6_48 : decode prog_8_method_6_code 48 = .ok (.aload_n 0, 1) := by decide +kernel
theorem own_d_prog_8_method_6_49 : decode prog_8_method_6_code 49 = .ok (.areturn, 1) := by decide +kernel
theorem own_pn0 : plainName "java/util/AbstractCollection" = true := by first | (simp [plainName, overriddenIn]; done) | decide +kernel
theorem own_pn1 : plainName "java/util/AbstractList" = true := by first | (simp [plainName, overriddenIn]; done) | decide +kernel
theorem own_pn2 : plainName "java/util/ArrayList" = true := by first | (simp [plainName, overriddenIn]; done) | decide +kernel
theorem own_pn3 : plainName "com/example/bell_tower/belltower/model/DeviceType" = true := by first | (simp [plainName, overriddenIn]; done) | decide +kernel
theorem own_pn4 : plainName "jdk/internal/util/Preconditions" = true := by first | (simp [plainName, overriddenIn]; done) | decide +kernel
theorem own_pn5 : plainName "java/util/Objects" = true := by first | (simp [plainName, overriddenIn]; done) | decide +kernel
theorem own_pn6 : plainName "com/example/bell_tower/belltower/model/DeviceTypePushAddressedPinLaw" = true := by first | (simp [plainName, overriddenIn]; done) | decide +kernel
theorem own_pd0 : parseMethodDescriptor "()V" = some ⟨[], none⟩ := by decide +kernel
theorem own_pd1 : parseMethodDescriptor "(II)I" = some ⟨[.int, .int], some .int⟩ := by decide +kernel
theorem own_pd2 : parseMethodDescriptor "(I)[Ljava/lang/Object;" = some ⟨[.int], some (.array (.object "java/lang/Object"))⟩ := by decide +kernel
theorem own_pd3 : parseMethodDescriptor "()[Ljava/lang/Object;" = some ⟨[], some (.array (.object "java/lang/Object"))⟩ := by decide +kernel
theorem own_pd4 : parseMethodDescriptor "(Ljava/lang/Object;[Ljava/lang/Object;I)V" = some ⟨[(.object "java/lang/Object"), (.array (.object "java/lang/Object")), .int], none⟩ := by decide +kernel
theorem own_pd5 : parseMethodDescriptor "(IILjava/util/function/BiFunction;)I" = some ⟨[.int, .int, (.object "java/util/function/BiFunction")], some .int⟩ := by decide +kernel
theorem own_pd6 : parseMethodDescriptor "(I)Ljava/lang/Object;" = some ⟨[.int], some (.object "java/lang/Object")⟩ := by decide +kernel
theorem own_pd7 : parseMethodDescriptor "()[Lcom/example/bell_tower/belltower/model/DeviceType;" = some ⟨[], some (.array (.object "com/example/bell_tower/belltower/model/DeviceType"))⟩ := by decide +kernel
theorem own_pd8 : parseMethodDescriptor "(Ljava/lang/Object;)Z" = some ⟨[(.object "java/lang/Object")], some .boolean⟩ := by decide +kernel
theorem own_pd9 : parseMethodDescriptor "()Ljava/util/List;" = some ⟨[], some (.object "java/util/List")⟩ := by decide +kernel
theorem own_pd10 : parseMethodDescriptor "()I" = some ⟨[], some .int⟩ := by decide +kernel
theorem own_three {k : Int32} (h0 : 0 ≤ k.toInt) (h1 : k.toInt < 3) : k = (0 : Int32) ∨ k = (1 : Int32) ∨ k = (2 : Int32) := by
  have e : k.toInt = 0 ∨ k.toInt = 1 ∨ k.toInt = 2 := by omega
  rcases e with e | e | e
  · exact Or.inl (Int32.toInt_inj.mp e)
  · exact Or.inr (Or.inl (Int32.toInt_inj.mp e))
  · exact Or.inr (Or.inr ((Int32.toInt_inj.mp e)))
theorem rm_ac_ef (m : MethodId) (x0 : Addr) : entryFrame m #[(.ref x0)] 1 = mkF m 0 #[.val (.ref x0)] [] := by first | (simp [entryFrame, mkF, argsToLocals, Value.category]; done) | rfl
def rm_ac_Q (Z : State) (a : Addr) (h0 : Heap) (n0 : Nat) (v : Option Value) (h : Heap) (L : List Loc) : Prop := v = none ∧ Fr n0 L ∧ h = h0
set_option maxRecDepth 65536 in
set_option maxHeartbeats 40000000 in
theorem rm_ac (l : Launch) (Z : State) (a0 : Array Value) (hw : ∀ d ∈ tables_1, d.before a0 Z = true) (ws : List Jvm.Cond) (a : Addr) (h0 : Heap) (n0 : Nat) (Z0 : n0 ≤ h0.size)  :
    MetFree l (⟨"java/util/AbstractCollection", "<init>", "()V"⟩ : MethodName) (head1 (Jvm.Cond.code (⟨"java/util/AbstractCollection", "<init>", "()V"⟩ : MethodName) jdk_22_method_1_code 1 none :: ws) ({ frames := 1, cells := 0, slots := 0, locals := 12 } : Room)) (fun a₀ U₀ => a₀ = #[(.ref a)] ∧ Z.Warmed39 U₀.vm ∧ U₀.heap = h0) (fun _ _ _ _ _ => True) (fun _ U₀ o₀ U₁ => ∃ v₀ L₀, o₀ = .returned v₀ ∧ rm_ac_Q Z a h0 n0 v₀ U₁.heap L₀ ∧ FrameEnd U₀ o₀ U₁ L₀ ({ frames := 1, cells := 0, slots := 0, locals := 12 } : Room).cells ({ frames := 1, cells := 0, slots := 0, locals := 12 } : Room).slots) := by
  refine MetFree.of_bodySF (plainFor_of_name own_pn0) hisR ?_
  intro p e s m args below meth c s₁ Bd hml0 hP hK
  obtain ⟨rfl, hZ, hh⟩ := hP
  have hx := Bd.exec
  have hby := Bd.bytes
  have hml : c.maxLocals = 1 := hml0
  have hown : s.vm.findClass "java/util/AbstractCollection" = some m.cls := findClass_of_methodNamed Bd.named
  have hnm := (name_of_methodNamed Bd.named Bd.method).1
  have X0 : Stand p l e ({ frames := 1, cells := 0, slots := 0, locals := 12 } : Room) s m #[(.ref a)] below meth c s₁ [] 0 0 := Stand.of_body Bd
  have e0 : s₁.heap = h0 := by rw [← hh, Bd.state]; rfl
  have N0 := Fr.nil n0
  have pre0 : ∀ t, Steps p.tables e below (s₁.setTop (mkF m 0 #[.val (.ref a)] [])) t → Steps p.tables e below (s₁.setTop (entryFrame m #[(.ref a)] 1)) t := fun t kk₀ => castTop (rm_ac_ef m a) kk₀
  obtain ⟨T1, X1, e1, st1⟩ := initO X0 hx hZ hown (hw _ (List.mem_of_getElem? (i := 22) rfl)) (hw _ (List.mem_of_getElem? (i := 23) rfl)) (hw _ (List.mem_of_getElem? (i := 24) rfl)) e0 (g := (mkF m 1 #[.val (.ref a)] [(.ref a)])) rfl (by rw [hml]; rfl) rfl (hb hby own_d_jdk_22_method_1_1) (by decide) (W := 0) (by show 2 * 0 + _ ≤ _; exact Nat.le_of_eq rfl) (by decide)
  obtain ⟨fs, hr, hrun, hended, hW, hsame⟩ := X1.leave (v := none) (fun _ => rfl)
  refine ⟨_, _, pre0 _ ?_, hrun, hended, _, _, rfl, ?_, ⟨_, rfl⟩, hW, hsame.mono (by decide) (by decide)⟩
  · show Steps p.tables e below (s₁.setTop (mkF m 0 #[.val (.ref a)] [])) _
    refine XS.aloadN X0.here hx rfl (hb hby own_d_jdk_22_method_1_0) rfl rfl ?_
    show Steps p.tables e below (s₁.setTop (mkF m 1 #[.val (.ref a)] [(.ref a)])) _
    refine st1 _ ?_
    show Steps p.tables e below (T1.setTop (mkF m 4 #[.val (.ref a)] [])) _
    exact X1.returnOut hx Bd.returns (hb hby own_d_jdk_22_method_1_4) hr
  · show rm_ac_Q Z a h0 n0 _ T1.heap _
    rw [e1]
    exact ⟨rfl, N0, rfl⟩
theorem rm_abl_ef (m : MethodId) (x0 : Addr) : entryFrame m #[(.ref x0)] 1 = mkF m 0 #[.val (.ref x0)] [] := by first | (simp [entryFrame, mkF, argsToLocals, Value.category]; done) | rfl
def rm_abl_Q (Z : State) (a : Addr) (h0 : Heap) (n0 : Nat) (v : Option Value) (h : Heap) (L : List Loc) : Prop := v = none ∧ Fr n0 L ∧ Keep h0 h [a] ∧ Exa Z h a "java/util/ArrayList" ∧ Fld Z h a "java/util/AbstractList" "modCount" "I" (.int (0 : Int32)) ∧ Fld Z h a "java/util/ArrayList" "size" "I" (.int (0 : Int32)) ∧ Fld Z h a "java/util/ArrayList" "elementData" "[Ljava/lang/Object;" .null
set_option maxRecDepth 65536 in
set_option maxHeartbeats 40000000 in
theorem rm_abl (l : Launch) (Z : State) (a0 : Array Value) (hw : ∀ d ∈ tables_1, d.before a0 Z = true) (ws : List Jvm.Cond) (a : Addr) (h0 : Heap) (n0 : Nat) (Z0 : n0 ≤ h0.size) (OL : Old Z n0 h0) (E_a : Exa Z h0 a "java/util/ArrayList") (F_mod : Fld Z h0 a "java/util/AbstractList" "modCount" "I" (.int (0 : Int32))) (F_size : Fld Z h0 a "java/util/ArrayList" "size" "I" (.int (0 : Int32))) (F_elem : Fld Z h0 a "java/util/ArrayList" "elementData" "[Ljava/lang/Object;" .null) (g_a : n0 ≤ a) :
    MetFree l (⟨"java/util/AbstractList", "<init>", "()V"⟩ : MethodName) (head1 (Jvm.Cond.code (⟨"java/util/AbstractList", "<init>", "()V"⟩ : MethodName) jdk_39_method_1_code 1 none :: ws) ({ frames := 2, cells := 0, slots := 0, locals := 24 } : Room)) (fun a₀ U₀ => a₀ = #[(.ref a)] ∧ Z.Warmed39 U₀.vm ∧ U₀.heap = h0) (fun _ _ _ _ _ => True) (fun _ U₀ o₀ U₁ => ∃ v₀ L₀, o₀ = .returned v₀ ∧ rm_abl_Q Z a h0 n0 v₀ U₁.heap L₀ ∧ FrameEnd U₀ o₀ U₁ L₀ ({ frames := 2, cells := 0, slots := 0, locals := 24 } : Room).cells ({ frames := 2, cells := 0, slots := 0, locals := 24 } : Room).slots) := by
  refine MetFree.of_bodySF (plainFor_of_name own_pn1) hisR ?_
  intro p e s m args below meth c s₁ Bd hml0 hP hK
  obtain ⟨rfl, hZ, hh⟩ := hP
  have hx := Bd.exec
  have hby := Bd.bytes
  have hml : c.maxLocals = 1 := hml0
  have hown : s.vm.findClass "java/util/AbstractList" = some m.cls := findClass_of_methodNamed Bd.named
  have hnm := (name_of_methodNamed Bd.named Bd.method).1
  have X0 : Stand p l e ({ frames := 2, cells := 0, slots := 0, locals := 24 } : Room) s m #[(.ref a)] below meth c s₁ [] 0 0 := Stand.of_body Bd
  have e0 : s₁.heap = h0 := by rw [← hh, Bd.state]; rfl
  have N0 := Fr.nil n0
  have pre0 : ∀ t, Steps p.tables e below (s₁.setTop (mkF m 0 #[.val (.ref a)] [])) t → Steps p.tables e below (s₁.setTop (entryFrame m #[(.ref a)] 1)) t := fun t kk₀ => castTop (rm_abl_ef m a) kk₀
  obtain ⟨_, _, ⟨T2, L2, k2, n2⟩, -, X2, ⟨Lc2, hQ2, l2, y2, z2⟩, st2⟩ := X0.specialBack hx (y := (⟨"java/util/AbstractCollection", "<init>", "()V"⟩ : MethodName)) rfl hown (mvT hZ (hw _ (List.mem_of_getElem? (i := 16) rfl))) (mvT hZ (hw _ (List.mem_of_getElem? (i := 17) rfl))) (mvT hZ (hw _ (List.mem_of_getElem? (i := 21) rfl))) (by decide) (backOf (W := 0) (rm_ac l Z a0 hw [] a h0 n0 Z0) hZ (hw _ (List.mem_of_getElem? (i := 21) rfl)) (hw _ (List.mem_of_getElem? (i := 20) rfl)) (by decide) (by decide)) (g := (mkF m 1 #[.val (.ref a)] [(.ref a)])) rfl (by rw [hml]; rfl) (Steps.refl _) (a := a) (argsL := []) (rest := []) (lenOf own_pd0 rfl) rfl (by show 2 * 0 + _ ≤ _; exact Nat.le_of_eq rfl) (hb hby own_d_jdk_39_method_1_1) (fun _ _ => ⟨rfl, e0, (by decide : 0 + 0 ≤ _), (by decide : 0 + 0 ≤ _)⟩)
  dsimp only [Pt.U, Pt.locs, Pt.cells, Pt.slots] at X2 l2 y2 z2 st2 hQ2
  subst l2 y2 z2
  obtain ⟨rfl, Nq2, eh2⟩ := hQ2
  have N2 := Fr.app N0 Nq2
  obtain ⟨T3, h3, X3, e3, W3, st3⟩ := putF X2 hx hZ hown (host := "") (Or.inl (hw _ (List.mem_of_getElem? (i := 25) rfl))) Via.refl eh2 F_mod E_a (Or.inl (hw _ (List.mem_of_getElem? (i := 26) rfl))) (hw _ (List.mem_of_getElem? (i := 5) rfl)) (ty := .int) (by decide) rfl rfl (g := (mkF m 6 #[.val (.ref a)] [(.int (0 : Int32)), (.ref a)])) rfl rfl (hb hby own_d_jdk_39_method_1_6)
  have N3 := Fr.snoc X3 N2 g_a
  have f4 : Exa Z h3 a "java/util/ArrayList" := E_a.wr W3
  have f5 : Fld Z h3 a "java/util/AbstractList" "modCount" "I" (.int (0 : Int32)) := F_mod.same W3
  have f6 : Fld Z h3 a "java/util/ArrayList" "size" "I" (.int (0 : Int32)) := F_size.other W3 (Or.inr (slot_ne (Or.inl (hw _ (List.mem_of_getElem? (i := 58) rfl))) (Or.inl (hw _ (List.mem_of_getElem? (i := 26) rfl))) (by decide) (t := .int) (t' := .int) (by decide) (by decide)))
  have f7 : Fld Z h3 a "java/util/ArrayList" "elementData" "[Ljava/lang/Object;" .null := F_elem.other W3 (Or.inr (slot_ne (Or.inl (hw _ (List.mem_of_getElem? (i := 29) rfl))) (Or.inl (hw _ (List.mem_of_getElem? (i := 26) rfl))) (by decide) (t := (.array (.object "java/lang/Object"))) (t' := .int) (by decide) (by decide)))
  have OL3 := OL.wr W3 g_a
  have KP3 : Keep h0 h3 [a] := (Keep.refl _ _).wr W3 (Or.inl (by simp))
  obtain ⟨fs, hr, hrun, hended, hW, hsame⟩ := X3.leave (v := none) (fun _ => rfl)
  refine ⟨_, _, pre0 _ ?_, hrun, hended, _, _, rfl, ?_, ⟨_, rfl⟩, hW, hsame.mono (by decide) (by decide)⟩
  · show Steps p.tables e below (s₁.setTop (mkF m 0 #[.val (.ref a)] [])) _
    refine XS.aloadN X0.here hx rfl (hb hby own_d_jdk_39_method_1_0) rfl rfl ?_
    show Steps p.tables e below (s₁.setTop (mkF m 1 #[.val (.ref a)] [(.ref a)])) _
    refine st2.trans ?_
    show Steps p.tables e below (T2.setTop (mkF m 4 #[.val (.ref a)] [])) _
    refine XS.aloadN X2.here hx rfl (hb hby own_d_jdk_39_method_1_4) rfl rfl ?_
    show Steps p.tables e below (T2.setTop (mkF m 5 #[.val (.ref a)] [(.ref a)])) _
    refine XS.iconst X2.here hx rfl (hb hby own_d_jdk_39_method_1_5) ?_
    show Steps p.tables e below (T2.setTop (mkF m 6 #[.val (.ref a)] [(.int (0 : Int32)), (.ref a)])) _
    refine st3 _ ?_
    show Steps p.tables e below (T3.setTop (mkF m 9 #[.val (.ref a)] [])) _
    exact X3.returnOut hx Bd.returns (hb hby own_d_jdk_39_method_1_9) hr
  · show rm_abl_Q Z a h0 n0 _ T3.heap _
    rw [e3]
    exact ⟨rfl, N3, KP3, f4, f5, f6, f7⟩
theorem rm_ali_ef (m : MethodId) (x0 : Addr) : entryFrame m #[(.ref x0)] 1 = mkF m 0 #[.val (.ref x0)] [] := by first | (simp [entryFrame, mkF, argsToLocals, Value.category]; done) | rfl
def rm_ali_Q (Z : State) (a : Addr) (bD : Addr) (kD : ClassId) (h0 : Heap) (n0 : Nat) (v : Option Value) (h : Heap) (L : List Loc) : Prop := v = none ∧ Fr n0 L ∧ Keep h0 h [a] ∧ Exa Z h a "java/util/ArrayList" ∧ Fld Z h a "java/util/AbstractList" "modCount" "I" (.int (0 : Int32)) ∧ Fld Z h a "java/util/ArrayList" "size" "I" (.int (0 : Int32)) ∧ Fld Z h a "java/util/ArrayList" "elementData" "[Ljava/lang/Object;" (.ref bD)
set_option maxRecDepth 65536 in
set_option maxHeartbeats 40000000 in
theorem rm_ali (l : Launch) (Z : State) (a0 : Array Value) (hw : ∀ d ∈ tables_1, d.before a0 Z = true) (ws : List Jvm.Cond) (a : Addr) (bD : Addr) (kD : ClassId) (h0 : Heap) (n0 : Nat) (Z0 : n0 ≤ h0.size) (OL : Old Z n0 h0) (E_a : Exa Z h0 a "java/util/ArrayList") (F_mod : Fld Z h0 a "java/util/AbstractList" "modCount" "I" (.int (0 : Int32))) (F_size : Fld Z h0 a "java/util/ArrayList" "size" "I" (.int (0 : Int32))) (F_elem : Fld Z h0 a "java/util/ArrayList" "elementData" "[Ljava/lang/Object;" .null) (g_a : n0 ≤ a) (S_D : Sta Z Z.heap "java/util/ArrayList" "DEFAULTCAPACITY_EMPTY_ELEMENTDATA" "[Ljava/lang/Object;" (.ref bD)) (L_D : OwnLst Z Z.heap bD (.object "java/lang/Object") kD []) :
    MetFree l (⟨"java/util/ArrayList", "<init>", "()V"⟩ : MethodName) (head1 (Jvm.Cond.code (⟨"java/util/ArrayList", "<init>", "()V"⟩ : MethodName) jdk_38_method_2_code 1 none :: ws) ({ frames := 3, cells := 0, slots := 0, locals := 36 } : Room)) (fun a₀ U₀ => a₀ = #[(.ref a)] ∧ Z.Warmed39 U₀.vm ∧ U₀.heap = h0) (fun _ _ _ _ _ => True) (fun _ U₀ o₀ U₁ => ∃ v₀ L₀, o₀ = .returned v₀ ∧ rm_ali_Q Z a bD kD h0 n0 v₀ U₁.heap L₀ ∧ FrameEnd U₀ o₀ U₁ L₀ ({ frames := 3, cells := 0, slots := 0, locals := 36 } : Room).cells ({ frames := 3, cells := 0, slots := 0, locals := 36 } : Room).slots) := by
  refine MetFree.of_bodySF (plainFor_of_name own_pn2) hisR ?_
  intro p e s m args below meth c s₁ Bd hml0 hP hK
  obtain ⟨rfl, hZ, hh⟩ := hP
  have hx := Bd.exec
  have hby := Bd.bytes
  have hml : c.maxLocals = 1 := hml0
  have hown : s.vm.findClass "java/util/ArrayList" = some m.cls := findClass_of_methodNamed Bd.named
  have hnm := (name_of_methodNamed Bd.named Bd.method).1
  have X0 : Stand p l e ({ frames := 3, cells := 0, slots := 0, locals := 36 } : Room) s m #[(.ref a)] below meth c s₁ [] 0 0 := Stand.of_body Bd
  have e0 : s₁.heap = h0 := by rw [← hh, Bd.state]; rfl
  have N0 := Fr.nil n0
  have pre0 : ∀ t, Steps p.tables e below (s₁.setTop (mkF m 0 #[.val (.ref a)] [])) t → Steps p.tables e below (s₁.setTop (entryFrame m #[(.ref a)] 1)) t := fun t kk₀ => castTop (rm_ali_ef m a) kk₀
  obtain ⟨_, _, ⟨T8, L8, k8, n8⟩, -, X8, ⟨Lc8, hQ8, l8, y8, z8⟩, st8⟩ := X0.specialBack hx (y := (⟨"java/util/AbstractList", "<init>", "()V"⟩ : MethodName)) rfl hown (mvT hZ (hw _ (List.mem_of_getElem? (i := 10) rfl))) (mvT hZ (hw _ (List.mem_of_getElem? (i := 11) rfl))) (mvT hZ (hw _ (List.mem_of_getElem? (i := 15) rfl))) (by decide) (backOf (W := 0) (rm_abl l Z a0 hw [] a h0 n0 Z0 OL E_a F_mod F_size F_elem g_a) hZ (hw _ (List.mem_of_getElem? (i := 15) rfl)) (hw _ (List.mem_of_getElem? (i := 14) rfl)) (by decide) (by decide)) (g := (mkF m 1 #[.val (.ref a)] [(.ref a)])) rfl (by rw [hml]; rfl) (Steps.refl _) (a := a) (argsL := []) (rest := []) (lenOf own_pd0 rfl) rfl (by show 2 * 0 + _ ≤ _; exact Nat.le_of_eq rfl) (hb hby own_d_jdk_38_method_2_1) (fun _ _ => ⟨rfl, e0, (by decide : 0 + 0 ≤ _), (by decide : 0 + 0 ≤ _)⟩)
  dsimp only [Pt.U, Pt.locs, Pt.cells, Pt.slots] at X8 l8 y8 z8 st8 hQ8
  subst l8 y8 z8
  obtain ⟨rfl, Nq8, K8, c8_0, c8_1, c8_2, c8_3⟩ := hQ8
  have N8 := Fr.app N0 Nq8
  have OL8 := OL.keep K8 (fun x hx => by
    simp only [List.mem_cons, List.not_mem_nil, or_false] at hx
    rcases hx with rfl
    · exact g_a)
  have KP8 : Keep h0 T8.heap [a] := (Keep.refl _ _).trans K8 (fun x hx => by
    simp only [List.mem_cons, List.not_mem_nil, or_false] at hx
    rcases hx with rfl
    · exact Or.inl (by simp))
  obtain ⟨T9, X9, e9, st9⟩ := getS X8 hx hZ (host := "") hown (hw _ (List.mem_of_getElem? (i := 27) rfl)) Via.refl rfl (S_D.ext OL8.2) (g := (mkF m 5 #[.val (.ref a)] [(.ref a)])) rfl (hb hby own_d_jdk_38_method_2_5)
  obtain ⟨T10, h10, X10, e10, W10, st10⟩ := putF X9 hx hZ hown (host := "") (Or.inl (hw _ (List.mem_of_getElem? (i := 28) rfl))) Via.refl e9 c8_3 c8_0 (Or.inl (hw _ (List.mem_of_getElem? (i := 29) rfl))) (hw _ (List.mem_of_getElem? (i := 5) rfl)) (ty := (.array (.object "java/lang/Object"))) (by decide) rfl rfl (g := (mkF m 8 #[.val (.ref a)] [(.ref bD), (.ref a)])) rfl rfl (hb hby own_d_jdk_38_method_2_8)
  have N10 := Fr.snoc X10 N8 g_a
  have f11 : Exa Z h10 a "java/util/ArrayList" := c8_0.wr W10
  have f12 : Fld Z h10 a "java/util/AbstractList" "modCount" "I" (.int (0 : Int32)) := c8_1.other W10 (Or.inr (slot_ne (Or.inl (hw _ (List.mem_of_getElem? (i := 26) rfl))) (Or.inl (hw _ (List.mem_of_getElem? (i := 29) rfl))) (by decide) (t := .int) (t' := (.array (.object "java/lang/Object"))) (by decide) (by decide)))
  have f13 : Fld Z h10 a "java/util/ArrayList" "size" "I" (.int (0 : Int32)) := c8_2.other W10 (Or.inr (slot_ne (Or.inl (hw _ (List.mem_of_getElem? (i := 58) rfl))) (Or.inl (hw _ (List.mem_of_getElem? (i := 29) rfl))) (by decide) (t := .int) (t' := (.array (.object "java/lang/Object"))) (by decide) (by decide)))
  have f14 : Fld Z h10 a "java/util/ArrayList" "elementData" "[Ljava/lang/Object;" (.ref bD) := c8_3.same W10
  have OL10 := OL8.wr W10 g_a
  have KP10 : Keep h0 h10 [a] := KP8.wr W10 (Or.inl (by simp))
  obtain ⟨fs, hr, hrun, hended, hW, hsame⟩ := X10.leave (v := none) (fun _ => rfl)
  refine ⟨_, _, pre0 _ ?_, hrun, hended, _, _, rfl, ?_, ⟨_, rfl⟩, hW, hsame.mono (by decide) (by decide)⟩
  · show Steps p.tables e below (s₁.setTop (mkF m 0 #[.val (.ref a)] [])) _
    refine XS.aloadN X0.here hx rfl (hb hby own_d_jdk_38_method_2_0) rfl rfl ?_
    show Steps p.tables e below (s₁.setTop (mkF m 1 #[.val (.ref a)] [(.ref a)])) _
    refine st8.trans ?_
    show Steps p.tables e below (T8.setTop (mkF m 4 #[.val (.ref a)] [])) _
    refine XS.aloadN X8.here hx rfl (hb hby own_d_jdk_38_method_2_4) rfl rfl ?_
    show Steps p.tables e below (T8.setTop (mkF m 5 #[.val (.ref a)] [(.ref a)])) _
    refine st9 _ ?_
    show Steps p.tables e below (T9.setTop (mkF m 8 #[.val (.ref a)] [(.ref bD), (.ref a)])) _
    refine st10 _ ?_
    show Steps p.tables e below (T10.setTop (mkF m 11 #[.val (.ref a)] [])) _
    exact X10.returnOut hx Bd.returns (hb hby own_d_jdk_38_method_2_11) hr
  · show rm_ali_Q Z a bD kD h0 n0 _ T10.heap _
    rw [e10]
    exact ⟨rfl, N10, KP10, f11, f12, f13, f14⟩
theorem rm_values_ef (m : MethodId)  : entryFrame m #[] 0 = mkF m 0 #[] [] := by first | (simp [entryFrame, mkF, argsToLocals, Value.category]; done) | rfl
def rm_values_Q (Z : State) (aV : Addr) (cV : Cell) (b_IOS : Addr) (b_ANDROID : Addr) (b_AMAZON : Addr) (b_OPEN : Addr) (h0 : Heap) (n0 : Nat) (v : Option Value) (h : Heap) (L : List Loc) : Prop := v = some (.ref h0.size) ∧ Fr n0 L ∧ Keep h0 h [] ∧ OwnLst Z h h0.size (.object "com/example/bell_tower/belltower/model/DeviceType") cV.cls [.ref b_IOS, .ref b_ANDROID, .ref b_AMAZON, .ref b_OPEN]
set_option maxRecDepth 65536 in
set_option maxHeartbeats 40000000 in
theorem rm_values (l : Launch) (Z : State) (a0 : Array Value) (hw : ∀ d ∈ tables_1, d.before a0 Z = true) (ws : List Jvm.Cond) (aV : Addr) (cV : Cell) (b_IOS : Addr) (b_ANDROID : Addr) (b_AMAZON : Addr) (b_OPEN : Addr) (h0 : Heap) (n0 : Nat) (Z0 : n0 ≤ h0.size) (OL : Old Z n0 h0) (S_V : Sta Z Z.heap "com/example/bell_tower/belltower/model/DeviceType" "$VALUES" "[Lcom/example/bell_tower/belltower/model/DeviceType;" (.ref aV)) (A_V : Arr Z Z.heap aV cV (.object "com/example/bell_tower/belltower/model/DeviceType")) (E_V : Exa Z Z.heap aV "[Lcom/example/bell_tower/belltower/model/DeviceType;") (FC_V : FitC Z cV) (L_V : cV.slots.toList = [.ref b_IOS, .ref b_ANDROID, .ref b_AMAZON, .ref b_OPEN]) :
    MetFree l (⟨"com/example/bell_tower/belltower/model/DeviceType", "values", "()[Lcom/example/bell_tower/belltower/model/DeviceType;"⟩ : MethodName) (head1 (Jvm.Cond.code (⟨"com/example/bell_tower/belltower/model/DeviceType", "values", "()[Lcom/example/bell_tower/belltower/model/DeviceType;"⟩ : MethodName) prog_8_method_1_code 0 (some (.array (.object "com/example/bell_tower/belltower/model/DeviceType"))) :: ws) ({ frames := 1, cells := 1, slots := 4, locals := 14 } : Room)) (fun a₀ U₀ => a₀ = #[] ∧ Z.Warmed39 U₀.vm ∧ U₀.heap = h0) (fun _ _ _ _ _ => True) (fun _ U₀ o₀ U₁ => ∃ v₀ L₀, o₀ = .returned v₀ ∧ rm_values_Q Z aV cV b_IOS b_ANDROID b_AMAZON b_OPEN h0 n0 v₀ U₁.heap L₀ ∧ FrameEnd U₀ o₀ U₁ L₀ ({ frames := 1, cells := 1, slots := 4, locals := 14 } : Room).cells ({ frames := 1, cells := 1, slots := 4, locals := 14 } : Room).slots) := by
  refine MetFree.of_bodySF (plainFor_of_name own_pn3) hisR ?_
  intro p e s m args below meth c s₁ Bd hml0 hP hK
  obtain ⟨rfl, hZ, hh⟩ := hP
  have hx := Bd.exec
  have hby := Bd.bytes
  have hml : c.maxLocals = 0 := hml0
  have hown : s.vm.findClass "com/example/bell_tower/belltower/model/DeviceType" = some m.cls := findClass_of_methodNamed Bd.named
  have hnm := (name_of_methodNamed Bd.named Bd.method).1
  have X0 : Stand p l e ({ frames := 1, cells := 1, slots := 4, locals := 14 } : Room) s m #[] below meth c s₁ [] 0 0 := Stand.of_body Bd
  have e0 : s₁.heap = h0 := by rw [← hh, Bd.state]; rfl
  have N0 := Fr.nil n0
  have pre0 : ∀ t, Steps p.tables e below (s₁.setTop (mkF m 0 #[] [])) t → Steps p.tables e below (s₁.setTop (entryFrame m #[] 0)) t := fun t kk₀ => castTop (rm_values_ef m ) kk₀
  obtain ⟨T15, X15, e15, st15⟩ := getS X0 hx hZ (host := "") hown (hw _ (List.mem_of_getElem? (i := 33) rfl)) Via.refl e0 (S_V.ext OL.2) (g := (mkF m 0 #[] [])) rfl (hb hby own_d_prog_8_method_1_0)
  obtain ⟨T16, h16, X16, e16, E16, A16, Ex16, st16⟩ := cloneA X15 hx hZ hown (hw _ (List.mem_of_getElem? (i := 35) rfl)) (hw _ (List.mem_of_getElem? (i := 36) rfl)) (hw _ (List.mem_of_getElem? (i := 40) rfl)) (hw _ (List.mem_of_getElem? (i := 38) rfl)) (hw _ (List.mem_of_getElem? (i := 39) rfl)) (hw _ (List.mem_of_getElem? (i := 41) rfl)) e15 (A_V.ext OL.2) (E_V.ext OL.2) FC_V (g := (mkF m 3 #[] [(.ref aV)])) rfl (by rw [hml]; rfl) rfl (hb hby own_d_prog_8_method_1_3) (by decide) (W := 0) (cap := 4) (by show 2 * 0 + _ ≤ _; exact Nat.le_of_eq rfl) (by decide) (by rw [← Array.length_toList, L_V]; exact Nat.le_refl _) (by decide) (by decide)
  obtain ⟨T17, X17, e17, st17⟩ := castY X16 hx hZ hown (hw _ (List.mem_of_getElem? (i := 47) rfl)) e16 (Ins.self Ex16) (g := (mkF m 6 #[] [(.ref h0.size)])) rfl rfl (hb hby own_d_prog_8_method_1_6)
  obtain ⟨fs, hr, hrun, hended, hW, hsame⟩ := X17.leave (v := some (.ref h0.size)) (fun h => by rw [Bd.returns] at h; cases h)
  refine ⟨_, _, pre0 _ ?_, hrun, hended, _, _, rfl, ?_, ⟨_, rfl⟩, hW, hsame.mono (by decide) (by decide)⟩
  · show Steps p.tables e below (s₁.setTop (mkF m 0 #[] [])) _
    refine st15 _ ?_
    show Steps p.tables e below (T15.setTop (mkF m 3 #[] [(.ref aV)])) _
    refine st16 _ ?_
    show Steps p.tables e below (T16.setTop (mkF m 6 #[] [(.ref h0.size)])) _
    refine st17 _ ?_
    show Steps p.tables e below (T17.setTop (mkF m 9 #[] [(.ref h0.size)])) _
    exact own_retA X17 hx (by first | rfl | decide) rfl Bd.returns (hb hby own_d_prog_8_method_1_9) hr
  · show rm_values_Q Z aV cV b_IOS b_ANDROID b_AMAZON b_OPEN h0 n0 _ T17.heap _
    rw [e17]
    exact ⟨rfl, N0, (Keep.refl _ _).ext E16, ⟨_, A16, rfl, L_V⟩⟩
theorem rm_max_ef (m : MethodId) (x0 : Int32) (x1 : Int32) : entryFrame m #[(.int x0), (.int x1)] 2 = mkF m 0 #[.val (.int x0), .val (.int x1)] [] := by first | (simp [entryFrame, mkF, argsToLocals, Value.category]; done) | rfl
def rm_max_Q (Z : State) (x0 : Int32) (y0 : Int32) (h0 : Heap) (n0 : Nat) (v : Option Value) (h : Heap) (L : List Loc) : Prop := v = some (.int x0) ∧ Fr n0 L ∧ h = h0
set_option maxRecDepth 65536 in
set_option maxHeartbeats 40000000 in
theorem rm_max (l : Launch) (Z : State) (a0 : Array Value) (hw : ∀ d ∈ tables_1, d.before a0 Z = true) (ws : List Jvm.Cond) (x0 : Int32) (y0 : Int32) (h0 : Heap) (n0 : Nat) (Z0 : n0 ≤ h0.size) (hxy : ¬ (x0 < y0)) :
    MetFree l (⟨"java/lang/Math", "max", "(II)I"⟩ : MethodName) (head1 (Jvm.Cond.code (⟨"java/lang/Math", "max", "(II)I"⟩ : MethodName) jdk_29_method_65_code 2 (some .int) :: ws) ({ frames := 0, cells := 0, slots := 0, locals := 0 } : Room)) (fun a₀ U₀ => a₀ = #[(.int x0), (.int y0)] ∧ Z.Warmed39 U₀.vm ∧ U₀.heap = h0) (fun _ _ _ _ _ => True) (fun _ U₀ o₀ U₁ => ∃ v₀ L₀, o₀ = .returned v₀ ∧ rm_max_Q Z x0 y0 h0 n0 v₀ U₁.heap L₀ ∧ FrameEnd U₀ o₀ U₁ L₀ ({ frames := 0, cells := 0, slots := 0, locals := 0 } : Room).cells ({ frames := 0, cells := 0, slots := 0, locals := 0 } : Room).slots) := by
  refine MetFree.of_bodySF (Jvm.Free.JP.mathPlain rfl (by decide +kernel)) hisR ?_
  intro p e s m args below meth c s₁ Bd hml0 hP hK
  obtain ⟨rfl, hZ, hh⟩ := hP
  have hx := Bd.exec
  have hby := Bd.bytes
  have hml : c.maxLocals = 2 := hml0
  have hown : s.vm.findClass "java/lang/Math" = some m.cls := findClass_of_methodNamed Bd.named
  have hnm := (name_of_methodNamed Bd.named Bd.method).1
  have X0 : Stand p l e ({ frames := 0, cells := 0, slots := 0, locals := 0 } : Room) s m #[(.int x0), (.int y0)] below meth c s₁ [] 0 0 := Stand.of_body Bd
  have e0 : s₁.heap = h0 := by rw [← hh, Bd.state]; rfl
  have N0 := Fr.nil n0
  have pre0 : ∀ t, Steps p.tables e below (s₁.setTop (mkF m 0 #[.val (.int x0), .val (.int y0)] [])) t → Steps p.tables e below (s₁.setTop (entryFrame m #[(.int x0), (.int y0)] 2)) t := fun t kk₀ => castTop (rm_max_ef m x0 y0) kk₀
  obtain ⟨fs, hr, hrun, hended, hW, hsame⟩ := X0.leave (v := some (.int x0)) (fun h => by rw [Bd.returns] at h; cases h)
  refine ⟨_, _, pre0 _ ?_, hrun, hended, _, _, rfl, ?_, ⟨_, rfl⟩, hW, hsame.mono (by decide) (by decide)⟩
  · show Steps p.tables e below (s₁.setTop (mkF m 0 #[.val (.int x0), .val (.int y0)] [])) _
    refine XS.iloadN X0.here hx rfl (hb hby own_d_jdk_29_method_65_0) rfl ?_
    show Steps p.tables e below (s₁.setTop (mkF m 1 #[.val (.int x0), .val (.int y0)] [(.int x0)])) _
    refine XS.iloadN X0.here hx rfl (hb hby own_d_jdk_29_method_65_1) rfl ?_
    show Steps p.tables e below (s₁.setTop (mkF m 2 #[.val (.int x0), .val (.int y0)] [(.int y0), (.int x0)])) _
    refine XS.icmpNo X0.here hx rfl (hb hby own_d_jdk_29_method_65_2) rfl (flt hxy).1 ?_
    show Steps p.tables e below (s₁.setTop (mkF m 5 #[.val (.int x0), .val (.int y0)] [])) _
    refine XS.iloadN X0.here hx rfl (hb hby own_d_jdk_29_method_65_5) rfl ?_
    show Steps p.tables e below (s₁.setTop (mkF m 6 #[.val (.int x0), .val (.int y0)] [(.int x0)])) _
    refine XS.goto X0.here hx rfl (pc0 := 6) (pc' := 10) rfl (hb hby own_d_jdk_29_method_65_6) (by decide) (by decide) ?_
    show Steps p.tables e below (s₁.setTop (mkF m 10 #[.val (.int x0), .val (.int y0)] [(.int x0)])) _
    exact own_retI X0 hx Bd.returns (hb hby own_d_jdk_29_method_65_10) hr
  · show rm_max_Q Z x0 y0 h0 n0 _ s₁.heap _
    rw [e0]
    exact ⟨rfl, N0, rfl⟩
theorem rm_gi_ef (m : MethodId) (x0 : Addr) (x1 : Int32) : entryFrame m #[(.ref x0), (.int x1)] 4 = mkF m 0 #[.val (.ref x0), .val (.int x1), .unset, .unset] [] := by first | (simp [entryFrame, mkF, argsToLocals, Value.category]; done) | rfl
def rm_gi_Q (Z : State) (a : Addr) (mc : Int32) (mo : Int32) (bD : Addr) (kD : ClassId) (h0 : Heap) (n0 : Nat) (v : Option Value) (h : Heap) (L : List Loc) : Prop := ∃ (d : Addr) (k : ClassId), v = some (.ref d) ∧ Fr n0 L ∧ Keep h0 h [a] ∧ h0.size ≤ d ∧ Exa Z h a "java/util/ArrayList" ∧ Fld Z h a "java/util/AbstractList" "modCount" "I" (.int mo) ∧ Fld Z h a "java/util/ArrayList" "size" "I" (.int (0 : Int32)) ∧ Fld Z h a "java/util/ArrayList" "elementData" "[Ljava/lang/Object;" (.ref d) ∧ OwnLst Z h d (.object "java/lang/Object") k [.null, .null, .null, .null, .null, .null, .null, .null, .null, .null] ∧ Ovr Z k "java/lang/Object"
set_option maxRecDepth 65536 in
set_option maxHeartbeats 40000000 in
theorem rm_gi (l : Launch) (Z : State) (a0 : Array Value) (hw : ∀ d ∈ tables_1, d.before a0 Z = true) (ws : List Jvm.Cond) (a : Addr) (mc : Int32) (mo : Int32) (bD : Addr) (kD : ClassId) (h0 : Heap) (n0 : Nat) (Z0 : n0 ≤ h0.size) (OL : Old Z n0 h0) (E_a : Exa Z h0 a "java/util/ArrayList") (F_mod : Fld Z h0 a "java/util/AbstractList" "modCount" "I" (.int mo)) (F_size : Fld Z h0 a "java/util/ArrayList" "size" "I" (.int (0 : Int32))) (F_elem : Fld Z h0 a "java/util/ArrayList" "elementData" "[Ljava/lang/Object;" (.ref bD)) (g_a : n0 ≤ a) (S_D : Sta Z Z.heap "java/util/ArrayList" "DEFAULTCAPACITY_EMPTY_ELEMENTDATA" "[Ljava/lang/Object;" (.ref bD)) (L_D : OwnLst Z Z.heap bD (.object "java/lang/Object") kD []) (ne_aD : a ≠ bD) (hmc : ¬ ((10 : Int32) < mc)) :
    MetFree l (⟨"java/util/ArrayList", "grow", "(I)[Ljava/lang/Object;"⟩ : MethodName) (head1 (Jvm.Cond.code (⟨"java/util/ArrayList", "grow", "(I)[Ljava/lang/Object;"⟩ : MethodName) jdk_38_method_6_code 4 (some (.array (.object "java/lang/Object"))) :: ws) ({ frames := 1, cells := 1, slots := 10, locals := 14 } : Room)) (fun a₀ U₀ => a₀ = #[(.ref a), (.int mc)] ∧ Z.Warmed39 U₀.vm ∧ U₀.heap = h0) (fun _ _ _ _ _ => True) (fun _ U₀ o₀ U₁ => ∃ v₀ L₀, o₀ = .returned v₀ ∧ rm_gi_Q Z a mc mo bD kD h0 n0 v₀ U₁.heap L₀ ∧ FrameEnd U₀ o₀ U₁ L₀ ({ frames := 1, cells := 1, slots := 10, locals := 14 } : Room).cells ({ frames := 1, cells := 1, slots := 10, locals := 14 } : Room).slots) := by
  refine MetFree.of_bodySF (plainFor_of_name own_pn2) hisR ?_
  intro p e s m args below meth c s₁ Bd hml0 hP hK
  obtain ⟨rfl, hZ, hh⟩ := hP
  have hx := Bd.exec
  have hby := Bd.bytes
  have hml : c.maxLocals = 4 := hml0
  have hown : s.vm.findClass "java/util/ArrayList" = some m.cls := findClass_of_methodNamed Bd.named
  have hnm := (name_of_methodNamed Bd.named Bd.method).1
  have X0 : Stand p l e ({ frames := 1, cells := 1, slots := 10, locals := 14 } : Room) s m #[(.ref a), (.int mc)] below meth c s₁ [] 0 0 := Stand.of_body Bd
  have e0 : s₁.heap = h0 := by rw [← hh, Bd.state]; rfl
  have N0 := Fr.nil n0
  have pre0 : ∀ t, Steps p.tables e below (s₁.setTop (mkF m 0 #[.val (.ref a), .val (.int mc), .unset, .unset] [])) t → Steps p.tables e below (s₁.setTop (entryFrame m #[(.ref a), (.int mc)] 4)) t := fun t kk₀ => castTop (rm_gi_ef m a mc) kk₀
  obtain ⟨T18, X18, e18, st18⟩ := getF X0 hx hZ hown (host := "") (Or.inl (hw _ (List.mem_of_getElem? (i := 28) rfl))) Via.refl e0 F_elem (g := (mkF m 1 #[.val (.ref a), .val (.int mc), .unset, .unset] [(.ref a)])) rfl rfl (hb hby own_d_jdk_38_method_6_1)
  obtain ⟨cl19, Ar19, q19, G19⟩ := id ((L_D.ext OL.2))
  obtain ⟨T20, X20, e20, st20⟩ := getF X18 hx hZ hown (host := "") (Or.inl (hw _ (List.mem_of_getElem? (i := 28) rfl))) Via.refl e18 F_elem (g := (mkF m 11 #[.val (.ref a), .val (.int mc), .val (.int (0 : Int32)), .unset] [(.ref a)])) rfl rfl (hb hby own_d_jdk_38_method_6_11)
  obtain ⟨T21, X21, e21, st21⟩ := getS X20 hx hZ (host := "") hown (hw _ (List.mem_of_getElem? (i := 27) rfl)) Via.refl e20 (S_D.ext OL.2) (g := (mkF m 14 #[.val (.ref a), .val (.int mc), .val (.int (0 : Int32)), .unset] [(.ref bD)])) rfl (hb hby own_d_jdk_38_method_6_14)
  obtain ⟨_, _, ⟨T22, L22, k22, n22⟩, -, X22, ⟨Lc22, hQ22, l22, y22, z22⟩, st22⟩ := Jvm.LawKit.callS X21 hx (y := (⟨"java/lang/Math", "max", "(II)I"⟩ : MethodName)) hown (mvT hZ (hw _ (List.mem_of_getElem? (i := 74) rfl))) (mvT hZ (hw _ (List.mem_of_getElem? (i := 75) rfl))) (mvT hZ (hw _ (List.mem_of_getElem? (i := 76) rfl))) (mvT hZ (hw _ (List.mem_of_getElem? (i := 77) rfl))) (by decide) (backOf (W := 1) (rm_max l Z a0 hw [] (10 : Int32) mc h0 n0 Z0 hmc) hZ (hw _ (List.mem_of_getElem? (i := 77) rfl)) (hw _ (List.mem_of_getElem? (i := 76) rfl)) (by decide) (by decide)) (g := (mkF m 49 #[.val (.ref a), .val (.int mc), .val (.int (0 : Int32)), .unset] [(.int mc), (.int (10 : Int32)), (.ref a)])) rfl (by rw [hml]; rfl) (argsL := [(.int (10 : Int32)), (.int mc)]) (rest := [(.ref a)]) (lenOf own_pd1 rfl) rfl (by show 2 * 0 + _ ≤ _; exact Nat.le_of_eq rfl) (hb hby own_d_jdk_38_method_6_49) (fun _ _ => ⟨rfl, e21, (by decide : 0 + 0 ≤ _), (by decide : 0 + 0 ≤ _)⟩)
  dsimp only [Pt.U, Pt.locs, Pt.cells, Pt.slots] at X22 l22 y22 z22 st22 hQ22
  subst l22 y22 z22
  obtain ⟨rfl, Nq22, eh22⟩ := hQ22
  have N22 := Fr.app N0 Nq22
  obtain ⟨T23, h23, k23, X23, e23, E23, A23, O23, st23⟩ := newR X22 hx hZ hown (hw _ (List.mem_of_getElem? (i := 78) rfl)) (hw _ (List.mem_of_getElem? (i := 79) rfl)) eh22 (g := (mkF m 52 #[.val (.ref a), .val (.int mc), .val (.int (0 : Int32)), .unset] [(.int (10 : Int32)), (.ref a)])) rfl (hb hby own_d_jdk_38_method_6_52) rfl (by decide) (cap := 10) (by decide) (by decide) (by decide) (by decide)
  obtain ⟨b23, g23⟩ : ∃ z, z = h0.size := ⟨_, rfl⟩
  rw [← g23] at A23 st23
  have ne_a_b23 : a ≠ b23 := own_ne_lt E_a.lt g23
  have ne_bD_b23 : bD ≠ b23 := own_ne_lt (L_D.ext OL.2).lt g23
  have sz23 : h0.size ≤ b23 := Nat.le_trans (Nat.le_refl _) (Nat.le_of_eq g23.symm)
  have gn23 : n0 ≤ b23 := Nat.le_trans Z0 sz23
  have f24 : Exa Z h23 a "java/util/ArrayList" := E_a.ext E23
  have f25 : Fld Z h23 a "java/util/AbstractList" "modCount" "I" (.int mo) := F_mod.ext E23
  have f26 : Fld Z h23 a "java/util/ArrayList" "size" "I" (.int (0 : Int32)) := F_size.ext E23
  have f27 : Fld Z h23 a "java/util/ArrayList" "elementData" "[Ljava/lang/Object;" (.ref bD) := F_elem.ext E23
  have f28 : OwnLst Z h23 bD (.object "java/lang/Object") kD [] := (L_D.ext OL.2).ext E23
  have OL23 := own_old_ext OL E23
  have KP23 : Keep h0 h23 [a] := (Keep.refl _ _).ext E23
  have f29 : OwnLst Z h23 b23 (.object "java/lang/Object") k23 [.null, .null, .null, .null, .null, .null, .null, .null, .null, .null] := own_lst_new A23
  obtain ⟨T30, h30, X30, e30, W30, st30⟩ := putF X23 hx hZ hown (host := "") (Or.inl (hw _ (List.mem_of_getElem? (i := 28) rfl))) Via.refl e23 f27 f24 (Or.inl (hw _ (List.mem_of_getElem? (i := 29) rfl))) (hw _ (List.mem_of_getElem? (i := 5) rfl)) (ty := (.array (.object "java/lang/Object"))) (by decide) rfl rfl (g := (mkF m 56 #[.val (.ref a), .val (.int mc), .val (.int (0 : Int32)), .unset] [(.ref b23), (.ref a), (.ref b23)])) rfl rfl (hb hby own_d_jdk_38_method_6_56)
  have N30 := Fr.snoc X30 N22 g_a
  have f31 : Exa Z h30 a "java/util/ArrayList" := f24.wr W30
  have f32 : Fld Z h30 a "java/util/AbstractList" "modCount" "I" (.int mo) := f25.other W30 (Or.inr (slot_ne (Or.inl (hw _ (List.mem_of_getElem? (i := 26) rfl))) (Or.inl (hw _ (List.mem_of_getElem? (i := 29) rfl))) (by decide) (t := .int) (t' := (.array (.object "java/lang/Object"))) (by decide) (by decide)))
  have f33 : Fld Z h30 a "java/util/ArrayList" "size" "I" (.int (0 : Int32)) := f26.other W30 (Or.inr (slot_ne (Or.inl (hw _ (List.mem_of_getElem? (i := 58) rfl))) (Or.inl (hw _ (List.mem_of_getElem? (i := 29) rfl))) (by decide) (t := .int) (t' := (.array (.object "java/lang/Object"))) (by decide) (by decide)))
  have f34 : Fld Z h30 a "java/util/ArrayList" "elementData" "[Ljava/lang/Object;" (.ref b23) := f27.same W30
  have f35 : OwnLst Z h30 bD (.object "java/lang/Object") kD [] := f28.other W30 (Ne.symm ne_aD)
  have f36 : OwnLst Z h30 b23 (.object "java/lang/Object") k23 [.null, .null, .null, .null, .null, .null, .null, .null, .null, .null] := f29.other W30 (Ne.symm ne_a_b23)
  have OL30 := OL23.wr W30 g_a
  have KP30 : Keep h0 h30 [a] := KP23.wr W30 (Or.inl (by simp))
  obtain ⟨fs, hr, hrun, hended, hW, hsame⟩ := X30.leave (v := some (.ref b23)) (fun h => by rw [Bd.returns] at h; cases h)
  refine ⟨_, _, pre0 _ ?_, hrun, hended, _, _, rfl, ?_, ⟨_, rfl⟩, hW, hsame.mono (by decide) (by decide)⟩
  · show Steps p.tables e below (s₁.setTop (mkF m 0 #[.val (.ref a), .val (.int mc), .unset, .unset] [])) _
    refine XS.aloadN X0.here hx rfl (hb hby own_d_jdk_38_method_6_0) rfl rfl ?_
    show Steps p.tables e below (s₁.setTop (mkF m 1 #[.val (.ref a), .val (.int mc), .unset, .unset] [(.ref a)])) _
    refine st18 _ ?_
    show Steps p.tables e below (T18.setTop (mkF m 4 #[.val (.ref a), .val (.int mc), .unset, .unset] [(.ref bD)])) _
    refine X18.arraylength hx (cell := cl19) (by rw [e18]; exact Ar19.1) (State.isArrayOf_alike hZ.alike Ar19.2.1) (g := (mkF m 4 #[.val (.ref a), .val (.int mc), .unset, .unset] [(.ref bD)])) rfl (rest := []) rfl (hb hby own_d_jdk_38_method_6_4) _ ?_
    rw [own_len (z := (0 : Int32)) G19 rfl]
    show Steps p.tables e below (T18.setTop (mkF m 5 #[.val (.ref a), .val (.int mc), .unset, .unset] [(.int (0 : Int32))])) _
    refine XS.istoreN X18.here hx rfl (hb hby own_d_jdk_38_method_6_5) rfl (l' := #[.val (.ref a), .val (.int mc), .val (.int (0 : Int32)), .unset]) rfl ?_
    show Steps p.tables e below (T18.setTop (mkF m 6 #[.val (.ref a), .val (.int mc), .val (.int (0 : Int32)), .unset] [])) _
    refine XS.iloadN X18.here hx rfl (hb hby own_d_jdk_38_method_6_6) rfl ?_
    show Steps p.tables e below (T18.setTop (mkF m 7 #[.val (.ref a), .val (.int mc), .val (.int (0 : Int32)), .unset] [(.int (0 : Int32))])) _
    refine XS.ifNo X18.here hx rfl (hb hby own_d_jdk_38_method_6_7) rfl ((if0 _ _).trans (flt (show ¬ ((0 : Int32) < (0 : Int32)) by decide)).2.2.1) ?_
    show Steps p.tables e below (T18.setTop (mkF m 10 #[.val (.ref a), .val (.int mc), .val (.int (0 : Int32)), .unset] [])) _
    refine XS.aloadN X18.here hx rfl (hb hby own_d_jdk_38_method_6_10) rfl rfl ?_
    show Steps p.tables e below (T18.setTop (mkF m 11 #[.val (.ref a), .val (.int mc), .val (.int (0 : Int32)), .unset] [(.ref a)])) _
    refine st20 _ ?_
    show Steps p.tables e below (T20.setTop (mkF m 14 #[.val (.ref a), .val (.int mc), .val (.int (0 : Int32)), .unset] [(.ref bD)])) _
    refine st21 _ ?_
    show Steps p.tables e below (T21.setTop (mkF m 17 #[.val (.ref a), .val (.int mc), .val (.int (0 : Int32)), .unset] [(.ref bD), (.ref bD)])) _
    refine Jvm.RoadKit.acmp (g := (mkF m 17 #[.val (.ref a), .val (.int mc), .val (.int (0 : Int32)), .unset] [(.ref bD), (.ref bD)])) X21 hx rfl rfl rfl (pc0 := 17) (pc' := 45) (same := true) rfl (hb hby own_d_jdk_38_method_6_17) rfl (decide_eq_true rfl) (by decide) (by decide) ?_
    show Steps p.tables e below (T21.setTop (mkF m 45 #[.val (.ref a), .val (.int mc), .val (.int (0 : Int32)), .unset] [])) _
    refine XS.aloadN X21.here hx rfl (hb hby own_d_jdk_38_method_6_45) rfl rfl ?_
    show Steps p.tables e below (T21.setTop (mkF m 46 #[.val (.ref a), .val (.int mc), .val (.int (0 : Int32)), .unset] [(.ref a)])) _
    refine XS.bipush X21.here hx rfl (hb hby own_d_jdk_38_method_6_46) ?_
    show Steps p.tables e below (T21.setTop (mkF m 48 #[.val (.ref a), .val (.int mc), .val (.int (0 : Int32)), .unset] [(.int (10 : Int32)), (.ref a)])) _
    refine XS.iloadN X21.here hx rfl (hb hby own_d_jdk_38_method_6_48) rfl ?_
    show Steps p.tables e below (T21.setTop (mkF m 49 #[.val (.ref a), .val (.int mc), .val (.int (0 : Int32)), .unset] [(.int mc), (.int (10 : Int32)), (.ref a)])) _
    refine st22 _ ?_
    show Steps p.tables e below (T22.setTop (mkF m 52 #[.val (.ref a), .val (.int mc), .val (.int (0 : Int32)), .unset] [(.int (10 : Int32)), (.ref a)])) _
    refine st23 _ ?_
    show Steps p.tables e below (T23.setTop (mkF m 55 #[.val (.ref a), .val (.int mc), .val (.int (0 : Int32)), .unset] [(.ref b23), (.ref a)])) _
    refine XS.dupX1 X23.here hx rfl (hb hby own_d_jdk_38_method_6_55) rfl rfl rfl ?_
    show Steps p.tables e below (T23.setTop (mkF m 56 #[.val (.ref a), .val (.int mc), .val (.int (0 : Int32)), .unset] [(.ref b23), (.ref a), (.ref b23)])) _
    refine st30 _ ?_
    show Steps p.tables e below (T30.setTop (mkF m 59 #[.val (.ref a), .val (.int mc), .val (.int (0 : Int32)), .unset] [(.ref b23)])) _
    exact own_retA X30 hx (by first | rfl | decide) rfl Bd.returns (hb hby own_d_jdk_38_method_6_59) hr
  · show rm_gi_Q Z a mc mo bD kD h0 n0 _ T30.heap _
    rw [e30]
    exact ⟨b23, k23, rfl, N30, KP30, sz23, f31, f32, f33, f34, f36, O23⟩
theorem rm_g0_ef (m : MethodId) (x0 : Addr) : entryFrame m #[(.ref x0)] 1 = mkF m 0 #[.val (.ref x0)] [] := by first | (simp [entryFrame, mkF, argsToLocals, Value.category]; done) | rfl
def rm_g0_Q (Z : State) (a : Addr) (mo : Int32) (bD : Addr) (kD : ClassId) (h0 : Heap) (n0 : Nat) (v : Option Value) (h : Heap) (L : List Loc) : Prop := ∃ (d : Addr) (k : ClassId), v = some (.ref d) ∧ Fr n0 L ∧ Keep h0 h [a] ∧ h0.size ≤ d ∧ Exa Z h a "java/util/ArrayList" ∧ Fld Z h a "java/util/AbstractList" "modCount" "I" (.int mo) ∧ Fld Z h a "java/util/ArrayList" "size" "I" (.int (0 : Int32)) ∧ Fld Z h a "java/util/ArrayList" "elementData" "[Ljava/lang/Object;" (.ref d) ∧ OwnLst Z h d (.object "java/lang/Object") k [.null, .null, .null, .null, .null, .null, .null, .null, .null, .null] ∧ Ovr Z k "java/lang/Object"
set_option maxRecDepth 65536 in
set_option maxHeartbeats 40000000 in
theorem rm_g0 (l : Launch) (Z : State) (a0 : Array Value) (hw : ∀ d ∈ tables_1, d.before a0 Z = true) (ws : List Jvm.Cond) (a : Addr) (mo : Int32) (bD : Addr) (kD : ClassId) (h0 : Heap) (n0 : Nat) (Z0 : n0 ≤ h0.size) (OL : Old Z n0 h0) (E_a : Exa Z h0 a "java/util/ArrayList") (F_mod : Fld Z h0 a "java/util/AbstractList" "modCount" "I" (.int mo)) (F_size : Fld Z h0 a "java/util/ArrayList" "size" "I" (.int (0 : Int32))) (F_elem : Fld Z h0 a "java/util/ArrayList" "elementData" "[Ljava/lang/Object;" (.ref bD)) (g_a : n0 ≤ a) (S_D : Sta Z Z.heap "java/util/ArrayList" "DEFAULTCAPACITY_EMPTY_ELEMENTDATA" "[Ljava/lang/Object;" (.ref bD)) (L_D : OwnLst Z Z.heap bD (.object "java/lang/Object") kD []) (ne_aD : a ≠ bD) :
    MetFree l (⟨"java/util/ArrayList", "grow", "()[Ljava/lang/Object;"⟩ : MethodName) (head1 (Jvm.Cond.code (⟨"java/util/ArrayList", "grow", "()[Ljava/lang/Object;"⟩ : MethodName) jdk_38_method_7_code 1 (some (.array (.object "java/lang/Object"))) :: ws) ({ frames := 2, cells := 1, slots := 10, locals := 29 } : Room)) (fun a₀ U₀ => a₀ = #[(.ref a)] ∧ Z.Warmed39 U₀.vm ∧ U₀.heap = h0) (fun _ _ _ _ _ => True) (fun _ U₀ o₀ U₁ => ∃ v₀ L₀, o₀ = .returned v₀ ∧ rm_g0_Q Z a mo bD kD h0 n0 v₀ U₁.heap L₀ ∧ FrameEnd U₀ o₀ U₁ L₀ ({ frames := 2, cells := 1, slots := 10, locals := 29 } : Room).cells ({ frames := 2, cells := 1, slots := 10, locals := 29 } : Room).slots) := by
  refine MetFree.of_bodySF (plainFor_of_name own_pn2) hisR ?_
  intro p e s m args below meth c s₁ Bd hml0 hP hK
  obtain ⟨rfl, hZ, hh⟩ := hP
  have hx := Bd.exec
  have hby := Bd.bytes
  have hml : c.maxLocals = 1 := hml0
  have hown : s.vm.findClass "java/util/ArrayList" = some m.cls := findClass_of_methodNamed Bd.named
  have hnm := (name_of_methodNamed Bd.named Bd.method).1
  have X0 : Stand p l e ({ frames := 2, cells := 1, slots := 10, locals := 29 } : Room) s m #[(.ref a)] below meth c s₁ [] 0 0 := Stand.of_body Bd
  have e0 : s₁.heap = h0 := by rw [← hh, Bd.state]; rfl
  have N0 := Fr.nil n0
  have pre0 : ∀ t, Steps p.tables e below (s₁.setTop (mkF m 0 #[.val (.ref a)] [])) t → Steps p.tables e below (s₁.setTop (entryFrame m #[(.ref a)] 1)) t := fun t kk₀ => castTop (rm_g0_ef m a) kk₀
  obtain ⟨T37, X37, e37, st37⟩ := getF X0 hx hZ hown (host := "") (Or.inl (hw _ (List.mem_of_getElem? (i := 57) rfl))) Via.refl e0 F_size (g := (mkF m 2 #[.val (.ref a)] [(.ref a), (.ref a)])) rfl rfl (hb hby own_d_jdk_38_method_7_2)
  obtain ⟨cq38, q38, q38'⟩ := E_a.cell
  obtain ⟨_, _, ⟨T38, L38, k38, n38⟩, -, X38, ⟨Lc38, hQ38, l38, y38, z38⟩, st38⟩ := X37.privateBack hx (y := (⟨"java/util/ArrayList", "grow", "(I)[Ljava/lang/Object;"⟩ : MethodName)) hown (mvT hZ (hw _ (List.mem_of_getElem? (i := 69) rfl))) (mvT hZ (hw _ (List.mem_of_getElem? (i := 70) rfl))) (mvT hZ (hw _ (List.mem_of_getElem? (i := 72) rfl))) (Cond.privateMethod_at (mvP hZ (hw _ (List.mem_of_getElem? (i := 71) rfl)) (args := #[]))) (mvT hZ (hw _ (List.mem_of_getElem? (i := 73) rfl))) (by decide) (backOf (W := 0) (rm_gi l Z a0 hw [] a ((0 : Int32) + (1 : Int32)) mo bD kD h0 n0 Z0 OL E_a F_mod F_size F_elem g_a S_D L_D ne_aD (by decide)) hZ (hw _ (List.mem_of_getElem? (i := 73) rfl)) (hw _ (List.mem_of_getElem? (i := 6) rfl)) (by decide) (by decide)) (g := (mkF m 7 #[.val (.ref a)] [(.int ((0 : Int32) + (1 : Int32))), (.ref a)])) rfl (by rw [hml]; rfl) (Steps.refl _) (a := a) (by rw [e37]; exact q38) q38' (argsL := [(.int ((0 : Int32) + (1 : Int32)))]) (rest := []) (lenOf own_pd2 rfl) rfl (by show 2 * 0 + _ ≤ _; exact Nat.le_of_eq rfl) (hb hby own_d_jdk_38_method_7_7) (fun _ _ => ⟨rfl, e37, (by decide : 0 + 1 ≤ _), (by decide : 0 + 10 ≤ _)⟩)
  dsimp only [Pt.U, Pt.locs, Pt.cells, Pt.slots] at X38 l38 y38 z38 st38 hQ38
  subst l38 y38 z38
  obtain ⟨d38, kd38, rfl, Nq38, K38, le38, c38_0, c38_1, c38_2, c38_3, c38_4, ov38⟩ := hQ38
  have N38 := Fr.app N0 Nq38
  have ne_a_d38 : a ≠ d38 := own_ne_le E_a.lt le38
  have sz_d38 : h0.size ≤ d38 := Nat.le_trans (Nat.le_refl _) le38
  have gn_d38 : n0 ≤ d38 := Nat.le_trans Z0 sz_d38
  have OL38 := OL.keep K38 (fun x hx => by
    simp only [List.mem_cons, List.not_mem_nil, or_false] at hx
    rcases hx with rfl
    · exact g_a)
  have KP38 : Keep h0 T38.heap [a] := (Keep.refl _ _).trans K38 (fun x hx => by
    simp only [List.mem_cons, List.not_mem_nil, or_false] at hx
    rcases hx with rfl
    · exact Or.inl (by simp))
  obtain ⟨fs, hr, hrun, hended, hW, hsame⟩ := X38.leave (v := some (.ref d38)) (fun h => by rw [Bd.returns] at h; cases h)
  refine ⟨_, _, pre0 _ ?_, hrun, hended, _, _, rfl, ?_, ⟨_, rfl⟩, hW, hsame.mono (by decide) (by decide)⟩
  · show Steps p.tables e below (s₁.setTop (mkF m 0 #[.val (.ref a)] [])) _
    refine XS.aloadN X0.here hx rfl (hb hby own_d_jdk_38_method_7_0) rfl rfl ?_
    show Steps p.tables e below (s₁.setTop (mkF m 1 #[.val (.ref a)] [(.ref a)])) _
    refine XS.aloadN X0.here hx rfl (hb hby own_d_jdk_38_method_7_1) rfl rfl ?_
    show Steps p.tables e below (s₁.setTop (mkF m 2 #[.val (.ref a)] [(.ref a), (.ref a)])) _
    refine st37 _ ?_
    show Steps p.tables e below (T37.setTop (mkF m 5 #[.val (.ref a)] [(.int (0 : Int32)), (.ref a)])) _
    refine XS.iconst X37.here hx rfl (hb hby own_d_jdk_38_method_7_5) ?_
    show Steps p.tables e below (T37.setTop (mkF m 6 #[.val (.ref a)] [(.int (1 : Int32)), (.int (0 : Int32)), (.ref a)])) _
    refine XS.iadd X37.here hx rfl (hb hby own_d_jdk_38_method_7_6) rfl ?_
    show Steps p.tables e below (T37.setTop (mkF m 7 #[.val (.ref a)] [(.int ((0 : Int32) + (1 : Int32))), (.ref a)])) _
    refine st38.trans ?_
    show Steps p.tables e below (T38.setTop (mkF m 10 #[.val (.ref a)] [(.ref d38)])) _
    exact own_retA X38 hx (by first | rfl | decide) rfl Bd.returns (hb hby own_d_jdk_38_method_7_10) hr
  · show rm_g0_Q Z a mo bD kD h0 n0 _ T38.heap _
    exact ⟨d38, kd38, rfl, N38, KP38, sz_d38, c38_0, c38_1, c38_2, c38_3, c38_4, ov38⟩
theorem rm_a3g_ef (m : MethodId) (x0 : Addr) (x1 : Addr) (x2 : Addr) (x3 : Int32) : entryFrame m #[(.ref x0), (.ref x1), (.ref x2), (.int x3)] 4 = mkF m 0 #[.val (.ref x0), .val (.ref x1), .val (.ref x2), .val (.int x3)] [] := by first | (simp [entryFrame, mkF, argsToLocals, Value.category]; done) | rfl
def rm_a3g_Q (Z : State) (a : Addr) (el : Addr) (mo : Int32) (bD : Addr) (kD : ClassId) (h0 : Heap) (n0 : Nat) (v : Option Value) (h : Heap) (L : List Loc) : Prop := ∃ (d : Addr) (k : ClassId), v = none ∧ Fr n0 L ∧ Keep h0 h [a] ∧ h0.size ≤ d ∧ Exa Z h a "java/util/ArrayList" ∧ Fld Z h a "java/util/AbstractList" "modCount" "I" (.int mo) ∧ Fld Z h a "java/util/ArrayList" "size" "I" (.int ((0 : Int32) + (1 : Int32))) ∧ Fld Z h a "java/util/ArrayList" "elementData" "[Ljava/lang/Object;" (.ref d) ∧ OwnLst Z h d (.object "java/lang/Object") k [.ref el, .null, .null, .null, .null, .null, .null, .null, .null, .null] ∧ Ovr Z k "java/lang/Object"
set_option maxRecDepth 65536 in
set_option maxHeartbeats 40000000 in
theorem rm_a3g (l : Launch) (Z : State) (a0 : Array Value) (hw : ∀ d ∈ tables_1, d.before a0 Z = true) (ws : List Jvm.Cond) (a : Addr) (el : Addr) (mo : Int32) (bD : Addr) (kD : ClassId) (h0 : Heap) (n0 : Nat) (Z0 : n0 ≤ h0.size) (OL : Old Z n0 h0) (E_a : Exa Z h0 a "java/util/ArrayList") (F_mod : Fld Z h0 a "java/util/AbstractList" "modCount" "I" (.int mo)) (F_size : Fld Z h0 a "java/util/ArrayList" "size" "I" (.int (0 : Int32))) (F_elem : Fld Z h0 a "java/util/ArrayList" "elementData" "[Ljava/lang/Object;" (.ref bD)) (g_a : n0 ≤ a) (S_D : Sta Z Z.heap "java/util/ArrayList" "DEFAULTCAPACITY_EMPTY_ELEMENTDATA" "[Ljava/lang/Object;" (.ref bD)) (L_D : OwnLst Z Z.heap bD (.object "java/lang/Object") kD []) (E_el : Exa Z Z.heap el "com/example/bell_tower/belltower/model/DeviceType") (ne_aD : a ≠ bD) :
    MetFree l (⟨"java/util/ArrayList", "add", "(Ljava/lang/Object;[Ljava/lang/Object;I)V"⟩ : MethodName) (head1 (Jvm.Cond.code (⟨"java/util/ArrayList", "add", "(Ljava/lang/Object;[Ljava/lang/Object;I)V"⟩ : MethodName) jdk_38_method_24_code 4 none :: ws) ({ frames := 3, cells := 1, slots := 10, locals := 41 } : Room)) (fun a₀ U₀ => a₀ = #[(.ref a), (.ref el), (.ref bD), (.int (0 : Int32))] ∧ Z.Warmed39 U₀.vm ∧ U₀.heap = h0) (fun _ _ _ _ _ => True) (fun _ U₀ o₀ U₁ => ∃ v₀ L₀, o₀ = .returned v₀ ∧ rm_a3g_Q Z a el mo bD kD h0 n0 v₀ U₁.heap L₀ ∧ FrameEnd U₀ o₀ U₁ L₀ ({ frames := 3, cells := 1, slots := 10, locals := 41 } : Room).cells ({ frames := 3, cells := 1, slots := 10, locals := 41 } : Room).slots) := by
  refine MetFree.of_bodySF (plainFor_of_name own_pn2) hisR ?_
  intro p e s m args below meth c s₁ Bd hml0 hP hK
  obtain ⟨rfl, hZ, hh⟩ := hP
  have hx := Bd.exec
  have hby := Bd.bytes
  have hml : c.maxLocals = 4 := hml0
  have hown : s.vm.findClass "java/util/ArrayList" = some m.cls := findClass_of_methodNamed Bd.named
  have hnm := (name_of_methodNamed Bd.named Bd.method).1
  have X0 : Stand p l e ({ frames := 3, cells := 1, slots := 10, locals := 41 } : Room) s m #[(.ref a), (.ref el), (.ref bD), (.int (0 : Int32))] below meth c s₁ [] 0 0 := Stand.of_body Bd
  have e0 : s₁.heap = h0 := by rw [← hh, Bd.state]; rfl
  have N0 := Fr.nil n0
  have pre0 : ∀ t, Steps p.tables e below (s₁.setTop (mkF m 0 #[.val (.ref a), .val (.ref el), .val (.ref bD), .val (.int (0 : Int32))] [])) t → Steps p.tables e below (s₁.setTop (entryFrame m #[(.ref a), (.ref el), (.ref bD), (.int (0 : Int32))] 4)) t := fun t kk₀ => castTop (rm_a3g_ef m a el bD (0 : Int32)) kk₀
  obtain ⟨cl39, Ar39, q39, G39⟩ := id ((L_D.ext OL.2))
  obtain ⟨cq40, q40, q40'⟩ := E_a.cell
  obtain ⟨_, _, ⟨T40, L40, k40, n40⟩, -, X40, ⟨Lc40, hQ40, l40, y40, z40⟩, st40⟩ := X0.privateBack hx (y := (⟨"java/util/ArrayList", "grow", "()[Ljava/lang/Object;"⟩ : MethodName)) hown (mvT hZ (hw _ (List.mem_of_getElem? (i := 64) rfl))) (mvT hZ (hw _ (List.mem_of_getElem? (i := 65) rfl))) (mvT hZ (hw _ (List.mem_of_getElem? (i := 67) rfl))) (Cond.privateMethod_at (mvP hZ (hw _ (List.mem_of_getElem? (i := 66) rfl)) (args := #[]))) (mvT hZ (hw _ (List.mem_of_getElem? (i := 68) rfl))) (by decide) (backOf (W := 0) (rm_g0 l Z a0 hw [] a mo bD kD h0 n0 Z0 OL E_a F_mod F_size F_elem g_a S_D L_D ne_aD) hZ (hw _ (List.mem_of_getElem? (i := 68) rfl)) (hw _ (List.mem_of_getElem? (i := 6) rfl)) (by decide) (by decide)) (g := (mkF m 7 #[.val (.ref a), .val (.ref el), .val (.ref bD), .val (.int (0 : Int32))] [(.ref a)])) rfl (by rw [hml]; rfl) (Steps.refl _) (a := a) (by rw [e0]; exact q40) q40' (argsL := []) (rest := []) (lenOf own_pd3 rfl) rfl (by show 2 * 0 + _ ≤ _; exact Nat.le_of_eq rfl) (hb hby own_d_jdk_38_method_24_7) (fun _ _ => ⟨rfl, e0, (by decide : 0 + 1 ≤ _), (by decide : 0 + 10 ≤ _)⟩)
  dsimp only [Pt.U, Pt.locs, Pt.cells, Pt.slots] at X40 l40 y40 z40 st40 hQ40
  subst l40 y40 z40
  obtain ⟨d40, kd40, rfl, Nq40, K40, le40, c40_0, c40_1, c40_2, c40_3, c40_4, ov40⟩ := hQ40
  have N40 := Fr.app N0 Nq40
  have ne_a_d40 : a ≠ d40 := own_ne_le E_a.lt le40
  have ne_bD_d40 : bD ≠ d40 := own_ne_le (L_D.ext OL.2).lt le40
  have sz_d40 : h0.size ≤ d40 := Nat.le_trans (Nat.le_refl _) le40
  have gn_d40 : n0 ≤ d40 := Nat.le_trans Z0 sz_d40
  have f41 : OwnLst Z T40.heap bD (.object "java/lang/Object") kD [] := (L_D.ext OL.2).keep K40 (by simp [(Ne.symm ne_aD)])
  have OL40 := OL.keep K40 (fun x hx => by
    simp only [List.mem_cons, List.not_mem_nil, or_false] at hx
    rcases hx with rfl
    · exact g_a)
  have KP40 : Keep h0 T40.heap [a] := (Keep.refl _ _).trans K40 (fun x hx => by
    simp only [List.mem_cons, List.not_mem_nil, or_false] at hx
    rcases hx with rfl
    · exact Or.inl (by simp))
  obtain ⟨cl43, Ar43, q43, G43⟩ := id c40_4
  obtain ⟨T43, h43, X43, e43, W43, st43⟩ := stR X40 hx hZ rfl Ar43 (j := (0 : Int32)) (own_inb G43 10 rfl (by decide)) rfl (Sto.of Ar43 (by rw [q43]; exact ov40) (Ins.of_exa (E_el.ext OL40.2) (hw _ (List.mem_of_getElem? (i := 80) rfl)))) (g := (mkF m 14 #[.val (.ref a), .val (.ref el), .val (.ref d40), .val (.int (0 : Int32))] [(.ref el), (.int (0 : Int32)), (.ref d40)])) rfl rfl (hb hby own_d_jdk_38_method_24_14)
  have N43 := Fr.snoc X43 N40 gn_d40
  have v42 := own_lst_set Ar43 q43 G43 W43
  have f44 : OwnLst Z h43 bD (.object "java/lang/Object") kD [] := f41.other W43 ne_bD_d40
  have f45 : Exa Z h43 a "java/util/ArrayList" := c40_0.wr W43
  have f46 : Fld Z h43 a "java/util/AbstractList" "modCount" "I" (.int mo) := c40_1.other W43 (Or.inl ne_a_d40)
  have f47 : Fld Z h43 a "java/util/ArrayList" "size" "I" (.int (0 : Int32)) := c40_2.other W43 (Or.inl ne_a_d40)
  have f48 : Fld Z h43 a "java/util/ArrayList" "elementData" "[Ljava/lang/Object;" (.ref d40) := c40_3.other W43 (Or.inl ne_a_d40)
  have f49 : OwnLst Z h43 d40 (.object "java/lang/Object") kd40 [.ref el, .null, .null, .null, .null, .null, .null, .null, .null, .null] := v42
  have OL43 := OL40.wr W43 gn_d40
  have KP43 : Keep h0 h43 [a] := KP40.wr W43 (Or.inr sz_d40)
  obtain ⟨T50, h50, X50, e50, W50, st50⟩ := putF X43 hx hZ hown (host := "") (Or.inl (hw _ (List.mem_of_getElem? (i := 57) rfl))) Via.refl e43 f47 f45 (Or.inl (hw _ (List.mem_of_getElem? (i := 58) rfl))) (hw _ (List.mem_of_getElem? (i := 5) rfl)) (ty := .int) (by decide) rfl rfl (g := (mkF m 19 #[.val (.ref a), .val (.ref el), .val (.ref d40), .val (.int (0 : Int32))] [(.int ((0 : Int32) + (1 : Int32))), (.ref a)])) rfl rfl (hb hby own_d_jdk_38_method_24_19)
  have N50 := Fr.snoc X50 N43 g_a
  have f51 : OwnLst Z h50 bD (.object "java/lang/Object") kD [] := f44.other W50 (Ne.symm ne_aD)
  have f52 : Exa Z h50 a "java/util/ArrayList" := f45.wr W50
  have f53 : Fld Z h50 a "java/util/AbstractList" "modCount" "I" (.int mo) := f46.other W50 (Or.inr (slot_ne (Or.inl (hw _ (List.mem_of_getElem? (i := 26) rfl))) (Or.inl (hw _ (List.mem_of_getElem? (i := 58) rfl))) (by decide) (t := .int) (t' := .int) (by decide) (by decide)))
  have f54 : Fld Z h50 a "java/util/ArrayList" "size" "I" (.int ((0 : Int32) + (1 : Int32))) := f47.same W50
  have f55 : Fld Z h50 a "java/util/ArrayList" "elementData" "[Ljava/lang/Object;" (.ref d40) := f48.other W50 (Or.inr (slot_ne (Or.inl (hw _ (List.mem_of_getElem? (i := 29) rfl))) (Or.inl (hw _ (List.mem_of_getElem? (i := 58) rfl))) (by decide) (t := (.array (.object "java/lang/Object"))) (t' := .int) (by decide) (by decide)))
  have f56 : OwnLst Z h50 d40 (.object "java/lang/Object") kd40 [.ref el, .null, .null, .null, .null, .null, .null, .null, .null, .null] := f49.other W50 (Ne.symm ne_a_d40)
  have OL50 := OL43.wr W50 g_a
  have KP50 : Keep h0 h50 [a] := KP43.wr W50 (Or.inl (by simp))
  obtain ⟨fs, hr, hrun, hended, hW, hsame⟩ := X50.leave (v := none) (fun _ => rfl)
  refine ⟨_, _, pre0 _ ?_, hrun, hended, _, _, rfl, ?_, ⟨_, rfl⟩, hW, hsame.mono (by decide) (by decide)⟩
  · show Steps p.tables e below (s₁.setTop (mkF m 0 #[.val (.ref a), .val (.ref el), .val (.ref bD), .val (.int (0 : Int32))] [])) _
    refine XS.iloadN X0.here hx rfl (hb hby own_d_jdk_38_method_24_0) rfl ?_
    show Steps p.tables e below (s₁.setTop (mkF m 1 #[.val (.ref a), .val (.ref el), .val (.ref bD), .val (.int (0 : Int32))] [(.int (0 : Int32))])) _
    refine XS.aloadN X0.here hx rfl (hb hby own_d_jdk_38_method_24_1) rfl rfl ?_
    show Steps p.tables e below (s₁.setTop (mkF m 2 #[.val (.ref a), .val (.ref el), .val (.ref bD), .val (.int (0 : Int32))] [(.ref bD), (.int (0 : Int32))])) _
    refine X0.arraylength hx (cell := cl39) (by rw [e0]; exact Ar39.1) (State.isArrayOf_alike hZ.alike Ar39.2.1) (g := (mkF m 2 #[.val (.ref a), .val (.ref el), .val (.ref bD), .val (.int (0 : Int32))] [(.ref bD), (.int (0 : Int32))])) rfl (rest := [(.int (0 : Int32))]) rfl (hb hby own_d_jdk_38_method_24_2) _ ?_
    rw [own_len (z := (0 : Int32)) G39 rfl]
    show Steps p.tables e below (s₁.setTop (mkF m 3 #[.val (.ref a), .val (.ref el), .val (.ref bD), .val (.int (0 : Int32))] [(.int (0 : Int32)), (.int (0 : Int32))])) _
    refine XS.icmpNo X0.here hx rfl (hb hby own_d_jdk_38_method_24_3) rfl (teq (rfl : (0 : Int32) = (0 : Int32))).2 ?_
    show Steps p.tables e below (s₁.setTop (mkF m 6 #[.val (.ref a), .val (.ref el), .val (.ref bD), .val (.int (0 : Int32))] [])) _
    refine XS.aloadN X0.here hx rfl (hb hby own_d_jdk_38_method_24_6) rfl rfl ?_
    show Steps p.tables e below (s₁.setTop (mkF m 7 #[.val (.ref a), .val (.ref el), .val (.ref bD), .val (.int (0 : Int32))] [(.ref a)])) _
    refine st40.trans ?_
    show Steps p.tables e below (T40.setTop (mkF m 10 #[.val (.ref a), .val (.ref el), .val (.ref bD), .val (.int (0 : Int32))] [(.ref d40)])) _
    refine XS.astoreN X40.here hx rfl (hb hby own_d_jdk_38_method_24_10) rfl rfl (l' := #[.val (.ref a), .val (.ref el), .val (.ref d40), .val (.int (0 : Int32))]) rfl ?_
    show Steps p.tables e below (T40.setTop (mkF m 11 #[.val (.ref a), .val (.ref el), .val (.ref d40), .val (.int (0 : Int32))] [])) _
    refine XS.aloadN X40.here hx rfl (hb hby own_d_jdk_38_method_24_11) rfl rfl ?_
    show Steps p.tables e below (T40.setTop (mkF m 12 #[.val (.ref a), .val (.ref el), .val (.ref d40), .val (.int (0 : Int32))] [(.ref d40)])) _
    refine XS.iloadN X40.here hx rfl (hb hby own_d_jdk_38_method_24_12) rfl ?_
    show Steps p.tables e below (T40.setTop (mkF m 13 #[.val (.ref a), .val (.ref el), .val (.ref d40), .val (.int (0 : Int32))] [(.int (0 : Int32)), (.ref d40)])) _
    refine XS.aloadN X40.here hx rfl (hb hby own_d_jdk_38_method_24_13) rfl rfl ?_
    show Steps p.tables e below (T40.setTop (mkF m 14 #[.val (.ref a), .val (.ref el), .val (.ref d40), .val (.int (0 : Int32))] [(.ref el), (.int (0 : Int32)), (.ref d40)])) _
    refine st43 _ ?_
    show Steps p.tables e below (T43.setTop (mkF m 15 #[.val (.ref a), .val (.ref el), .val (.ref d40), .val (.int (0 : Int32))] [])) _
    refine XS.aloadN X43.here hx rfl (hb hby own_d_jdk_38_method_24_15) rfl rfl ?_
    show Steps p.tables e below (T43.setTop (mkF m 16 #[.val (.ref a), .val (.ref el), .val (.ref d40), .val (.int (0 : Int32))] [(.ref a)])) _
    refine XS.iloadN X43.here hx rfl (hb hby own_d_jdk_38_method_24_16) rfl ?_
    show Steps p.tables e below (T43.setTop (mkF m 17 #[.val (.ref a), .val (.ref el), .val (.ref d40), .val (.int (0 : Int32))] [(.int (0 : Int32)), (.ref a)])) _
    refine XS.iconst X43.here hx rfl (hb hby own_d_jdk_38_method_24_17) ?_
    show Steps p.tables e below (T43.setTop (mkF m 18 #[.val (.ref a), .val (.ref el), .val (.ref d40), .val (.int (0 : Int32))] [(.int (1 : Int32)), (.int (0 : Int32)), (.ref a)])) _
    refine XS.iadd X43.here hx rfl (hb hby own_d_jdk_38_method_24_18) rfl ?_
    show Steps p.tables e below (T43.setTop (mkF m 19 #[.val (.ref a), .val (.ref el), .val (.ref d40), .val (.int (0 : Int32))] [(.int ((0 : Int32) + (1 : Int32))), (.ref a)])) _
    refine st50 _ ?_
    show Steps p.tables e below (T50.setTop (mkF m 22 #[.val (.ref a), .val (.ref el), .val (.ref d40), .val (.int (0 : Int32))] [])) _
    exact X50.returnOut hx Bd.returns (hb hby own_d_jdk_38_method_24_22) hr
  · show rm_a3g_Q Z a el mo bD kD h0 n0 _ T50.heap _
    rw [e50]
    exact ⟨d40, kd40, rfl, N50, KP50, sz_d40, f52, f53, f54, f55, f56, ov40⟩
theorem rm_a1g_ef (m : MethodId) (x0 : Addr) (x1 : Addr) : entryFrame m #[(.ref x0), (.ref x1)] 2 = mkF m 0 #[.val (.ref x0), .val (.ref x1)] [] := by first | (simp [entryFrame, mkF, argsToLocals, Value.category]; done) | rfl
def rm_a1g_Q (Z : State) (a : Addr) (el : Addr) (bD : Addr) (kD : ClassId) (h0 : Heap) (n0 : Nat) (v : Option Value) (h : Heap) (L : List Loc) : Prop := ∃ (d : Addr) (k : ClassId), v = some (.int (1 : Int32)) ∧ Fr n0 L ∧ Keep h0 h [a] ∧ h0.size ≤ d ∧ Exa Z h a "java/util/ArrayList" ∧ Fld Z h a "java/util/AbstractList" "modCount" "I" (.int ((0 : Int32) + (1 : Int32))) ∧ Fld Z h a "java/util/ArrayList" "size" "I" (.int ((0 : Int32) + (1 : Int32))) ∧ Fld Z h a "java/util/ArrayList" "elementData" "[Ljava/lang/Object;" (.ref d) ∧ OwnLst Z h d (.object "java/lang/Object") k [.ref el, .null, .null, .null, .null, .null, .null, .null, .null, .null] ∧ Ovr Z k "java/lang/Object"
set_option maxRecDepth 65536 in
set_option maxHeartbeats 40000000 in
theorem rm_a1g (l : Launch) (Z : State) (a0 : Array Value) (hw : ∀ d ∈ tables_1, d.before a0 Z = true) (ws : List Jvm.Cond) (a : Addr) (el : Addr) (bD : Addr) (kD : ClassId) (h0 : Heap) (n0 : Nat) (Z0 : n0 ≤ h0.size) (OL : Old Z n0 h0) (E_a : Exa Z h0 a "java/util/ArrayList") (F_mod : Fld Z h0 a "java/util/AbstractList" "modCount" "I" (.int (0 : Int32))) (F_size : Fld Z h0 a "java/util/ArrayList" "size" "I" (.int (0 : Int32))) (F_elem : Fld Z h0 a "java/util/ArrayList" "elementData" "[Ljava/lang/Object;" (.ref bD)) (g_a : n0 ≤ a) (S_D : Sta Z Z.heap "java/util/ArrayList" "DEFAULTCAPACITY_EMPTY_ELEMENTDATA" "[Ljava/lang/Object;" (.ref bD)) (L_D : OwnLst Z Z.heap bD (.object "java/lang/Object") kD []) (E_el : Exa Z Z.heap el "com/example/bell_tower/belltower/model/DeviceType") (ne_aD : a ≠ bD) :
    MetFree l (⟨"java/util/ArrayList", "add", "(Ljava/lang/Object;)Z"⟩ : MethodName) (head1 (Jvm.Cond.code (⟨"java/util/ArrayList", "add", "(Ljava/lang/Object;)Z"⟩ : MethodName) jdk_38_method_25_code 2 (some .boolean) :: ws) ({ frames := 4, cells := 1, slots := 10, locals := 56 } : Room)) (fun a₀ U₀ => a₀ = #[(.ref a), (.ref el)] ∧ Z.Warmed39 U₀.vm ∧ U₀.heap = h0) (fun _ _ _ _ _ => True) (fun _ U₀ o₀ U₁ => ∃ v₀ L₀, o₀ = .returned v₀ ∧ rm_a1g_Q Z a el bD kD h0 n0 v₀ U₁.heap L₀ ∧ FrameEnd U₀ o₀ U₁ L₀ ({ frames := 4, cells := 1, slots := 10, locals := 56 } : Room).cells ({ frames := 4, cells := 1, slots := 10, locals := 56 } : Room).slots) := by
  refine MetFree.of_bodySF (plainFor_of_name own_pn2) hisR ?_
  intro p e s m args below meth c s₁ Bd hml0 hP hK
  obtain ⟨rfl, hZ, hh⟩ := hP
  have hx := Bd.exec
  have hby := Bd.bytes
  have hml : c.maxLocals = 2 := hml0
  have hown : s.vm.findClass "java/util/ArrayList" = some m.cls := findClass_of_methodNamed Bd.named
  have hnm := (name_of_methodNamed Bd.named Bd.method).1
  have X0 : Stand p l e ({ frames := 4, cells := 1, slots := 10, locals := 56 } : Room) s m #[(.ref a), (.ref el)] below meth c s₁ [] 0 0 := Stand.of_body Bd
  have e0 : s₁.heap = h0 := by rw [← hh, Bd.state]; rfl
  have N0 := Fr.nil n0
  have pre0 : ∀ t, Steps p.tables e below (s₁.setTop (mkF m 0 #[.val (.ref a), .val (.ref el)] [])) t → Steps p.tables e below (s₁.setTop (entryFrame m #[(.ref a), (.ref el)] 2)) t := fun t kk₀ => castTop (rm_a1g_ef m a el) kk₀
  obtain ⟨T57, X57, e57, st57⟩ := getF X0 hx hZ hown (host := "") (Or.inl (hw _ (List.mem_of_getElem? (i := 55) rfl))) (Via.of (hw _ (List.mem_of_getElem? (i := 56) rfl))) e0 F_mod (g := (mkF m 2 #[.val (.ref a), .val (.ref el)] [(.ref a), (.ref a)])) rfl rfl (hb hby own_d_jdk_38_method_25_2)
  obtain ⟨T58, h58, X58, e58, W58, st58⟩ := putF X57 hx hZ hown (host := "") (Or.inl (hw _ (List.mem_of_getElem? (i := 55) rfl))) (Via.of (hw _ (List.mem_of_getElem? (i := 56) rfl))) e57 F_mod E_a (Or.inl (hw _ (List.mem_of_getElem? (i := 26) rfl))) (hw _ (List.mem_of_getElem? (i := 5) rfl)) (ty := .int) (by decide) rfl rfl (g := (mkF m 7 #[.val (.ref a), .val (.ref el)] [(.int ((0 : Int32) + (1 : Int32))), (.ref a)])) rfl rfl (hb hby own_d_jdk_38_method_25_7)
  have N58 := Fr.snoc X58 N0 g_a
  have f59 : Exa Z h58 a "java/util/ArrayList" := E_a.wr W58
  have f60 : Fld Z h58 a "java/util/AbstractList" "modCount" "I" (.int ((0 : Int32) + (1 : Int32))) := F_mod.same W58
  have f61 : Fld Z h58 a "java/util/ArrayList" "size" "I" (.int (0 : Int32)) := F_size.other W58 (Or.inr (slot_ne (Or.inl (hw _ (List.mem_of_getElem? (i := 58) rfl))) (Or.inl (hw _ (List.mem_of_getElem? (i := 26) rfl))) (by decide) (t := .int) (t' := .int) (by decide) (by decide)))
  have f62 : Fld Z h58 a "java/util/ArrayList" "elementData" "[Ljava/lang/Object;" (.ref bD) := F_elem.other W58 (Or.inr (slot_ne (Or.inl (hw _ (List.mem_of_getElem? (i := 29) rfl))) (Or.inl (hw _ (List.mem_of_getElem? (i := 26) rfl))) (by decide) (t := (.array (.object "java/lang/Object"))) (t' := .int) (by decide) (by decide)))
  have OL58 := OL.wr W58 g_a
  have KP58 : Keep h0 h58 [a] := (Keep.refl _ _).wr W58 (Or.inl (by simp))
  obtain ⟨T63, X63, e63, st63⟩ := getF X58 hx hZ hown (host := "") (Or.inl (hw _ (List.mem_of_getElem? (i := 28) rfl))) Via.refl e58 f62 (g := (mkF m 13 #[.val (.ref a), .val (.ref el)] [(.ref a), (.ref el), (.ref a)])) rfl rfl (hb hby own_d_jdk_38_method_25_13)
  obtain ⟨T64, X64, e64, st64⟩ := getF X63 hx hZ hown (host := "") (Or.inl (hw _ (List.mem_of_getElem? (i := 57) rfl))) Via.refl e63 f61 (g := (mkF m 17 #[.val (.ref a), .val (.ref el)] [(.ref a), (.ref bD), (.ref el), (.ref a)])) rfl rfl (hb hby own_d_jdk_38_method_25_17)
  obtain ⟨cq65, q65, q65'⟩ := f59.cell
  obtain ⟨_, _, ⟨T65, L65, k65, n65⟩, -, X65, ⟨Lc65, hQ65, l65, y65, z65⟩, st65⟩ := X64.privateBack hx (y := (⟨"java/util/ArrayList", "add", "(Ljava/lang/Object;[Ljava/lang/Object;I)V"⟩ : MethodName)) hown (mvT hZ (hw _ (List.mem_of_getElem? (i := 59) rfl))) (mvT hZ (hw _ (List.mem_of_getElem? (i := 60) rfl))) (mvT hZ (hw _ (List.mem_of_getElem? (i := 62) rfl))) (Cond.privateMethod_at (mvP hZ (hw _ (List.mem_of_getElem? (i := 61) rfl)) (args := #[]))) (mvT hZ (hw _ (List.mem_of_getElem? (i := 63) rfl))) (by decide) (backOf (W := 0) (rm_a3g l Z a0 hw [] a el ((0 : Int32) + (1 : Int32)) bD kD h58 n0 (Nat.le_trans Z0 KP58.1) OL58 f59 f60 f61 f62 g_a S_D L_D E_el ne_aD) hZ (hw _ (List.mem_of_getElem? (i := 63) rfl)) (hw _ (List.mem_of_getElem? (i := 6) rfl)) (by decide) (by decide)) (g := (mkF m 20 #[.val (.ref a), .val (.ref el)] [(.int (0 : Int32)), (.ref bD), (.ref el), (.ref a)])) rfl (by rw [hml]; rfl) (Steps.refl _) (a := a) (by rw [e64]; exact q65) q65' (argsL := [(.ref el), (.ref bD), (.int (0 : Int32))]) (rest := []) (lenOf own_pd4 rfl) rfl (by show 2 * 0 + _ ≤ _; exact Nat.le_of_eq rfl) (hb hby own_d_jdk_38_method_25_20) (fun _ _ => ⟨rfl, e64, (by decide : 0 + 1 ≤ _), (by decide : 0 + 10 ≤ _)⟩)
  dsimp only [Pt.U, Pt.locs, Pt.cells, Pt.slots] at X65 l65 y65 z65 st65 hQ65
  subst l65 y65 z65
  obtain ⟨d65, kd65, rfl, Nq65, K65, le65, c65_0, c65_1, c65_2, c65_3, c65_4, ov65⟩ := hQ65
  have N65 := Fr.app N58 Nq65
  have ne_a_d65 : a ≠ d65 := own_ne_le f59.lt le65
  have sz_d65 : h0.size ≤ d65 := Nat.le_trans KP58.1 le65
  have gn_d65 : n0 ≤ d65 := Nat.le_trans Z0 sz_d65
  have OL65 := OL58.keep K65 (fun x hx => by
    simp only [List.mem_cons, List.not_mem_nil, or_false] at hx
    rcases hx with rfl
    · exact g_a)
  have KP65 : Keep h0 T65.heap [a] := KP58.trans K65 (fun x hx => by
    simp only [List.mem_cons, List.not_mem_nil, or_false] at hx
    rcases hx with rfl
    · exact Or.inl (by simp))
  obtain ⟨fs, hr, hrun, hended, hW, hsame⟩ := X65.leave (v := some (.int (1 : Int32))) (fun h => by rw [Bd.returns] at h; cases h)
  refine ⟨_, _, pre0 _ ?_, hrun, hended, _, _, rfl, ?_, ⟨_, rfl⟩, hW, hsame.mono (by decide) (by decide)⟩
  · show Steps p.tables e below (s₁.setTop (mkF m 0 #[.val (.ref a), .val (.ref el)] [])) _
    refine XS.aloadN X0.here hx rfl (hb hby own_d_jdk_38_method_25_0) rfl rfl ?_
    show Steps p.tables e below (s₁.setTop (mkF m 1 #[.val (.ref a), .val (.ref el)] [(.ref a)])) _
    refine XS.dup X0.here hx rfl (hb hby own_d_jdk_38_method_25_1) rfl rfl ?_
    show Steps p.tables e below (s₁.setTop (mkF m 2 #[.val (.ref a), .val (.ref el)] [(.ref a), (.ref a)])) _
    refine st57 _ ?_
    show Steps p.tables e below (T57.setTop (mkF m 5 #[.val (.ref a), .val (.ref el)] [(.int (0 : Int32)), (.ref a)])) _
    refine XS.iconst X57.here hx rfl (hb hby own_d_jdk_38_method_25_5) ?_
    show Steps p.tables e below (T57.setTop (mkF m 6 #[.val (.ref a), .val (.ref el)] [(.int (1 : Int32)), (.int (0 : Int32)), (.ref a)])) _
    refine XS.iadd X57.here hx rfl (hb hby own_d_jdk_38_method_25_6) rfl ?_
    show Steps p.tables e below (T57.setTop (mkF m 7 #[.val (.ref a), .val (.ref el)] [(.int ((0 : Int32) + (1 : Int32))), (.ref a)])) _
    refine st58 _ ?_
    show Steps p.tables e below (T58.setTop (mkF m 10 #[.val (.ref a), .val (.ref el)] [])) _
    refine XS.aloadN X58.here hx rfl (hb hby own_d_jdk_38_method_25_10) rfl rfl ?_
    show Steps p.tables e below (T58.setTop (mkF m 11 #[.val (.ref a), .val (.ref el)] [(.ref a)])) _
    refine XS.aloadN X58.here hx rfl (hb hby own_d_jdk_38_method_25_11) rfl rfl ?_
    show Steps p.tables e below (T58.setTop (mkF m 12 #[.val (.ref a), .val (.ref el)] [(.ref el), (.ref a)])) _
    refine XS.aloadN X58.here hx rfl (hb hby own_d_jdk_38_method_25_12) rfl rfl ?_
    show Steps p.tables e below (T58.setTop (mkF m 13 #[.val (.ref a), .val (.ref el)] [(.ref a), (.ref el), (.ref a)])) _
    refine st63 _ ?_
    show Steps p.tables e below (T63.setTop (mkF m 16 #[.val (.ref a), .val (.ref el)] [(.ref bD), (.ref el), (.ref a)])) _
    refine XS.aloadN X63.here hx rfl (hb hby own_d_jdk_38_method_25_16) rfl rfl ?_
    show Steps p.tables e below (T63.setTop (mkF m 17 #[.val (.ref a), .val (.ref el)] [(.ref a), (.ref bD), (.ref el), (.ref a)])) _
    refine st64 _ ?_
    show Steps p.tables e below (T64.setTop (mkF m 20 #[.val (.ref a), .val (.ref el)] [(.int (0 : Int32)), (.ref bD), (.ref el), (.ref a)])) _
    refine st65.trans ?_
    show Steps p.tables e below (T65.setTop (mkF m 23 #[.val (.ref a), .val (.ref el)] [])) _
    refine XS.iconst X65.here hx rfl (hb hby own_d_jdk_38_method_25_23) ?_
    show Steps p.tables e below (T65.setTop (mkF m 24 #[.val (.ref a), .val (.ref el)] [(.int (1 : Int32))])) _
    exact own_retZ X65 hx rfl Bd.returns (hb hby own_d_jdk_38_method_25_24) hr
  · show rm_a1g_Q Z a el bD kD h0 n0 _ T65.heap _
    exact ⟨d65, kd65, rfl, N65, KP65, sz_d65, c65_0, c65_1, c65_2, c65_3, c65_4, ov65⟩
theorem rm_a3_ef (m : MethodId) (x0 : Addr) (x1 : Addr) (x2 : Addr) (x3 : Int32) : entryFrame m #[(.ref x0), (.ref x1), (.ref x2), (.int x3)] 4 = mkF m 0 #[.val (.ref x0), .val (.ref x1), .val (.ref x2), .val (.int x3)] [] := by first | (simp [entryFrame, mkF, argsToLocals, Value.category]; done) | rfl
def rm_a3_Q (Z : State) (a : Addr) (el : Addr) (d : Addr) (kd : ClassId) (sz : Int32) (mo : Int32) (xs : List Value) (h0 : Heap) (n0 : Nat) (v : Option Value) (h : Heap) (L : List Loc) : Prop := v = none ∧ Fr n0 L ∧ Keep h0 h [a, d] ∧ Exa Z h a "java/util/ArrayList" ∧ Fld Z h a "java/util/AbstractList" "modCount" "I" (.int mo) ∧ Fld Z h a "java/util/ArrayList" "size" "I" (.int (sz + (1 : Int32))) ∧ Fld Z h a "java/util/ArrayList" "elementData" "[Ljava/lang/Object;" (.ref d) ∧ OwnLst Z h d (.object "java/lang/Object") kd (xs.set sz.toNatClampNeg (.ref el))
set_option maxRecDepth 65536 in
set_option maxHeartbeats 40000000 in
theorem rm_a3 (l : Launch) (Z : State) (a0 : Array Value) (hw : ∀ d ∈ tables_1, d.before a0 Z = true) (ws : List Jvm.Cond) (a : Addr) (el : Addr) (d : Addr) (kd : ClassId) (sz : Int32) (mo : Int32) (xs : List Value) (h0 : Heap) (n0 : Nat) (Z0 : n0 ≤ h0.size) (OL : Old Z n0 h0) (E_a : Exa Z h0 a "java/util/ArrayList") (F_mod : Fld Z h0 a "java/util/AbstractList" "modCount" "I" (.int mo)) (F_size : Fld Z h0 a "java/util/ArrayList" "size" "I" (.int sz)) (F_elem : Fld Z h0 a "java/util/ArrayList" "elementData" "[Ljava/lang/Object;" (.ref d)) (g_a : n0 ≤ a) (L_d : OwnLst Z h0 d (.object "java/lang/Object") kd xs) (ov : Ovr Z kd "java/lang/Object") (g_d : n0 ≤ d) (ne_ad : a ≠ d) (hlen : xs.length = 10) (hin : ¬ (sz < 0 ∨ 10 ≤ sz.toNatClampNeg)) (hne : ¬ (sz = (10 : Int32))) (E_el : Exa Z Z.heap el "com/example/bell_tower/belltower/model/DeviceType") :
    MetFree l (⟨"java/util/ArrayList", "add", "(Ljava/lang/Object;[Ljava/lang/Object;I)V"⟩ : MethodName) (head1 (Jvm.Cond.code (⟨"java/util/ArrayList", "add", "(Ljava/lang/Object;[Ljava/lang/Object;I)V"⟩ : MethodName) jdk_38_method_24_code 4 none :: ws) ({ frames := 0, cells := 0, slots := 0, locals := 0 } : Room)) (fun a₀ U₀ => a₀ = #[(.ref a), (.ref el), (.ref d), (.int sz)] ∧ Z.Warmed39 U₀.vm ∧ U₀.heap = h0) (fun _ _ _ _ _ => True) (fun _ U₀ o₀ U₁ => ∃ v₀ L₀, o₀ = .returned v₀ ∧ rm_a3_Q Z a el d kd sz mo xs h0 n0 v₀ U₁.heap L₀ ∧ FrameEnd U₀ o₀ U₁ L₀ ({ frames := 0, cells := 0, slots := 0, locals := 0 } : Room).cells ({ frames := 0, cells := 0, slots := 0, locals := 0 } : Room).slots) := by
  refine MetFree.of_bodySF (plainFor_of_name own_pn2) hisR ?_
  intro p e s m args below meth c s₁ Bd hml0 hP hK
  obtain ⟨rfl, hZ, hh⟩ := hP
  have hx := Bd.exec
  have hby := Bd.bytes
  have hml : c.maxLocals = 4 := hml0
  have hown : s.vm.findClass "java/util/ArrayList" = some m.cls := findClass_of_methodNamed Bd.named
  have hnm := (name_of_methodNamed Bd.named Bd.method).1
  have X0 : Stand p l e ({ frames := 0, cells := 0, slots := 0, locals := 0 } : Room) s m #[(.ref a), (.ref el), (.ref d), (.int sz)] below meth c s₁ [] 0 0 := Stand.of_body Bd
  have e0 : s₁.heap = h0 := by rw [← hh, Bd.state]; rfl
  have N0 := Fr.nil n0
  have pre0 : ∀ t, Steps p.tables e below (s₁.setTop (mkF m 0 #[.val (.ref a), .val (.ref el), .val (.ref d), .val (.int sz)] [])) t → Steps p.tables e below (s₁.setTop (entryFrame m #[(.ref a), (.ref el), (.ref d), (.int sz)] 4)) t := fun t kk₀ => castTop (rm_a3_ef m a el d sz) kk₀
  obtain ⟨cl66, Ar66, q66, G66⟩ := id L_d
  obtain ⟨cl68, Ar68, q68, G68⟩ := id L_d
  obtain ⟨T68, h68, X68, e68, W68, st68⟩ := stR X0 hx hZ e0 Ar68 (j := sz) (own_inb G68 10 hlen hin) rfl (Sto.of Ar68 (by rw [q68]; exact ov) (Ins.of_exa (E_el.ext OL.2) (hw _ (List.mem_of_getElem? (i := 80) rfl)))) (g := (mkF m 14 #[.val (.ref a), .val (.ref el), .val (.ref d), .val (.int sz)] [(.ref el), (.int sz), (.ref d)])) rfl rfl (hb hby own_d_jdk_38_method_24_14)
  have N68 := Fr.snoc X68 N0 g_d
  have v67 := own_lst_set Ar68 q68 G68 W68
  have f69 : Exa Z h68 a "java/util/ArrayList" := E_a.wr W68
  have f70 : Fld Z h68 a "java/util/AbstractList" "modCount" "I" (.int mo) := F_mod.other W68 (Or.inl ne_ad)
  have f71 : Fld Z h68 a "java/util/ArrayList" "size" "I" (.int sz) := F_size.other W68 (Or.inl ne_ad)
  have f72 : Fld Z h68 a "java/util/ArrayList" "elementData" "[Ljava/lang/Object;" (.ref d) := F_elem.other W68 (Or.inl ne_ad)
  have f73 : OwnLst Z h68 d (.object "java/lang/Object") kd (xs.set sz.toNatClampNeg (.ref el)) := v67
  have OL68 := OL.wr W68 g_d
  have KP68 : Keep h0 h68 [a, d] := (Keep.refl _ _).wr W68 (Or.inl (by simp))
  obtain ⟨T74, h74, X74, e74, W74, st74⟩ := putF X68 hx hZ hown (host := "") (Or.inl (hw _ (List.mem_of_getElem? (i := 57) rfl))) Via.refl e68 f71 f69 (Or.inl (hw _ (List.mem_of_getElem? (i := 58) rfl))) (hw _ (List.mem_of_getElem? (i := 5) rfl)) (ty := .int) (by decide) rfl rfl (g := (mkF m 19 #[.val (.ref a), .val (.ref el), .val (.ref d), .val (.int sz)] [(.int (sz + (1 : Int32))), (.ref a)])) rfl rfl (hb hby own_d_jdk_38_method_24_19)
  have N74 := Fr.snoc X74 N68 g_a
  have f75 : Exa Z h74 a "java/util/ArrayList" := f69.wr W74
  have f76 : Fld Z h74 a "java/util/AbstractList" "modCount" "I" (.int mo) := f70.other W74 (Or.inr (slot_ne (Or.inl (hw _ (List.mem_of_getElem? (i := 26) rfl))) (Or.inl (hw _ (List.mem_of_getElem? (i := 58) rfl))) (by decide) (t := .int) (t' := .int) (by decide) (by decide)))
  have f77 : Fld Z h74 a "java/util/ArrayList" "size" "I" (.int (sz + (1 : Int32))) := f71.same W74
  have f78 : Fld Z h74 a "java/util/ArrayList" "elementData" "[Ljava/lang/Object;" (.ref d) := f72.other W74 (Or.inr (slot_ne (Or.inl (hw _ (List.mem_of_getElem? (i := 29) rfl))) (Or.inl (hw _ (List.mem_of_getElem? (i := 58) rfl))) (by decide) (t := (.array (.object "java/lang/Object"))) (t' := .int) (by decide) (by decide)))
  have f79 : OwnLst Z h74 d (.object "java/lang/Object") kd (xs.set sz.toNatClampNeg (.ref el)) := f73.other W74 (Ne.symm ne_ad)
  have OL74 := OL68.wr W74 g_a
  have KP74 : Keep h0 h74 [a, d] := KP68.wr W74 (Or.inl (by simp))
  obtain ⟨fs, hr, hrun, hended, hW, hsame⟩ := X74.leave (v := none) (fun _ => rfl)
  refine ⟨_, _, pre0 _ ?_, hrun, hended, _, _, rfl, ?_, ⟨_, rfl⟩, hW, hsame.mono (by decide) (by decide)⟩
  · show Steps p.tables e below (s₁.setTop (mkF m 0 #[.val (.ref a), .val (.ref el), .val (.ref d), .val (.int sz)] [])) _
    refine XS.iloadN X0.here hx rfl (hb hby own_d_jdk_38_method_24_0) rfl ?_
    show Steps p.tables e below (s₁.setTop (mkF m 1 #[.val (.ref a), .val (.ref el), .val (.ref d), .val (.int sz)] [(.int sz)])) _
    refine XS.aloadN X0.here hx rfl (hb hby own_d_jdk_38_method_24_1) rfl rfl ?_
    show Steps p.tables e below (s₁.setTop (mkF m 2 #[.val (.ref a), .val (.ref el), .val (.ref d), .val (.int sz)] [(.ref d), (.int sz)])) _
    refine X0.arraylength hx (cell := cl66) (by rw [e0]; exact Ar66.1) (State.isArrayOf_alike hZ.alike Ar66.2.1) (g := (mkF m 2 #[.val (.ref a), .val (.ref el), .val (.ref d), .val (.int sz)] [(.ref d), (.int sz)])) rfl (rest := [(.int sz)]) rfl (hb hby own_d_jdk_38_method_24_2) _ ?_
    rw [own_len (z := (10 : Int32)) G66 (by rw [hlen]; rfl)]
    show Steps p.tables e below (s₁.setTop (mkF m 3 #[.val (.ref a), .val (.ref el), .val (.ref d), .val (.int sz)] [(.int (10 : Int32)), (.int sz)])) _
    refine XS.icmpYes X0.here hx rfl (pc0 := 3) (pc' := 11) rfl (hb hby own_d_jdk_38_method_24_3) rfl (feq hne).2 (by decide) (by decide) ?_
    show Steps p.tables e below (s₁.setTop (mkF m 11 #[.val (.ref a), .val (.ref el), .val (.ref d), .val (.int sz)] [])) _
    refine XS.aloadN X0.here hx rfl (hb hby own_d_jdk_38_method_24_11) rfl rfl ?_
    show Steps p.tables e below (s₁.setTop (mkF m 12 #[.val (.ref a), .val (.ref el), .val (.ref d), .val (.int sz)] [(.ref d)])) _
    refine XS.iloadN X0.here hx rfl (hb hby own_d_jdk_38_method_24_12) rfl ?_
    show Steps p.tables e below (s₁.setTop (mkF m 13 #[.val (.ref a), .val (.ref el), .val (.ref d), .val (.int sz)] [(.int sz), (.ref d)])) _
    refine XS.aloadN X0.here hx rfl (hb hby own_d_jdk_38_method_24_13) rfl rfl ?_
    show Steps p.tables e below (s₁.setTop (mkF m 14 #[.val (.ref a), .val (.ref el), .val (.ref d), .val (.int sz)] [(.ref el), (.int sz), (.ref d)])) _
    refine st68 _ ?_
    show Steps p.tables e below (T68.setTop (mkF m 15 #[.val (.ref a), .val (.ref el), .val (.ref d), .val (.int sz)] [])) _
    refine XS.aloadN X68.here hx rfl (hb hby own_d_jdk_38_method_24_15) rfl rfl ?_
    show Steps p.tables e below (T68.setTop (mkF m 16 #[.val (.ref a), .val (.ref el), .val (.ref d), .val (.int sz)] [(.ref a)])) _
    refine XS.iloadN X68.here hx rfl (hb hby own_d_jdk_38_method_24_16) rfl ?_
    show Steps p.tables e below (T68.setTop (mkF m 17 #[.val (.ref a), .val (.ref el), .val (.ref d), .val (.int sz)] [(.int sz), (.ref a)])) _
    refine XS.iconst X68.here hx rfl (hb hby own_d_jdk_38_method_24_17) ?_
    show Steps p.tables e below (T68.setTop (mkF m 18 #[.val (.ref a), .val (.ref el), .val (.ref d), .val (.int sz)] [(.int (1 : Int32)), (.int sz), (.ref a)])) _
    refine XS.iadd X68.here hx rfl (hb hby own_d_jdk_38_method_24_18) rfl ?_
    show Steps p.tables e below (T68.setTop (mkF m 19 #[.val (.ref a), .val (.ref el), .val (.ref d), .val (.int sz)] [(.int (sz + (1 : Int32))), (.ref a)])) _
    refine st74 _ ?_
    show Steps p.tables e below (T74.setTop (mkF m 22 #[.val (.ref a), .val (.ref el), .val (.ref d), .val (.int sz)] [])) _
    exact X74.returnOut hx Bd.returns (hb hby own_d_jdk_38_method_24_22) hr
  · show rm_a3_Q Z a el d kd sz mo xs h0 n0 _ T74.heap _
    rw [e74]
    exact ⟨rfl, N74, KP74, f75, f76, f77, f78, f79⟩
theorem rm_a1_ef (m : MethodId) (x0 : Addr) (x1 : Addr) : entryFrame m #[(.ref x0), (.ref x1)] 2 = mkF m 0 #[.val (.ref x0), .val (.ref x1)] [] := by first | (simp [entryFrame, mkF, argsToLocals, Value.category]; done) | rfl
def rm_a1_Q (Z : State) (a : Addr) (el : Addr) (d : Addr) (kd : ClassId) (sz : Int32) (mo : Int32) (xs : List Value) (h0 : Heap) (n0 : Nat) (v : Option Value) (h : Heap) (L : List Loc) : Prop := v = some (.int (1 : Int32)) ∧ Fr n0 L ∧ Keep h0 h [a, d] ∧ Exa Z h a "java/util/ArrayList" ∧ Fld Z h a "java/util/AbstractList" "modCount" "I" (.int (mo + (1 : Int32))) ∧ Fld Z h a "java/util/ArrayList" "size" "I" (.int (sz + (1 : Int32))) ∧ Fld Z h a "java/util/ArrayList" "elementData" "[Ljava/lang/Object;" (.ref d) ∧ OwnLst Z h d (.object "java/lang/Object") kd (xs.set sz.toNatClampNeg (.ref el))
set_option maxRecDepth 65536 in
set_option maxHeartbeats 40000000 in
theorem rm_a1 (l : Launch) (Z : State) (a0 : Array Value) (hw : ∀ d ∈ tables_1, d.before a0 Z = true) (ws : List Jvm.Cond) (a : Addr) (el : Addr) (d : Addr) (kd : ClassId) (sz : Int32) (mo : Int32) (xs : List Value) (h0 : Heap) (n0 : Nat) (Z0 : n0 ≤ h0.size) (OL : Old Z n0 h0) (E_a : Exa Z h0 a "java/util/ArrayList") (F_mod : Fld Z h0 a "java/util/AbstractList" "modCount" "I" (.int mo)) (F_size : Fld Z h0 a "java/util/ArrayList" "size" "I" (.int sz)) (F_elem : Fld Z h0 a "java/util/ArrayList" "elementData" "[Ljava/lang/Object;" (.ref d)) (g_a : n0 ≤ a) (L_d : OwnLst Z h0 d (.object "java/lang/Object") kd xs) (ov : Ovr Z kd "java/lang/Object") (g_d : n0 ≤ d) (ne_ad : a ≠ d) (hlen : xs.length = 10) (hin : ¬ (sz < 0 ∨ 10 ≤ sz.toNatClampNeg)) (hne : ¬ (sz = (10 : Int32))) (E_el : Exa Z Z.heap el "com/example/bell_tower/belltower/model/DeviceType") :
    MetFree l (⟨"java/util/ArrayList", "add", "(Ljava/lang/Object;)Z"⟩ : MethodName) (head1 (Jvm.Cond.code (⟨"java/util/ArrayList", "add", "(Ljava/lang/Object;)Z"⟩ : MethodName) jdk_38_method_25_code 2 (some .boolean) :: ws) ({ frames := 1, cells := 0, slots := 0, locals := 15 } : Room)) (fun a₀ U₀ => a₀ = #[(.ref a), (.ref el)] ∧ Z.Warmed39 U₀.vm ∧ U₀.heap = h0) (fun _ _ _ _ _ => True) (fun _ U₀ o₀ U₁ => ∃ v₀ L₀, o₀ = .returned v₀ ∧ rm_a1_Q Z a el d kd sz mo xs h0 n0 v₀ U₁.heap L₀ ∧ FrameEnd U₀ o₀ U₁ L₀ ({ frames := 1, cells := 0, slots := 0, locals := 15 } : Room).cells ({ frames := 1, cells := 0, slots := 0, locals := 15 } : Room).slots) := by
  refine MetFree.of_bodySF (plainFor_of_name own_pn2) hisR ?_
  intro p e s m args below meth c s₁ Bd hml0 hP hK
  obtain ⟨rfl, hZ, hh⟩ := hP
  have hx := Bd.exec
  have hby := Bd.bytes
  have hml : c.maxLocals = 2 := hml0
  have hown : s.vm.findClass "java/util/ArrayList" = some m.cls := findClass_of_methodNamed Bd.named
  have hnm := (name_of_methodNamed Bd.named Bd.method).1
  have X0 : Stand p l e ({ frames := 1, cells := 0, slots := 0, locals := 15 } : Room) s m #[(.ref a), (.ref el)] below meth c s₁ [] 0 0 := Stand.of_body Bd
  have e0 : s₁.heap = h0 := by rw [← hh, Bd.state]; rfl
  have N0 := Fr.nil n0
  have pre0 : ∀ t, Steps p.tables e below (s₁.setTop (mkF m 0 #[.val (.ref a), .val (.ref el)] [])) t → Steps p.tables e below (s₁.setTop (entryFrame m #[(.ref a), (.ref el)] 2)) t := fun t kk₀ => castTop (rm_a1_ef m a el) kk₀
  obtain ⟨T80, X80, e80, st80⟩ := getF X0 hx hZ hown (host := "") (Or.inl (hw _ (List.mem_of_getElem? (i := 55) rfl))) (Via.of (hw _ (List.mem_of_getElem? (i := 56) rfl))) e0 F_mod (g := (mkF m 2 #[.val (.ref a), .val (.ref el)] [(.ref a), (.ref a)])) rfl rfl (hb hby own_d_jdk_38_method_25_2)
  obtain ⟨T81, h81, X81, e81, W81, st81⟩ := putF X80 hx hZ hown (host := "") (Or.inl (hw _ (List.mem_of_getElem? (i := 55) rfl))) (Via.of (hw _ (List.mem_of_getElem? (i := 56) rfl))) e80 F_mod E_a (Or.inl (hw _ (List.mem_of_getElem? (i := 26) rfl))) (hw _ (List.mem_of_getElem? (i := 5) rfl)) (ty := .int) (by decide) rfl rfl (g := (mkF m 7 #[.val (.ref a), .val (.ref el)] [(.int (mo + (1 : Int32))), (.ref a)])) rfl rfl (hb hby own_d_jdk_38_method_25_7)
  have N81 := Fr.snoc X81 N0 g_a
  have f82 : Exa Z h81 a "java/util/ArrayList" := E_a.wr W81
  have f83 : Fld Z h81 a "java/util/AbstractList" "modCount" "I" (.int (mo + (1 : Int32))) := F_mod.same W81
  have f84 : Fld Z h81 a "java/util/ArrayList" "size" "I" (.int sz) := F_size.other W81 (Or.inr (slot_ne (Or.inl (hw _ (List.mem_of_getElem? (i := 58) rfl))) (Or.inl (hw _ (List.mem_of_getElem? (i := 26) rfl))) (by decide) (t := .int) (t' := .int) (by decide) (by decide)))
  have f85 : Fld Z h81 a "java/util/ArrayList" "elementData" "[Ljava/lang/Object;" (.ref d) := F_elem.other W81 (Or.inr (slot_ne (Or.inl (hw _ (List.mem_of_getElem? (i := 29) rfl))) (Or.inl (hw _ (List.mem_of_getElem? (i := 26) rfl))) (by decide) (t := (.array (.object "java/lang/Object"))) (t' := .int) (by decide) (by decide)))
  have f86 : OwnLst Z h81 d (.object "java/lang/Object") kd xs := L_d.other W81 (Ne.symm ne_ad)
  have OL81 := OL.wr W81 g_a
  have KP81 : Keep h0 h81 [a, d] := (Keep.refl _ _).wr W81 (Or.inl (by simp))
  obtain ⟨T87, X87, e87, st87⟩ := getF X81 hx hZ hown (host := "") (Or.inl (hw _ (List.mem_of_getElem? (i := 28) rfl))) Via.refl e81 f85 (g := (mkF m 13 #[.val (.ref a), .val (.ref el)] [(.ref a), (.ref el), (.ref a)])) rfl rfl (hb hby own_d_jdk_38_method_25_13)
  obtain ⟨T88, X88, e88, st88⟩ := getF X87 hx hZ hown (host := "") (Or.inl (hw _ (List.mem_of_getElem? (i := 57) rfl))) Via.refl e87 f84 (g := (mkF m 17 #[.val (.ref a), .val (.ref el)] [(.ref a), (.ref d), (.ref el), (.ref a)])) rfl rfl (hb hby own_d_jdk_38_method_25_17)
  obtain ⟨cq89, q89, q89'⟩ := f82.cell
  obtain ⟨_, _, ⟨T89, L89, k89, n89⟩, -, X89, ⟨Lc89, hQ89, l89, y89, z89⟩, st89⟩ := X88.privateBack hx (y := (⟨"java/util/ArrayList", "add", "(Ljava/lang/Object;[Ljava/lang/Object;I)V"⟩ : MethodName)) hown (mvT hZ (hw _ (List.mem_of_getElem? (i := 59) rfl))) (mvT hZ (hw _ (List.mem_of_getElem? (i := 60) rfl))) (mvT hZ (hw _ (List.mem_of_getElem? (i := 62) rfl))) (Cond.privateMethod_at (mvP hZ (hw _ (List.mem_of_getElem? (i := 61) rfl)) (args := #[]))) (mvT hZ (hw _ (List.mem_of_getElem? (i := 63) rfl))) (by decide) (backOf (W := 0) (rm_a3 l Z a0 hw [] a el d kd sz (mo + (1 : Int32)) xs h81 n0 (Nat.le_trans Z0 KP81.1) OL81 f82 f83 f84 f85 g_a f86 ov g_d ne_ad hlen hin hne E_el) hZ (hw _ (List.mem_of_getElem? (i := 63) rfl)) (hw _ (List.mem_of_getElem? (i := 6) rfl)) (by decide) (by decide)) (g := (mkF m 20 #[.val (.ref a), .val (.ref el)] [(.int sz), (.ref d), (.ref el), (.ref a)])) rfl (by rw [hml]; rfl) (Steps.refl _) (a := a) (by rw [e88]; exact q89) q89' (argsL := [(.ref el), (.ref d), (.int sz)]) (rest := []) (lenOf own_pd4 rfl) rfl (by show 2 * 0 + _ ≤ _; exact Nat.le_of_eq rfl) (hb hby own_d_jdk_38_method_25_20) (fun _ _ => ⟨rfl, e88, (by decide : 0 + 0 ≤ _), (by decide : 0 + 0 ≤ _)⟩)
  dsimp only [Pt.U, Pt.locs, Pt.cells, Pt.slots] at X89 l89 y89 z89 st89 hQ89
  subst l89 y89 z89
  obtain ⟨rfl, Nq89, K89, c89_0, c89_1, c89_2, c89_3, c89_4⟩ := hQ89
  have N89 := Fr.app N81 Nq89
  have OL89 := OL81.keep K89 (fun x hx => by
    simp only [List.mem_cons, List.not_mem_nil, or_false] at hx
    rcases hx with rfl | rfl
    · exact g_a
    · exact g_d)
  have KP89 : Keep h0 T89.heap [a, d] := KP81.trans K89 (fun x hx => by
    simp only [List.mem_cons, List.not_mem_nil, or_false] at hx
    rcases hx with rfl | rfl
    · exact Or.inl (by simp)
    · exact Or.inl (by simp))
  obtain ⟨fs, hr, hrun, hended, hW, hsame⟩ := X89.leave (v := some (.int (1 : Int32))) (fun h => by rw [Bd.returns] at h; cases h)
  refine ⟨_, _, pre0 _ ?_, hrun, hended, _, _, rfl, ?_, ⟨_, rfl⟩, hW, hsame.mono (by decide) (by decide)⟩
  · show Steps p.tables e below (s₁.setTop (mkF m 0 #[.val (.ref a), .val (.ref el)] [])) _
    refine XS.aloadN X0.here hx rfl (hb hby own_d_jdk_38_method_25_0) rfl rfl ?_
    show Steps p.tables e below (s₁.setTop (mkF m 1 #[.val (.ref a), .val (.ref el)] [(.ref a)])) _
    refine XS.dup X0.here hx rfl (hb hby own_d_jdk_38_method_25_1) rfl rfl ?_
    show Steps p.tables e below (s₁.setTop (mkF m 2 #[.val (.ref a), .val (.ref el)] [(.ref a), (.ref a)])) _
    refine st80 _ ?_
    show Steps p.tables e below (T80.setTop (mkF m 5 #[.val (.ref a), .val (.ref el)] [(.int mo), (.ref a)])) _
    refine XS.iconst X80.here hx rfl (hb hby own_d_jdk_38_method_25_5) ?_
    show Steps p.tables e below (T80.setTop (mkF m 6 #[.val (.ref a), .val (.ref el)] [(.int (1 : Int32)), (.int mo), (.ref a)])) _
    refine XS.iadd X80.here hx rfl (hb hby own_d_jdk_38_method_25_6) rfl ?_
    show Steps p.tables e below (T80.setTop (mkF m 7 #[.val (.ref a), .val (.ref el)] [(.int (mo + (1 : Int32))), (.ref a)])) _
    refine st81 _ ?_
    show Steps p.tables e below (T81.setTop (mkF m 10 #[.val (.ref a), .val (.ref el)] [])) _
    refine XS.aloadN X81.here hx rfl (hb hby own_d_jdk_38_method_25_10) rfl rfl ?_
    show Steps p.tables e below (T81.setTop (mkF m 11 #[.val (.ref a), .val (.ref el)] [(.ref a)])) _
    refine XS.aloadN X81.here hx rfl (hb hby own_d_jdk_38_method_25_11) rfl rfl ?_
    show Steps p.tables e below (T81.setTop (mkF m 12 #[.val (.ref a), .val (.ref el)] [(.ref el), (.ref a)])) _
    refine XS.aloadN X81.here hx rfl (hb hby own_d_jdk_38_method_25_12) rfl rfl ?_
    show Steps p.tables e below (T81.setTop (mkF m 13 #[.val (.ref a), .val (.ref el)] [(.ref a), (.ref el), (.ref a)])) _
    refine st87 _ ?_
    show Steps p.tables e below (T87.setTop (mkF m 16 #[.val (.ref a), .val (.ref el)] [(.ref d), (.ref el), (.ref a)])) _
    refine XS.aloadN X87.here hx rfl (hb hby own_d_jdk_38_method_25_16) rfl rfl ?_
    show Steps p.tables e below (T87.setTop (mkF m 17 #[.val (.ref a), .val (.ref el)] [(.ref a), (.ref d), (.ref el), (.ref a)])) _
    refine st88 _ ?_
    show Steps p.tables e below (T88.setTop (mkF m 20 #[.val (.ref a), .val (.ref el)] [(.int sz), (.ref d), (.ref el), (.ref a)])) _
    refine st89.trans ?_
    show Steps p.tables e below (T89.setTop (mkF m 23 #[.val (.ref a), .val (.ref el)] [])) _
    refine XS.iconst X89.here hx rfl (hb hby own_d_jdk_38_method_25_23) ?_
    show Steps p.tables e below (T89.setTop (mkF m 24 #[.val (.ref a), .val (.ref el)] [(.int (1 : Int32))])) _
    exact own_retZ X89 hx rfl Bd.returns (hb hby own_d_jdk_38_method_25_24) hr
  · show rm_a1_Q Z a el d kd sz mo xs h0 n0 _ T89.heap _
    exact ⟨rfl, N89, KP89, c89_0, c89_1, c89_2, c89_3, c89_4⟩
theorem rm_size_ef (m : MethodId) (x0 : Addr) : entryFrame m #[(.ref x0)] 1 = mkF m 0 #[.val (.ref x0)] [] := by first | (simp [entryFrame, mkF, argsToLocals, Value.category]; done) | rfl
def rm_size_Q (Z : State) (a : Addr) (sz : Int32) (h0 : Heap) (n0 : Nat) (v : Option Value) (h : Heap) (L : List Loc) : Prop := v = some (.int sz) ∧ Fr n0 L ∧ h = h0
set_option maxRecDepth 65536 in
set_option maxHeartbeats 40000000 in
theorem rm_size (l : Launch) (Z : State) (a0 : Array Value) (hw : ∀ d ∈ tables_1, d.before a0 Z = true) (ws : List Jvm.Cond) (a : Addr) (sz : Int32) (h0 : Heap) (n0 : Nat) (Z0 : n0 ≤ h0.size) (F_size : Fld Z h0 a "java/util/ArrayList" "size" "I" (.int sz)) :
    MetFree l (⟨"java/util/ArrayList", "size", "()I"⟩ : MethodName) (head1 (Jvm.Cond.code (⟨"java/util/ArrayList", "size", "()I"⟩ : MethodName) jdk_38_method_8_code 1 (some .int) :: ws) ({ frames := 0, cells := 0, slots := 0, locals := 0 } : Room)) (fun a₀ U₀ => a₀ = #[(.ref a)] ∧ Z.Warmed39 U₀.vm ∧ U₀.heap = h0) (fun _ _ _ _ _ => True) (fun _ U₀ o₀ U₁ => ∃ v₀ L₀, o₀ = .returned v₀ ∧ rm_size_Q Z a sz h0 n0 v₀ U₁.heap L₀ ∧ FrameEnd U₀ o₀ U₁ L₀ ({ frames := 0, cells := 0, slots := 0, locals := 0 } : Room).cells ({ frames := 0, cells := 0, slots := 0, locals := 0 } : Room).slots) := by
  refine MetFree.of_bodySF (plainFor_of_name own_pn2) hisR ?_
  intro p e s m args below meth c s₁ Bd hml0 hP hK
  obtain ⟨rfl, hZ, hh⟩ := hP
  have hx := Bd.exec
  have hby := Bd.bytes
  have hml : c.maxLocals = 1 := hml0
  have hown : s.vm.findClass "java/util/ArrayList" = some m.cls := findClass_of_methodNamed Bd.named
  have hnm := (name_of_methodNamed Bd.named Bd.method).1
  have X0 : Stand p l e ({ frames := 0, cells := 0, slots := 0, locals := 0 } : Room) s m #[(.ref a)] below meth c s₁ [] 0 0 := Stand.of_body Bd
  have e0 : s₁.heap = h0 := by rw [← hh, Bd.state]; rfl
  have N0 := Fr.nil n0
  have pre0 : ∀ t, Steps p.tables e below (s₁.setTop (mkF m 0 #[.val (.ref a)] [])) t → Steps p.tables e below (s₁.setTop (entryFrame m #[(.ref a)] 1)) t := fun t kk₀ => castTop (rm_size_ef m a) kk₀
  obtain ⟨T90, X90, e90, st90⟩ := getF X0 hx hZ hown (host := "") (Or.inl (hw _ (List.mem_of_getElem? (i := 57) rfl))) Via.refl e0 F_size (g := (mkF m 1 #[.val (.ref a)] [(.ref a)])) rfl rfl (hb hby own_d_jdk_38_method_8_1)
  obtain ⟨fs, hr, hrun, hended, hW, hsame⟩ := X90.leave (v := some (.int sz)) (fun h => by rw [Bd.returns] at h; cases h)
  refine ⟨_, _, pre0 _ ?_, hrun, hended, _, _, rfl, ?_, ⟨_, rfl⟩, hW, hsame.mono (by decide) (by decide)⟩
  · show Steps p.tables e below (s₁.setTop (mkF m 0 #[.val (.ref a)] [])) _
    refine XS.aloadN X0.here hx rfl (hb hby own_d_jdk_38_method_8_0) rfl rfl ?_
    show Steps p.tables e below (s₁.setTop (mkF m 1 #[.val (.ref a)] [(.ref a)])) _
    refine st90 _ ?_
    show Steps p.tables e below (T90.setTop (mkF m 4 #[.val (.ref a)] [(.int sz)])) _
    exact own_retI X90 hx Bd.returns (hb hby own_d_jdk_38_method_8_4) hr
  · show rm_size_Q Z a sz h0 n0 _ T90.heap _
    rw [e90]
    exact ⟨rfl, N0, rfl⟩
theorem rm_pci_ef (m : MethodId) (x0 : Int32) (x1 : Int32) : entryFrame m #[(.int x0), (.int x1), .null] 3 = mkF m 0 #[.val (.int x0), .val (.int x1), .val .null] [] := by first | (simp [entryFrame, mkF, argsToLocals, Value.category]; done) | rfl
def rm_pci_Q (Z : State) (i : Int32) (sz : Int32) (h0 : Heap) (n0 : Nat) (v : Option Value) (h : Heap) (L : List Loc) : Prop := v = some (.int i) ∧ Fr n0 L ∧ h = h0
set_option maxRecDepth 65536 in
set_option maxHeartbeats 40000000 in
theorem rm_pci (l : Launch) (Z : State) (a0 : Array Value) (hw : ∀ d ∈ tables_1, d.before a0 Z = true) (ws : List Jvm.Cond) (i : Int32) (sz : Int32) (h0 : Heap) (n0 : Nat) (Z0 : n0 ≤ h0.size) (h1 : ¬ (i < (0 : Int32))) (h2 : i < sz) :
    MetFree l (⟨"jdk/internal/util/Preconditions", "checkIndex", "(IILjava/util/function/BiFunction;)I"⟩ : MethodName) (head1 (Jvm.Cond.code (⟨"jdk/internal/util/Preconditions", "checkIndex", "(IILjava/util/function/BiFunction;)I"⟩ : MethodName) jdk_41_method_11_code 3 (some .int) :: ws) ({ frames := 0, cells := 0, slots := 0, locals := 0 } : Room)) (fun a₀ U₀ => a₀ = #[(.int i), (.int sz), .null] ∧ Z.Warmed39 U₀.vm ∧ U₀.heap = h0) (fun _ _ _ _ _ => True) (fun _ U₀ o₀ U₁ => ∃ v₀ L₀, o₀ = .returned v₀ ∧ rm_pci_Q Z i sz h0 n0 v₀ U₁.heap L₀ ∧ FrameEnd U₀ o₀ U₁ L₀ ({ frames := 0, cells := 0, slots := 0, locals := 0 } : Room).cells ({ frames := 0, cells := 0, slots := 0, locals := 0 } : Room).slots) := by
  refine MetFree.of_bodySF (plainFor_of_name own_pn4) hisR ?_
  intro p e s m args below meth c s₁ Bd hml0 hP hK
  obtain ⟨rfl, hZ, hh⟩ := hP
  have hx := Bd.exec
  have hby := Bd.bytes
  have hml : c.maxLocals = 3 := hml0
  have hown : s.vm.findClass "jdk/internal/util/Preconditions" = some m.cls := findClass_of_methodNamed Bd.named
  have hnm := (name_of_methodNamed Bd.named Bd.method).1
  have X0 : Stand p l e ({ frames := 0, cells := 0, slots := 0, locals := 0 } : Room) s m #[(.int i), (.int sz), .null] below meth c s₁ [] 0 0 := Stand.of_body Bd
  have e0 : s₁.heap = h0 := by rw [← hh, Bd.state]; rfl
  have N0 := Fr.nil n0
  have pre0 : ∀ t, Steps p.tables e below (s₁.setTop (mkF m 0 #[.val (.int i), .val (.int sz), .val .null] [])) t → Steps p.tables e below (s₁.setTop (entryFrame m #[(.int i), (.int sz), .null] 3)) t := fun t kk₀ => castTop (rm_pci_ef m i sz) kk₀
  obtain ⟨fs, hr, hrun, hended, hW, hsame⟩ := X0.leave (v := some (.int i)) (fun h => by rw [Bd.returns] at h; cases h)
  refine ⟨_, _, pre0 _ ?_, hrun, hended, _, _, rfl, ?_, ⟨_, rfl⟩, hW, hsame.mono (by decide) (by decide)⟩
  · show Steps p.tables e below (s₁.setTop (mkF m 0 #[.val (.int i), .val (.int sz), .val .null] [])) _
    refine XS.iloadN X0.here hx rfl (hb hby own_d_jdk_41_method_11_0) rfl ?_
    show Steps p.tables e below (s₁.setTop (mkF m 1 #[.val (.int i), .val (.int sz), .val .null] [(.int i)])) _
    refine XS.ifNo X0.here hx rfl (hb hby own_d_jdk_41_method_11_1) rfl ((if0 _ _).trans (flt h1).1) ?_
    show Steps p.tables e below (s₁.setTop (mkF m 4 #[.val (.int i), .val (.int sz), .val .null] [])) _
    refine XS.iloadN X0.here hx rfl (hb hby own_d_jdk_41_method_11_4) rfl ?_
    show Steps p.tables e below (s₁.setTop (mkF m 5 #[.val (.int i), .val (.int sz), .val .null] [(.int i)])) _
    refine XS.iloadN X0.here hx rfl (hb hby own_d_jdk_41_method_11_5) rfl ?_
    show Steps p.tables e below (s₁.setTop (mkF m 6 #[.val (.int i), .val (.int sz), .val .null] [(.int sz), (.int i)])) _
    refine XS.icmpYes X0.here hx rfl (pc0 := 6) (pc' := 16) rfl (hb hby own_d_jdk_41_method_11_6) rfl (tlt h2).1 (by decide) (by decide) ?_
    show Steps p.tables e below (s₁.setTop (mkF m 16 #[.val (.int i), .val (.int sz), .val .null] [])) _
    refine XS.iloadN X0.here hx rfl (hb hby own_d_jdk_41_method_11_16) rfl ?_
    show Steps p.tables e below (s₁.setTop (mkF m 17 #[.val (.int i), .val (.int sz), .val .null] [(.int i)])) _
    exact own_retI X0 hx Bd.returns (hb hby own_d_jdk_41_method_11_17) hr
  · show rm_pci_Q Z i sz h0 n0 _ s₁.heap _
    rw [e0]
    exact ⟨rfl, N0, rfl⟩
theorem rm_oci_ef (m : MethodId) (x0 : Int32) (x1 : Int32) : entryFrame m #[(.int x0), (.int x1)] 2 = mkF m 0 #[.val (.int x0), .val (.int x1)] [] := by first | (simp [entryFrame, mkF, argsToLocals, Value.category]; done) | rfl
def rm_oci_Q (Z : State) (i : Int32) (sz : Int32) (h0 : Heap) (n0 : Nat) (v : Option Value) (h : Heap) (L : List Loc) : Prop := v = some (.int i) ∧ Fr n0 L ∧ h = h0
set_option maxRecDepth 65536 in
set_option maxHeartbeats 40000000 in
theorem rm_oci (l : Launch) (Z : State) (a0 : Array Value) (hw : ∀ d ∈ tables_1, d.before a0 Z = true) (ws : List Jvm.Cond) (i : Int32) (sz : Int32) (h0 : Heap) (n0 : Nat) (Z0 : n0 ≤ h0.size) (h1 : ¬ (i < (0 : Int32))) (h2 : i < sz) :
    MetFree l (⟨"java/util/Objects", "checkIndex", "(II)I"⟩ : MethodName) (head1 (Jvm.Cond.code (⟨"java/util/Objects", "checkIndex", "(II)I"⟩ : MethodName) jdk_31_method_17_code 2 (some .int) :: ws) ({ frames := 1, cells := 0, slots := 0, locals := 14 } : Room)) (fun a₀ U₀ => a₀ = #[(.int i), (.int sz)] ∧ Z.Warmed39 U₀.vm ∧ U₀.heap = h0) (fun _ _ _ _ _ => True) (fun _ U₀ o₀ U₁ => ∃ v₀ L₀, o₀ = .returned v₀ ∧ rm_oci_Q Z i sz h0 n0 v₀ U₁.heap L₀ ∧ FrameEnd U₀ o₀ U₁ L₀ ({ frames := 1, cells := 0, slots := 0, locals := 14 } : Room).cells ({ frames := 1, cells := 0, slots := 0, locals := 14 } : Room).slots) := by
  refine MetFree.of_bodySF (plainFor_of_name own_pn5) hisR ?_
  intro p e s m args below meth c s₁ Bd hml0 hP hK
  obtain ⟨rfl, hZ, hh⟩ := hP
  have hx := Bd.exec
  have hby := Bd.bytes
  have hml : c.maxLocals = 2 := hml0
  have hown : s.vm.findClass "java/util/Objects" = some m.cls := findClass_of_methodNamed Bd.named
  have hnm := (name_of_methodNamed Bd.named Bd.method).1
  have X0 : Stand p l e ({ frames := 1, cells := 0, slots := 0, locals := 14 } : Room) s m #[(.int i), (.int sz)] below meth c s₁ [] 0 0 := Stand.of_body Bd
  have e0 : s₁.heap = h0 := by rw [← hh, Bd.state]; rfl
  have N0 := Fr.nil n0
  have pre0 : ∀ t, Steps p.tables e below (s₁.setTop (mkF m 0 #[.val (.int i), .val (.int sz)] [])) t → Steps p.tables e below (s₁.setTop (entryFrame m #[(.int i), (.int sz)] 2)) t := fun t kk₀ => castTop (rm_oci_ef m i sz) kk₀
  obtain ⟨_, _, ⟨T91, L91, k91, n91⟩, -, X91, ⟨Lc91, hQ91, l91, y91, z91⟩, st91⟩ := Jvm.LawKit.callS X0 hx (y := (⟨"jdk/internal/util/Preconditions", "checkIndex", "(IILjava/util/function/BiFunction;)I"⟩ : MethodName)) hown (mvT hZ (hw _ (List.mem_of_getElem? (i := 104) rfl))) (mvT hZ (hw _ (List.mem_of_getElem? (i := 105) rfl))) (mvT hZ (hw _ (List.mem_of_getElem? (i := 106) rfl))) (mvT hZ (hw _ (List.mem_of_getElem? (i := 107) rfl))) (by decide) (backOf (W := 0) (rm_pci l Z a0 hw [] i sz h0 n0 Z0 h1 h2) hZ (hw _ (List.mem_of_getElem? (i := 107) rfl)) (hw _ (List.mem_of_getElem? (i := 106) rfl)) (by decide) (by decide)) (g := (mkF m 3 #[.val (.int i), .val (.int sz)] [.null, (.int sz), (.int i)])) rfl (by rw [hml]; rfl) (argsL := [(.int i), (.int sz), .null]) (rest := []) (lenOf own_pd5 rfl) rfl (by show 2 * 0 + _ ≤ _; exact Nat.le_of_eq rfl) (hb hby own_d_jdk_31_method_17_3) (fun _ _ => ⟨rfl, e0, (by decide : 0 + 0 ≤ _), (by decide : 0 + 0 ≤ _)⟩)
  dsimp only [Pt.U, Pt.locs, Pt.cells, Pt.slots] at X91 l91 y91 z91 st91 hQ91
  subst l91 y91 z91
  obtain ⟨rfl, Nq91, eh91⟩ := hQ91
  have N91 := Fr.app N0 Nq91
  obtain ⟨fs, hr, hrun, hended, hW, hsame⟩ := X91.leave (v := some (.int i)) (fun h => by rw [Bd.returns] at h; cases h)
  refine ⟨_, _, pre0 _ ?_, hrun, hended, _, _, rfl, ?_, ⟨_, rfl⟩, hW, hsame.mono (by decide) (by decide)⟩
  · show Steps p.tables e below (s₁.setTop (mkF m 0 #[.val (.int i), .val (.int sz)] [])) _
    refine XS.iloadN X0.here hx rfl (hb hby own_d_jdk_31_method_17_0) rfl ?_
    show Steps p.tables e below (s₁.setTop (mkF m 1 #[.val (.int i), .val (.int sz)] [(.int i)])) _
    refine XS.iloadN X0.here hx rfl (hb hby own_d_jdk_31_method_17_1) rfl ?_
    show Steps p.tables e below (s₁.setTop (mkF m 2 #[.val (.int i), .val (.int sz)] [(.int sz), (.int i)])) _
    refine XS.aconstNull X0.here hx rfl (hb hby own_d_jdk_31_method_17_2) ?_
    show Steps p.tables e below (s₁.setTop (mkF m 3 #[.val (.int i), .val (.int sz)] [.null, (.int sz), (.int i)])) _
    refine st91 _ ?_
    show Steps p.tables e below (T91.setTop (mkF m 6 #[.val (.int i), .val (.int sz)] [(.int i)])) _
    exact own_retI X91 hx Bd.returns (hb hby own_d_jdk_31_method_17_6) hr
  · show rm_oci_Q Z i sz h0 n0 _ T91.heap _
    rw [eh91]
    exact ⟨rfl, N91, rfl⟩
theorem rm_eda_ef (m : MethodId) (x0 : Addr) (x1 : Int32) : entryFrame m #[(.ref x0), (.int x1)] 2 = mkF m 0 #[.val (.ref x0), .val (.int x1)] [] := by first | (simp [entryFrame, mkF, argsToLocals, Value.category]; done) | rfl
def rm_eda_Q (Z : State) (a : Addr) (i : Int32) (d : Addr) (kd : ClassId) (xs : List Value) (wv : Value) (h0 : Heap) (n0 : Nat) (v : Option Value) (h : Heap) (L : List Loc) : Prop := v = some wv ∧ Fr n0 L ∧ h = h0
set_option maxRecDepth 65536 in
set_option maxHeartbeats 40000000 in
theorem rm_eda (l : Launch) (Z : State) (a0 : Array Value) (hw : ∀ d ∈ tables_1, d.before a0 Z = true) (ws : List Jvm.Cond) (a : Addr) (i : Int32) (d : Addr) (kd : ClassId) (xs : List Value) (wv : Value) (h0 : Heap) (n0 : Nat) (Z0 : n0 ≤ h0.size) (F_elem : Fld Z h0 a "java/util/ArrayList" "elementData" "[Ljava/lang/Object;" (.ref d)) (L_d : OwnLst Z h0 d (.object "java/lang/Object") kd xs) (hlen : xs.length = 10) (hin : ¬ (i < 0 ∨ 10 ≤ i.toNatClampNeg)) (hget : xs[i.toNatClampNeg]? = some wv) (hwr : wv.isRef = true) :
    MetFree l (⟨"java/util/ArrayList", "elementData", "(I)Ljava/lang/Object;"⟩ : MethodName) (head1 (Jvm.Cond.code (⟨"java/util/ArrayList", "elementData", "(I)Ljava/lang/Object;"⟩ : MethodName) jdk_38_method_18_code 2 (some (.object "java/lang/Object")) :: ws) ({ frames := 0, cells := 0, slots := 0, locals := 0 } : Room)) (fun a₀ U₀ => a₀ = #[(.ref a), (.int i)] ∧ Z.Warmed39 U₀.vm ∧ U₀.heap = h0) (fun _ _ _ _ _ => True) (fun _ U₀ o₀ U₁ => ∃ v₀ L₀, o₀ = .returned v₀ ∧ rm_eda_Q Z a i d kd xs wv h0 n0 v₀ U₁.heap L₀ ∧ FrameEnd U₀ o₀ U₁ L₀ ({ frames := 0, cells := 0, slots := 0, locals := 0 } : Room).cells ({ frames := 0, cells := 0, slots := 0, locals := 0 } : Room).slots) := by
  refine MetFree.of_bodySF (plainFor_of_name own_pn2) hisR ?_
  intro p e s m args below meth c s₁ Bd hml0 hP hK
  obtain ⟨rfl, hZ, hh⟩ := hP
  have hx := Bd.exec
  have hby := Bd.bytes
  have hml : c.maxLocals = 2 := hml0
  have hown : s.vm.findClass "java/util/ArrayList" = some m.cls := findClass_of_methodNamed Bd.named
  have hnm := (name_of_methodNamed Bd.named Bd.method).1
  have X0 : Stand p l e ({ frames := 0, cells := 0, slots := 0, locals := 0 } : Room) s m #[(.ref a), (.int i)] below meth c s₁ [] 0 0 := Stand.of_body Bd
  have e0 : s₁.heap = h0 := by rw [← hh, Bd.state]; rfl
  have N0 := Fr.nil n0
  have pre0 : ∀ t, Steps p.tables e below (s₁.setTop (mkF m 0 #[.val (.ref a), .val (.int i)] [])) t → Steps p.tables e below (s₁.setTop (entryFrame m #[(.ref a), (.int i)] 2)) t := fun t kk₀ => castTop (rm_eda_ef m a i) kk₀
  obtain ⟨T92, X92, e92, st92⟩ := getF X0 hx hZ hown (host := "") (Or.inl (hw _ (List.mem_of_getElem? (i := 28) rfl))) Via.refl e0 F_elem (g := (mkF m 1 #[.val (.ref a), .val (.int i)] [(.ref a)])) rfl rfl (hb hby own_d_jdk_38_method_18_1)
  obtain ⟨cl93, Ar93, q93, G93⟩ := id L_d
  obtain ⟨fs, hr, hrun, hended, hW, hsame⟩ := X92.leave (v := some wv) (fun h => by rw [Bd.returns] at h; cases h)
  refine ⟨_, _, pre0 _ ?_, hrun, hended, _, _, rfl, ?_, ⟨_, rfl⟩, hW, hsame.mono (by decide) (by decide)⟩
  · show Steps p.tables e below (s₁.setTop (mkF m 0 #[.val (.ref a), .val (.int i)] [])) _
    refine XS.aloadN X0.here hx rfl (hb hby own_d_jdk_38_method_18_0) rfl rfl ?_
    show Steps p.tables e below (s₁.setTop (mkF m 1 #[.val (.ref a), .val (.int i)] [(.ref a)])) _
    refine st92 _ ?_
    show Steps p.tables e below (T92.setTop (mkF m 4 #[.val (.ref a), .val (.int i)] [(.ref d)])) _
    refine XS.iloadN X92.here hx rfl (hb hby own_d_jdk_38_method_18_4) rfl ?_
    show Steps p.tables e below (T92.setTop (mkF m 5 #[.val (.ref a), .val (.int i)] [(.int i), (.ref d)])) _
    refine X92.aaload hx (j := i) (v := wv) (by rw [e92]; exact Ar93.1) (State.isArrayOf_alike hZ.alike Ar93.2.1) rfl Ar93.2.2 (own_inb G93 10 hlen hin) (own_get G93 hget) (g := (mkF m 5 #[.val (.ref a), .val (.int i)] [(.int i), (.ref d)])) rfl rfl (hb hby own_d_jdk_38_method_18_5) _ ?_
    show Steps p.tables e below (T92.setTop (mkF m 6 #[.val (.ref a), .val (.int i)] [wv])) _
    exact own_retA X92 hx (by first | rfl | decide) hwr Bd.returns (hb hby own_d_jdk_38_method_18_6) hr
  · show rm_eda_Q Z a i d kd xs wv h0 n0 _ T92.heap _
    rw [e92]
    exact ⟨rfl, N0, rfl⟩
theorem rm_get_ef (m : MethodId) (x0 : Addr) (x1 : Int32) : entryFrame m #[(.ref x0), (.int x1)] 2 = mkF m 0 #[.val (.ref x0), .val (.int x1)] [] := by first | (simp [entryFrame, mkF, argsToLocals, Value.category]; done) | rfl
def rm_get_Q (Z : State) (a : Addr) (i : Int32) (d : Addr) (kd : ClassId) (xs : List Value) (wv : Value) (sz : Int32) (h0 : Heap) (n0 : Nat) (v : Option Value) (h : Heap) (L : List Loc) : Prop := v = some wv ∧ Fr n0 L ∧ h = h0
set_option maxRecDepth 65536 in
set_option maxHeartbeats 40000000 in
theorem rm_get (l : Launch) (Z : State) (a0 : Array Value) (hw : ∀ d ∈ tables_1, d.before a0 Z = true) (ws : List Jvm.Cond) (a : Addr) (i : Int32) (d : Addr) (kd : ClassId) (xs : List Value) (wv : Value) (sz : Int32) (h0 : Heap) (n0 : Nat) (Z0 : n0 ≤ h0.size) (F_elem : Fld Z h0 a "java/util/ArrayList" "elementData" "[Ljava/lang/Object;" (.ref d)) (L_d : OwnLst Z h0 d (.object "java/lang/Object") kd xs) (hlen : xs.length = 10) (hin : ¬ (i < 0 ∨ 10 ≤ i.toNatClampNeg)) (hget : xs[i.toNatClampNeg]? = some wv) (hwr : wv.isRef = true) (F_size : Fld Z h0 a "java/util/ArrayList" "size" "I" (.int sz)) (E_a : Exa Z h0 a "java/util/ArrayList") (h1 : ¬ (i < (0 : Int32))) (h2 : i < sz) :
    MetFree l (⟨"java/util/ArrayList", "get", "(I)Ljava/lang/Object;"⟩ : MethodName) (head1 (Jvm.Cond.code (⟨"java/util/ArrayList", "get", "(I)Ljava/lang/Object;"⟩ : MethodName) jdk_38_method_20_code 2 (some (.object "java/lang/Object")) :: ws) ({ frames := 2, cells := 0, slots := 0, locals := 27 } : Room)) (fun a₀ U₀ => a₀ = #[(.ref a), (.int i)] ∧ Z.Warmed39 U₀.vm ∧ U₀.heap = h0) (fun _ _ _ _ _ => True) (fun _ U₀ o₀ U₁ => ∃ v₀ L₀, o₀ = .returned v₀ ∧ rm_get_Q Z a i d kd xs wv sz h0 n0 v₀ U₁.heap L₀ ∧ FrameEnd U₀ o₀ U₁ L₀ ({ frames := 2, cells := 0, slots := 0, locals := 27 } : Room).cells ({ frames := 2, cells := 0, slots := 0, locals := 27 } : Room).slots) := by
  refine MetFree.of_bodySF (plainFor_of_name own_pn2) hisR ?_
  intro p e s m args below meth c s₁ Bd hml0 hP hK
  obtain ⟨rfl, hZ, hh⟩ := hP
  have hx := Bd.exec
  have hby := Bd.bytes
  have hml : c.maxLocals = 2 := hml0
  have hown : s.vm.findClass "java/util/ArrayList" = some m.cls := findClass_of_methodNamed Bd.named
  have hnm := (name_of_methodNamed Bd.named Bd.method).1
  have X0 : Stand p l e ({ frames := 2, cells := 0, slots := 0, locals := 27 } : Room) s m #[(.ref a), (.int i)] below meth c s₁ [] 0 0 := Stand.of_body Bd
  have e0 : s₁.heap = h0 := by rw [← hh, Bd.state]; rfl
  have N0 := Fr.nil n0
  have pre0 : ∀ t, Steps p.tables e below (s₁.setTop (mkF m 0 #[.val (.ref a), .val (.int i)] [])) t → Steps p.tables e below (s₁.setTop (entryFrame m #[(.ref a), (.int i)] 2)) t := fun t kk₀ => castTop (rm_get_ef m a i) kk₀
  obtain ⟨T94, X94, e94, st94⟩ := getF X0 hx hZ hown (host := "") (Or.inl (hw _ (List.mem_of_getElem? (i := 57) rfl))) Via.refl e0 F_size (g := (mkF m 2 #[.val (.ref a), .val (.int i)] [(.ref a), (.int i)])) rfl rfl (hb hby own_d_jdk_38_method_20_2)
  obtain ⟨_, _, ⟨T95, L95, k95, n95⟩, -, X95, ⟨Lc95, hQ95, l95, y95, z95⟩, st95⟩ := Jvm.LawKit.callS X94 hx (y := (⟨"java/util/Objects", "checkIndex", "(II)I"⟩ : MethodName)) hown (mvT hZ (hw _ (List.mem_of_getElem? (i := 100) rfl))) (mvT hZ (hw _ (List.mem_of_getElem? (i := 101) rfl))) (mvT hZ (hw _ (List.mem_of_getElem? (i := 102) rfl))) (mvT hZ (hw _ (List.mem_of_getElem? (i := 103) rfl))) (by decide) (backOf (W := 0) (rm_oci l Z a0 hw [] i sz h0 n0 Z0 h1 h2) hZ (hw _ (List.mem_of_getElem? (i := 103) rfl)) (hw _ (List.mem_of_getElem? (i := 102) rfl)) (by decide) (by decide)) (g := (mkF m 5 #[.val (.ref a), .val (.int i)] [(.int sz), (.int i)])) rfl (by rw [hml]; rfl) (argsL := [(.int i), (.int sz)]) (rest := []) (lenOf own_pd1 rfl) rfl (by show 2 * 0 + _ ≤ _; exact Nat.le_of_eq rfl) (hb hby own_d_jdk_38_method_20_5) (fun _ _ => ⟨rfl, e94, (by decide : 0 + 0 ≤ _), (by decide : 0 + 0 ≤ _)⟩)
  dsimp only [Pt.U, Pt.locs, Pt.cells, Pt.slots] at X95 l95 y95 z95 st95 hQ95
  subst l95 y95 z95
  obtain ⟨rfl, Nq95, eh95⟩ := hQ95
  have N95 := Fr.app N0 Nq95
  obtain ⟨cq96, kq96, q96a, q96b, q96c⟩ := isOf hZ eh95 E_a
  obtain ⟨_, _, ⟨T96, L96, k96, n96⟩, -, X96, ⟨Lc96, hQ96, l96, y96, z96⟩, st96⟩ := X95.virtualBack hx (y := (⟨"java/util/ArrayList", "elementData", "(I)Ljava/lang/Object;"⟩ : MethodName)) (z := (⟨"java/util/ArrayList", "elementData", "(I)Ljava/lang/Object;"⟩ : MethodName)) hown (mvT hZ (hw _ (List.mem_of_getElem? (i := 108) rfl))) (mvT hZ (hw _ (List.mem_of_getElem? (i := 109) rfl))) (notFace_of_selects (args := #[]) (mvT hZ (hw _ (List.mem_of_getElem? (i := 111) rfl)))) (mvT hZ (hw _ (List.mem_of_getElem? (i := 111) rfl))) (mvT hZ (hw _ (List.mem_of_getElem? (i := 110) rfl))) (by decide) (backOf (W := 0) (rm_eda l Z a0 hw [] a i d kd xs wv h0 n0 Z0 F_elem L_d hlen hin hget hwr) hZ (hw _ (List.mem_of_getElem? (i := 112) rfl)) (hw _ (List.mem_of_getElem? (i := 6) rfl)) (by decide) (by decide)) q96a q96c (g := (mkF m 11 #[.val (.ref a), .val (.int i)] [(.int i), (.ref a)])) rfl (by rw [hml]; rfl) (Steps.refl _) (argsL := [(.int i)]) (rest := []) (lenOf own_pd6 rfl) rfl (by show 2 * 0 + _ ≤ _; exact Nat.le_of_eq rfl) (hb hby own_d_jdk_38_method_20_11) (fun _ _ => ⟨rfl, eh95, (by decide : 0 + 0 ≤ _), (by decide : 0 + 0 ≤ _)⟩)
  dsimp only [Pt.U, Pt.locs, Pt.cells, Pt.slots] at X96 l96 y96 z96 st96 hQ96
  subst l96 y96 z96
  obtain ⟨rfl, Nq96, eh96⟩ := hQ96
  have N96 := Fr.app N95 Nq96
  obtain ⟨fs, hr, hrun, hended, hW, hsame⟩ := X96.leave (v := some wv) (fun h => by rw [Bd.returns] at h; cases h)
  refine ⟨_, _, pre0 _ ?_, hrun, hended, _, _, rfl, ?_, ⟨_, rfl⟩, hW, hsame.mono (by decide) (by decide)⟩
  · show Steps p.tables e below (s₁.setTop (mkF m 0 #[.val (.ref a), .val (.int i)] [])) _
    refine XS.iloadN X0.here hx rfl (hb hby own_d_jdk_38_method_20_0) rfl ?_
    show Steps p.tables e below (s₁.setTop (mkF m 1 #[.val (.ref a), .val (.int i)] [(.int i)])) _
    refine XS.aloadN X0.here hx rfl (hb hby own_d_jdk_38_method_20_1) rfl rfl ?_
    show Steps p.tables e below (s₁.setTop (mkF m 2 #[.val (.ref a), .val (.int i)] [(.ref a), (.int i)])) _
    refine st94 _ ?_
    show Steps p.tables e below (T94.setTop (mkF m 5 #[.val (.ref a), .val (.int i)] [(.int sz), (.int i)])) _
    refine st95 _ ?_
    show Steps p.tables e below (T95.setTop (mkF m 8 #[.val (.ref a), .val (.int i)] [(.int i)])) _
    refine XS.pop X95.here hx rfl (hb hby own_d_jdk_38_method_20_8) rfl rfl ?_
    show Steps p.tables e below (T95.setTop (mkF m 9 #[.val (.ref a), .val (.int i)] [])) _
    refine XS.aloadN X95.here hx rfl (hb hby own_d_jdk_38_method_20_9) rfl rfl ?_
    show Steps p.tables e below (T95.setTop (mkF m 10 #[.val (.ref a), .val (.int i)] [(.ref a)])) _
    refine XS.iloadN X95.here hx rfl (hb hby own_d_jdk_38_method_20_10) rfl ?_
    show Steps p.tables e below (T95.setTop (mkF m 11 #[.val (.ref a), .val (.int i)] [(.int i), (.ref a)])) _
    refine st96.trans ?_
    show Steps p.tables e below (T96.setTop (mkF m 14 #[.val (.ref a), .val (.int i)] [wv])) _
    exact own_retA X96 hx (by first | rfl | decide) hwr Bd.returns (hb hby own_d_jdk_38_method_20_14) hr
  · show rm_get_Q Z a i d kd xs wv sz h0 n0 _ T96.heap _
    rw [eh96]
    exact ⟨rfl, N96, rfl⟩
theorem rm_pa_ef (m : MethodId)  : entryFrame m #[] 5 = mkF m 0 #[.unset, .unset, .unset, .unset, .unset] [] := by first | (simp [entryFrame, mkF, argsToLocals, Value.category]; done) | rfl
def rm_pa_Q (Z : State) (aV : Addr) (cV : Cell) (bD : Addr) (kD : ClassId) (b_IOS : Addr) (b_ANDROID : Addr) (b_AMAZON : Addr) (b_OPEN : Addr) (h0 : Heap) (n0 : Nat) (v : Option Value) (h : Heap) (L : List Loc) : Prop := ∃ (a d : Addr) (k : ClassId), v = some (.ref a) ∧ Fr n0 L ∧ Keep h0 h [] ∧ Exa Z h a "java/util/ArrayList" ∧ Fld Z h a "java/util/ArrayList" "size" "I" (.int (3 : Int32)) ∧ Fld Z h a "java/util/ArrayList" "elementData" "[Ljava/lang/Object;" (.ref d) ∧ OwnLst Z h d (.object "java/lang/Object") k [.ref b_IOS, .ref b_ANDROID, .ref b_AMAZON, .null, .null, .null, .null, .null, .null, .null]
set_option maxRecDepth 65536 in
set_option maxHeartbeats 40000000 in
theorem rm_pa (l : Launch) (Z : State) (a0 : Array Value) (hw : ∀ d ∈ tables_1, d.before a0 Z = true) (ws : List Jvm.Cond) (aV : Addr) (cV : Cell) (bD : Addr) (kD : ClassId) (b_IOS : Addr) (b_ANDROID : Addr) (b_AMAZON : Addr) (b_OPEN : Addr) (h0 : Heap) (n0 : Nat) (Z0 : n0 ≤ h0.size) (OL : Old Z n0 h0) (S_V : Sta Z Z.heap "com/example/bell_tower/belltower/model/DeviceType" "$VALUES" "[Lcom/example/bell_tower/belltower/model/DeviceType;" (.ref aV)) (A_V : Arr Z Z.heap aV cV (.object "com/example/bell_tower/belltower/model/DeviceType")) (E_V : Exa Z Z.heap aV "[Lcom/example/bell_tower/belltower/model/DeviceType;") (FC_V : FitC Z cV) (L_V : cV.slots.toList = [.ref b_IOS, .ref b_ANDROID, .ref b_AMAZON, .ref b_OPEN]) (S_D : Sta Z Z.heap "java/util/ArrayList" "DEFAULTCAPACITY_EMPTY_ELEMENTDATA" "[Ljava/lang/Object;" (.ref bD)) (L_D : OwnLst Z Z.heap bD (.object "java/lang/Object") kD []) (E_IOS : Exa Z Z.heap b_IOS "com/example/bell_tower/belltower/model/DeviceType") (E_ANDROID : Exa Z Z.heap b_ANDROID "com/example/bell_tower/belltower/model/DeviceType") (E_AMAZON : Exa Z Z.heap b_AMAZON "com/example/bell_tower/belltower/model/DeviceType") (S_OPEN : Sta Z Z.heap "com/example/bell_tower/belltower/model/DeviceType" "OPEN" "Lcom/example/bell_tower/belltower/model/DeviceType;" (.ref b_OPEN)) (E_OPEN : Exa Z Z.heap b_OPEN "com/example/bell_tower/belltower/model/DeviceType") (F_IOS_ordinal : Fld Z Z.heap b_IOS "java/lang/Enum" "ordinal" "I" (.int (0 : Int32))) (F_OPEN_ordinal : Fld Z Z.heap b_OPEN "java/lang/Enum" "ordinal" "I" (.int (3 : Int32))) (F_ANDROID_ordinal : Fld Z Z.heap b_ANDROID "java/lang/Enum" "ordinal" "I" (.int (1 : Int32))) (F_AMAZON_ordinal : Fld Z Z.heap b_AMAZON "java/lang/Enum" "ordinal" "I" (.int (2 : Int32))) :
    MetFree l (⟨"com/example/bell_tower/belltower/model/DeviceType", "pushAddressed", "()Ljava/util/List;"⟩ : MethodName) (head1 (Jvm.Cond.code (⟨"com/example/bell_tower/belltower/model/DeviceType", "pushAddressed", "()Ljava/util/List;"⟩ : MethodName) prog_8_method_6_code 5 (some (.object "java/util/List")) :: ws) ({ frames := 5, cells := 3, slots := 17, locals := 75 } : Room)) (fun a₀ U₀ => a₀ = #[] ∧ Z.Warmed39 U₀.vm ∧ U₀.heap = h0) (fun _ _ _ _ _ => True) (fun _ U₀ o₀ U₁ => ∃ v₀ L₀, o₀ = .returned v₀ ∧ rm_pa_Q Z aV cV bD kD b_IOS b_ANDROID b_AMAZON b_OPEN h0 n0 v₀ U₁.heap L₀ ∧ FrameEnd U₀ o₀ U₁ L₀ ({ frames := 5, cells := 3, slots := 17, locals := 75 } : Room).cells ({ frames := 5, cells := 3, slots := 17, locals := 75 } : Room).slots) := by
  refine MetFree.of_bodySF (plainFor_of_name own_pn3) hisR ?_
  intro p e s m args below meth c s₁ Bd hml0 hP hK
  obtain ⟨rfl, hZ, hh⟩ := hP
  have hx := Bd.exec
  have hby := Bd.bytes
  have hml : c.maxLocals = 5 := hml0
  have hown : s.vm.findClass "com/example/bell_tower/belltower/model/DeviceType" = some m.cls := findClass_of_methodNamed Bd.named
  have hnm := (name_of_methodNamed Bd.named Bd.method).1
  have X0 : Stand p l e ({ frames := 5, cells := 3, slots := 17, locals := 75 } : Room) s m #[] below meth c s₁ [] 0 0 := Stand.of_body Bd
  have e0 : s₁.heap = h0 := by rw [← hh, Bd.state]; rfl
  have N0 := Fr.nil n0
  have pre0 : ∀ t, Steps p.tables e below (s₁.setTop (mkF m 0 #[.unset, .unset, .unset, .unset, .unset] [])) t → Steps p.tables e below (s₁.setTop (entryFrame m #[] 5)) t := fun t kk₀ => castTop (rm_pa_ef m ) kk₀
  have ne_IOS : b_IOS ≠ b_OPEN := own_fld_ne F_IOS_ordinal F_OPEN_ordinal (by decide)
  have ne_ANDROID : b_ANDROID ≠ b_OPEN := own_fld_ne F_ANDROID_ordinal F_OPEN_ordinal (by decide)
  have ne_AMAZON : b_AMAZON ≠ b_OPEN := own_fld_ne F_AMAZON_ordinal F_OPEN_ordinal (by decide)
  obtain ⟨T97, h97, X97, e97, E97, A97, D97, -, st97⟩ := newO X0 hx hZ hown (hw _ (List.mem_of_getElem? (i := 4) rfl)) (hw _ (List.mem_of_getElem? (i := 5) rfl)) (hw _ (List.mem_of_getElem? (i := 6) rfl)) e0 (g := (mkF m 0 #[.unset, .unset, .unset, .unset, .unset] [])) rfl (hb hby own_d_prog_8_method_6_0) (by decide) (by decide)
  obtain ⟨b97, g97⟩ : ∃ z, z = h0.size := ⟨_, rfl⟩
  rw [← g97] at A97 D97 st97
  have sz97 : h0.size ≤ b97 := Nat.le_trans (Nat.le_refl _) (Nat.le_of_eq g97.symm)
  have gn97 : n0 ≤ b97 := Nat.le_trans Z0 sz97
  have OL97 := own_old_ext OL E97
  have KP97 : Keep h0 h97 [] := (Keep.refl _ _).ext E97
  have F_modCount_b97 : Fld Z h97 b97 "java/util/AbstractList" "modCount" "I" (.int (0 : Int32)) := D97 (Or.inl (hw _ (List.mem_of_getElem? (i := 26) rfl))) (ty := .int) (by decide)
  have F_elementData_b97 : Fld Z h97 b97 "java/util/ArrayList" "elementData" "[Ljava/lang/Object;" .null := D97 (Or.inl (hw _ (List.mem_of_getElem? (i := 29) rfl))) (ty := (.array (.object "java/lang/Object"))) (by decide)
  have F_size_b97 : Fld Z h97 b97 "java/util/ArrayList" "size" "I" (.int (0 : Int32)) := D97 (Or.inl (hw _ (List.mem_of_getElem? (i := 58) rfl))) (ty := .int) (by decide)
  have neD97 : b97 ≠ bD := Ne.symm (own_ne_le L_D.lt (Nat.le_trans OL.2.1 sz97))
  obtain ⟨_, _, ⟨T98, L98, k98, n98⟩, -, X98, ⟨Lc98, hQ98, l98, y98, z98⟩, st98⟩ := X97.specialBack hx (y := (⟨"java/util/ArrayList", "<init>", "()V"⟩ : MethodName)) rfl hown (mvT hZ (hw _ (List.mem_of_getElem? (i := 7) rfl))) (mvT hZ (hw _ (List.mem_of_getElem? (i := 8) rfl))) (mvT hZ (hw _ (List.mem_of_getElem? (i := 9) rfl))) (by decide) (backOf (W := 1) (rm_ali l Z a0 hw [] b97 bD kD h97 n0 (Nat.le_trans Z0 KP97.1) OL97 A97 F_modCount_b97 F_size_b97 F_elementData_b97 gn97 S_D L_D) hZ (hw _ (List.mem_of_getElem? (i := 9) rfl)) (hw _ (List.mem_of_getElem? (i := 6) rfl)) (by decide) (by decide)) (g := (mkF m 4 #[.unset, .unset, .unset, .unset, .unset] [(.ref b97), (.ref b97)])) rfl (by rw [hml]; rfl) (Steps.refl _) (a := b97) (argsL := []) (rest := [(.ref b97)]) (lenOf own_pd0 rfl) rfl (by show 2 * 0 + _ ≤ _; exact Nat.le_of_eq rfl) (hb hby own_d_prog_8_method_6_4) (fun _ _ => ⟨rfl, e97, (by decide : 1 + 0 ≤ _), (by decide : 3 + 0 ≤ _)⟩)
  dsimp only [Pt.U, Pt.locs, Pt.cells, Pt.slots] at X98 l98 y98 z98 st98 hQ98
  subst l98 y98 z98
  obtain ⟨rfl, Nq98, K98, c98_0, c98_1, c98_2, c98_3⟩ := hQ98
  have N98 := Fr.app N0 Nq98
  have OL98 := OL97.keep K98 (fun x hx => by
    simp only [List.mem_cons, List.not_mem_nil, or_false] at hx
    rcases hx with rfl
    · exact gn97)
  have KP98 : Keep h0 T98.heap [] := KP97.trans K98 (fun x hx => by
    simp only [List.mem_cons, List.not_mem_nil, or_false] at hx
    rcases hx with rfl
    · exact Or.inr sz97)
  obtain ⟨_, _, ⟨T99, L99, k99, n99⟩, -, X99, ⟨Lc99, hQ99, l99, y99, z99⟩, st99⟩ := Jvm.LawKit.callS X98 hx (y := (⟨"com/example/bell_tower/belltower/model/DeviceType", "values", "()[Lcom/example/bell_tower/belltower/model/DeviceType;"⟩ : MethodName)) hown (mvT hZ (hw _ (List.mem_of_getElem? (i := 30) rfl))) (mvT hZ (hw _ (List.mem_of_getElem? (i := 31) rfl))) (mvT hZ (hw _ (List.mem_of_getElem? (i := 2) rfl))) (mvT hZ (hw _ (List.mem_of_getElem? (i := 32) rfl))) (by decide) (backOf (W := 0) (rm_values l Z a0 hw [] aV cV b_IOS b_ANDROID b_AMAZON b_OPEN T98.heap n0 (Nat.le_trans Z0 KP98.1) OL98 S_V A_V E_V FC_V L_V) hZ (hw _ (List.mem_of_getElem? (i := 32) rfl)) (hw _ (List.mem_of_getElem? (i := 2) rfl)) (by decide) (by decide)) (g := (mkF m 8 #[.val (.ref b97), .unset, .unset, .unset, .unset] [])) rfl (by rw [hml]; rfl) (argsL := []) (rest := []) (lenOf own_pd7 rfl) rfl (by show 2 * 0 + _ ≤ _; exact Nat.le_of_eq rfl) (hb hby own_d_prog_8_method_6_8) (fun _ _ => ⟨rfl, rfl, (by decide : 1 + 1 ≤ _), (by decide : 3 + 4 ≤ _)⟩)
  dsimp only [Pt.U, Pt.locs, Pt.cells, Pt.slots] at X99 l99 y99 z99 st99 hQ99
  subst l99 y99 z99
  obtain ⟨rfl, Nq99, K99, cl99_0⟩ := hQ99
  have N99 := Fr.app N98 Nq99
  obtain ⟨v99, gv99⟩ : ∃ z, z = T98.heap.size := ⟨_, rfl⟩
  rw [← gv99] at cl99_0 st99
  have lv99 : T98.heap.size ≤ v99 := Nat.le_of_eq gv99.symm
  have ne_b97_v99 : b97 ≠ v99 := own_ne_le c98_0.lt lv99
  have sz_v99 : h0.size ≤ v99 := Nat.le_trans KP98.1 lv99
  have gn_v99 : n0 ≤ v99 := Nat.le_trans Z0 sz_v99
  have f100 : Exa Z T99.heap b97 "java/util/ArrayList" := c98_0.keep K99
  have f101 : Fld Z T99.heap b97 "java/util/AbstractList" "modCount" "I" (.int (0 : Int32)) := c98_1.keep K99 (by simp)
  have f102 : Fld Z T99.heap b97 "java/util/ArrayList" "size" "I" (.int (0 : Int32)) := c98_2.keep K99 (by simp)
  have f103 : Fld Z T99.heap b97 "java/util/ArrayList" "elementData" "[Ljava/lang/Object;" (.ref bD) := c98_3.keep K99 (by simp)
  have OL99 := OL98.keep K99 (fun x hx => by simp at hx)
  have KP99 : Keep h0 T99.heap [] := KP98.trans K99 (fun x hx => by simp at hx)
  obtain ⟨cl104, Ar104, q104, G104⟩ := id cl99_0
  obtain ⟨cl105, Ar105, q105, G105⟩ := id cl99_0
  obtain ⟨T106, X106, e106, st106⟩ := getS X99 hx hZ (host := "") hown (hw _ (List.mem_of_getElem? (i := 49) rfl)) Via.refl rfl (S_OPEN.ext OL99.2) (g := (mkF m 29 #[.val (.ref b97), .val (.ref v99), .val (.int (4 : Int32)), .val (.int (0 : Int32)), .val (.ref b_IOS)] [(.ref b_IOS)])) rfl (hb hby own_d_prog_8_method_6_29)
  obtain ⟨cq107, kq107, q107a, q107b, q107c⟩ := isOf hZ e106 f100
  obtain ⟨_, _, ⟨T107, L107, k107, n107⟩, -, X107, ⟨Lc107, hQ107, l107, y107, z107⟩, st107⟩ := X106.virtualBack hx (y := (⟨"java/util/ArrayList", "add", "(Ljava/lang/Object;)Z"⟩ : MethodName)) (z := (⟨"java/util/ArrayList", "add", "(Ljava/lang/Object;)Z"⟩ : MethodName)) hown (mvT hZ (hw _ (List.mem_of_getElem? (i := 50) rfl))) (mvT hZ (hw _ (List.mem_of_getElem? (i := 51) rfl))) (notFace_of_selects (args := #[]) (mvT hZ (hw _ (List.mem_of_getElem? (i := 53) rfl)))) (mvT hZ (hw _ (List.mem_of_getElem? (i := 53) rfl))) (mvT hZ (hw _ (List.mem_of_getElem? (i := 52) rfl))) (by decide) (backOf (W := 0) (rm_a1g l Z a0 hw [] b97 b_IOS bD kD T99.heap n0 (Nat.le_trans Z0 KP99.1) OL99 f100 f101 f102 f103 gn97 S_D L_D E_IOS neD97) hZ (hw _ (List.mem_of_getElem? (i := 54) rfl)) (hw _ (List.mem_of_getElem? (i := 6) rfl)) (by decide) (by decide)) q107a q107c (g := (mkF m 38 #[.val (.ref b97), .val (.ref v99), .val (.int (4 : Int32)), .val (.int (0 : Int32)), .val (.ref b_IOS)] [(.ref b_IOS), (.ref b97)])) rfl (by rw [hml]; rfl) (Steps.refl _) (argsL := [(.ref b_IOS)]) (rest := []) (lenOf own_pd8 rfl) rfl (by show 2 * 0 + _ ≤ _; exact Nat.le_of_eq rfl) (hb hby own_d_prog_8_method_6_38) (fun _ _ => ⟨rfl, e106, (by decide : 2 + 1 ≤ _), (by decide : 7 + 10 ≤ _)⟩)
  dsimp only [Pt.U, Pt.locs, Pt.cells, Pt.slots] at X107 l107 y107 z107 st107 hQ107
  subst l107 y107 z107
  obtain ⟨d107, kd107, rfl, Nq107, K107, le107, c107_0, c107_1, c107_2, c107_3, c107_4, ov107⟩ := hQ107
  have N107 := Fr.app N99 Nq107
  have ne_b97_d107 : b97 ≠ d107 := own_ne_le f100.lt le107
  have ne_v99_d107 : v99 ≠ d107 := own_ne_le cl99_0.lt le107
  have sz_d107 : h0.size ≤ d107 := Nat.le_trans KP99.1 le107
  have gn_d107 : n0 ≤ d107 := Nat.le_trans Z0 sz_d107
  have f108 : OwnLst Z T107.heap v99 (.object "com/example/bell_tower/belltower/model/DeviceType") cV.cls [.ref b_IOS, .ref b_ANDROID, .ref b_AMAZON, .ref b_OPEN] := cl99_0.keep K107 (by simp [(Ne.symm ne_b97_v99)])
  have OL107 := OL99.keep K107 (fun x hx => by
    simp only [List.mem_cons, List.not_mem_nil, or_false] at hx
    rcases hx with rfl
    · exact gn97)
  have KP107 : Keep h0 T107.heap [] := KP99.trans K107 (fun x hx => by
    simp only [List.mem_cons, List.not_mem_nil, or_false] at hx
    rcases hx with rfl
    · exact Or.inr sz97)
  obtain ⟨cl109, Ar109, q109, G109⟩ := id f108
  obtain ⟨T110, X110, e110, st110⟩ := getS X107 hx hZ (host := "") hown (hw _ (List.mem_of_getElem? (i := 49) rfl)) Via.refl rfl (S_OPEN.ext OL107.2) (g := (mkF m 29 #[.val (.ref b97), .val (.ref v99), .val (.int (4 : Int32)), .val (.int ((0 : Int32) + (1 : Int32))), .val (.ref b_ANDROID)] [(.ref b_ANDROID)])) rfl (hb hby own_d_prog_8_method_6_29)
  obtain ⟨cq111, kq111, q111a, q111b, q111c⟩ := isOf hZ e110 c107_0
  obtain ⟨_, _, ⟨T111, L111, k111, n111⟩, -, X111, ⟨Lc111, hQ111, l111, y111, z111⟩, st111⟩ := X110.virtualBack hx (y := (⟨"java/util/ArrayList", "add", "(Ljava/lang/Object;)Z"⟩ : MethodName)) (z := (⟨"java/util/ArrayList", "add", "(Ljava/lang/Object;)Z"⟩ : MethodName)) hown (mvT hZ (hw _ (List.mem_of_getElem? (i := 50) rfl))) (mvT hZ (hw _ (List.mem_of_getElem? (i := 51) rfl))) (notFace_of_selects (args := #[]) (mvT hZ (hw _ (List.mem_of_getElem? (i := 53) rfl)))) (mvT hZ (hw _ (List.mem_of_getElem? (i := 53) rfl))) (mvT hZ (hw _ (List.mem_of_getElem? (i := 52) rfl))) (by decide) (backOf (W := 0) (rm_a1 l Z a0 hw [] b97 b_ANDROID d107 kd107 ((0 : Int32) + (1 : Int32)) ((0 : Int32) + (1 : Int32)) [.ref b_IOS, .null, .null, .null, .null, .null, .null, .null, .null, .null] T107.heap n0 (Nat.le_trans Z0 KP107.1) OL107 c107_0 c107_1 c107_2 c107_3 gn97 c107_4 ov107 gn_d107 ne_b97_d107 rfl (by decide) (by decide) E_ANDROID) hZ (hw _ (List.mem_of_getElem? (i := 54) rfl)) (hw _ (List.mem_of_getElem? (i := 6) rfl)) (by decide) (by decide)) q111a q111c (g := (mkF m 38 #[.val (.ref b97), .val (.ref v99), .val (.int (4 : Int32)), .val (.int ((0 : Int32) + (1 : Int32))), .val (.ref b_ANDROID)] [(.ref b_ANDROID), (.ref b97)])) rfl (by rw [hml]; rfl) (Steps.refl _) (argsL := [(.ref b_ANDROID)]) (rest := []) (lenOf own_pd8 rfl) rfl (by show 2 * 0 + _ ≤ _; exact Nat.le_of_eq rfl) (hb hby own_d_prog_8_method_6_38) (fun _ _ => ⟨rfl, e110, (by decide : 3 + 0 ≤ _), (by decide : 17 + 0 ≤ _)⟩)
  dsimp only [Pt.U, Pt.locs, Pt.cells, Pt.slots] at X111 l111 y111 z111 st111 hQ111
  subst l111 y111 z111
  obtain ⟨rfl, Nq111, K111, c111_0, c111_1, c111_2, c111_3, c111_4⟩ := hQ111
  have N111 := Fr.app N107 Nq111
  have f112 : OwnLst Z T111.heap v99 (.object "com/example/bell_tower/belltower/model/DeviceType") cV.cls [.ref b_IOS, .ref b_ANDROID, .ref b_AMAZON, .ref b_OPEN] := f108.keep K111 (by simp [(Ne.symm ne_b97_v99), ne_v99_d107])
  have OL111 := OL107.keep K111 (fun x hx => by
    simp only [List.mem_cons, List.not_mem_nil, or_false] at hx
    rcases hx with rfl | rfl
    · exact gn97
    · exact gn_d107)
  have KP111 : Keep h0 T111.heap [] := KP107.trans K111 (fun x hx => by
    simp only [List.mem_cons, List.not_mem_nil, or_false] at hx
    rcases hx with rfl | rfl
    · exact Or.inr sz97
    · exact Or.inr sz_d107)
  obtain ⟨cl113, Ar113, q113, G113⟩ := id f112
  obtain ⟨T114, X114, e114, st114⟩ := getS X111 hx hZ (host := "") hown (hw _ (List.mem_of_getElem? (i := 49) rfl)) Via.refl rfl (S_OPEN.ext OL111.2) (g := (mkF m 29 #[.val (.ref b97), .val (.ref v99), .val (.int (4 : Int32)), .val (.int (((0 : Int32) + (1 : Int32)) + (1 : Int32))), .val (.ref b_AMAZON)] [(.ref b_AMAZON)])) rfl (hb hby own_d_prog_8_method_6_29)
  obtain ⟨cq115, kq115, q115a, q115b, q115c⟩ := isOf hZ e114 c111_0
  obtain ⟨_, _, ⟨T115, L115, k115, n115⟩, -, X115, ⟨Lc115, hQ115, l115, y115, z115⟩, st115⟩ := X114.virtualBack hx (y := (⟨"java/util/ArrayList", "add", "(Ljava/lang/Object;)Z"⟩ : MethodName)) (z := (⟨"java/util/ArrayList", "add", "(Ljava/lang/Object;)Z"⟩ : MethodName)) hown (mvT hZ (hw _ (List.mem_of_getElem? (i := 50) rfl))) (mvT hZ (hw _ (List.mem_of_getElem? (i := 51) rfl))) (notFace_of_selects (args := #[]) (mvT hZ (hw _ (List.mem_of_getElem? (i := 53) rfl)))) (mvT hZ (hw _ (List.mem_of_getElem? (i := 53) rfl))) (mvT hZ (hw _ (List.mem_of_getElem? (i := 52) rfl))) (by decide) (backOf (W := 0) (rm_a1 l Z a0 hw [] b97 b_AMAZON d107 kd107 (((0 : Int32) + (1 : Int32)) + (1 : Int32)) (((0 : Int32) + (1 : Int32)) + (1 : Int32)) [.ref b_IOS, .ref b_ANDROID, .null, .null, .null, .null, .null, .null, .null, .null] T111.heap n0 (Nat.le_trans Z0 KP111.1) OL111 c111_0 c111_1 c111_2 c111_3 gn97 c111_4 ov107 gn_d107 ne_b97_d107 rfl (by decide) (by decide) E_AMAZON) hZ (hw _ (List.mem_of_getElem? (i := 54) rfl)) (hw _ (List.mem_of_getElem? (i := 6) rfl)) (by decide) (by decide)) q115a q115c (g := (mkF m 38 #[.val (.ref b97), .val (.ref v99), .val (.int (4 : Int32)), .val (.int (((0 : Int32) + (1 : Int32)) + (1 : Int32))), .val (.ref b_AMAZON)] [(.ref b_AMAZON), (.ref b97)])) rfl (by rw [hml]; rfl) (Steps.refl _) (argsL := [(.ref b_AMAZON)]) (rest := []) (lenOf own_pd8 rfl) rfl (by show 2 * 0 + _ ≤ _; exact Nat.le_of_eq rfl) (hb hby own_d_prog_8_method_6_38) (fun _ _ => ⟨rfl, e114, (by decide : 3 + 0 ≤ _), (by decide : 17 + 0 ≤ _)⟩)
  dsimp only [Pt.U, Pt.locs, Pt.cells, Pt.slots] at X115 l115 y115 z115 st115 hQ115
  subst l115 y115 z115
  obtain ⟨rfl, Nq115, K115, c115_0, c115_1, c115_2, c115_3, c115_4⟩ := hQ115
  have N115 := Fr.app N111 Nq115
  have f116 : OwnLst Z T115.heap v99 (.object "com/example/bell_tower/belltower/model/DeviceType") cV.cls [.ref b_IOS, .ref b_ANDROID, .ref b_AMAZON, .ref b_OPEN] := f112.keep K115 (by simp [(Ne.symm ne_b97_v99), ne_v99_d107])
  have OL115 := OL111.keep K115 (fun x hx => by
    simp only [List.mem_cons, List.not_mem_nil, or_false] at hx
    rcases hx with rfl | rfl
    · exact gn97
    · exact gn_d107)
  have KP115 : Keep h0 T115.heap [] := KP111.trans K115 (fun x hx => by
    simp only [List.mem_cons, List.not_mem_nil, or_false] at hx
    rcases hx with rfl | rfl
    · exact Or.inr sz97
    · exact Or.inr sz_d107)
  obtain ⟨cl117, Ar117, q117, G117⟩ := id f116
  obtain ⟨T118, X118, e118, st118⟩ := getS X115 hx hZ (host := "") hown (hw _ (List.mem_of_getElem? (i := 49) rfl)) Via.refl rfl (S_OPEN.ext OL115.2) (g := (mkF m 29 #[.val (.ref b97), .val (.ref v99), .val (.int (4 : Int32)), .val (.int ((((0 : Int32) + (1 : Int32)) + (1 : Int32)) + (1 : Int32))), .val (.ref b_OPEN)] [(.ref b_OPEN)])) rfl (hb hby own_d_prog_8_method_6_29)
  obtain ⟨fs, hr, hrun, hended, hW, hsame⟩ := X118.leave (v := some (.ref b97)) (fun h => by rw [Bd.returns] at h; cases h)
  refine ⟨_, _, pre0 _ ?_, hrun, hended, _, _, rfl, ?_, ⟨_, rfl⟩, hW, hsame.mono (by decide) (by decide)⟩
  · show Steps p.tables e below (s₁.setTop (mkF m 0 #[.unset, .unset, .unset, .unset, .unset] [])) _
    refine st97 _ ?_
    show Steps p.tables e below (T97.setTop (mkF m 3 #[.unset, .unset, .unset, .unset, .unset] [(.ref b97)])) _
    refine XS.dup X97.here hx rfl (hb hby own_d_prog_8_method_6_3) rfl rfl ?_
    show Steps p.tables e below (T97.setTop (mkF m 4 #[.unset, .unset, .unset, .unset, .unset] [(.ref b97), (.ref b97)])) _
    refine st98.trans ?_
    show Steps p.tables e below (T98.setTop (mkF m 7 #[.unset, .unset, .unset, .unset, .unset] [(.ref b97)])) _
    refine XS.astoreN X98.here hx rfl (hb hby own_d_prog_8_method_6_7) rfl rfl (l' := #[.val (.ref b97), .unset, .unset, .unset, .unset]) rfl ?_
    show Steps p.tables e below (T98.setTop (mkF m 8 #[.val (.ref b97), .unset, .unset, .unset, .unset] [])) _
    refine st99 _ ?_
    show Steps p.tables e below (T99.setTop (mkF m 11 #[.val (.ref b97), .unset, .unset, .unset, .unset] [(.ref v99)])) _
    refine XS.astoreN X99.here hx rfl (hb hby own_d_prog_8_method_6_11) rfl rfl (l' := #[.val (.ref b97), .val (.ref v99), .unset, .unset, .unset]) rfl ?_
    show Steps p.tables e below (T99.setTop (mkF m 12 #[.val (.ref b97), .val (.ref v99), .unset, .unset, .unset] [])) _
    refine XS.aloadN X99.here hx rfl (hb hby own_d_prog_8_method_6_12) rfl rfl ?_
    show Steps p.tables e below (T99.setTop (mkF m 13 #[.val (.ref b97), .val (.ref v99), .unset, .unset, .unset] [(.ref v99)])) _
    refine X99.arraylength hx (cell := cl104) Ar104.1 (State.isArrayOf_alike hZ.alike Ar104.2.1) (g := (mkF m 13 #[.val (.ref b97), .val (.ref v99), .unset, .unset, .unset] [(.ref v99)])) rfl (rest := []) rfl (hb hby own_d_prog_8_method_6_13) _ ?_
    rw [own_len (z := (4 : Int32)) G104 rfl]
    show Steps p.tables e below (T99.setTop (mkF m 14 #[.val (.ref b97), .val (.ref v99), .unset, .unset, .unset] [(.int (4 : Int32))])) _
    refine XS.istoreN X99.here hx rfl (hb hby own_d_prog_8_method_6_14) rfl (l' := #[.val (.ref b97), .val (.ref v99), .val (.int (4 : Int32)), .unset, .unset]) rfl ?_
    show Steps p.tables e below (T99.setTop (mkF m 15 #[.val (.ref b97), .val (.ref v99), .val (.int (4 : Int32)), .unset, .unset] [])) _
    refine XS.iconst X99.here hx rfl (hb hby own_d_prog_8_method_6_15) ?_
    show Steps p.tables e below (T99.setTop (mkF m 16 #[.val (.ref b97), .val (.ref v99), .val (.int (4 : Int32)), .unset, .unset] [(.int (0 : Int32))])) _
    refine XS.istoreN X99.here hx rfl (hb hby own_d_prog_8_method_6_16) rfl (l' := #[.val (.ref b97), .val (.ref v99), .val (.int (4 : Int32)), .val (.int (0 : Int32)), .unset]) rfl ?_
    show Steps p.tables e below (T99.setTop (mkF m 17 #[.val (.ref b97), .val (.ref v99), .val (.int (4 : Int32)), .val (.int (0 : Int32)), .unset] [])) _
    refine XS.iloadN X99.here hx rfl (hb hby own_d_prog_8_method_6_17) rfl ?_
    show Steps p.tables e below (T99.setTop (mkF m 18 #[.val (.ref b97), .val (.ref v99), .val (.int (4 : Int32)), .val (.int (0 : Int32)), .unset] [(.int (0 : Int32))])) _
    refine XS.iloadN X99.here hx rfl (hb hby own_d_prog_8_method_6_18) rfl ?_
    show Steps p.tables e below (T99.setTop (mkF m 19 #[.val (.ref b97), .val (.ref v99), .val (.int (4 : Int32)), .val (.int (0 : Int32)), .unset] [(.int (4 : Int32)), (.int (0 : Int32))])) _
    refine XS.icmpNo X99.here hx rfl (hb hby own_d_prog_8_method_6_19) rfl (tlt (show (0 : Int32) < (4 : Int32) by decide)).2.1 ?_
    show Steps p.tables e below (T99.setTop (mkF m 22 #[.val (.ref b97), .val (.ref v99), .val (.int (4 : Int32)), .val (.int (0 : Int32)), .unset] [])) _
    refine XS.aloadN X99.here hx rfl (hb hby own_d_prog_8_method_6_22) rfl rfl ?_
    show Steps p.tables e below (T99.setTop (mkF m 23 #[.val (.ref b97), .val (.ref v99), .val (.int (4 : Int32)), .val (.int (0 : Int32)), .unset] [(.ref v99)])) _
    refine XS.iloadN X99.here hx rfl (hb hby own_d_prog_8_method_6_23) rfl ?_
    show Steps p.tables e below (T99.setTop (mkF m 24 #[.val (.ref b97), .val (.ref v99), .val (.int (4 : Int32)), .val (.int (0 : Int32)), .unset] [(.int (0 : Int32)), (.ref v99)])) _
    refine X99.aaload hx (j := (0 : Int32)) (v := (.ref b_IOS)) Ar105.1 (State.isArrayOf_alike hZ.alike Ar105.2.1) rfl Ar105.2.2 (own_inb G105 4 rfl (show ¬ ((0 : Int32) < 0 ∨ 4 ≤ ((0 : Int32)).toNatClampNeg) by decide)) (own_get G105 rfl) (g := (mkF m 24 #[.val (.ref b97), .val (.ref v99), .val (.int (4 : Int32)), .val (.int (0 : Int32)), .unset] [(.int (0 : Int32)), (.ref v99)])) rfl rfl (hb hby own_d_prog_8_method_6_24) _ ?_
    show Steps p.tables e below (T99.setTop (mkF m 25 #[.val (.ref b97), .val (.ref v99), .val (.int (4 : Int32)), .val (.int (0 : Int32)), .unset] [(.ref b_IOS)])) _
    refine XS.astore X99.here hx rfl (hb hby own_d_prog_8_method_6_25) rfl rfl (l' := #[.val (.ref b97), .val (.ref v99), .val (.int (4 : Int32)), .val (.int (0 : Int32)), .val (.ref b_IOS)]) rfl ?_
    show Steps p.tables e below (T99.setTop (mkF m 27 #[.val (.ref b97), .val (.ref v99), .val (.int (4 : Int32)), .val (.int (0 : Int32)), .val (.ref b_IOS)] [])) _
    refine XS.aload X99.here hx rfl (hb hby own_d_prog_8_method_6_27) rfl rfl ?_
    show Steps p.tables e below (T99.setTop (mkF m 29 #[.val (.ref b97), .val (.ref v99), .val (.int (4 : Int32)), .val (.int (0 : Int32)), .val (.ref b_IOS)] [(.ref b_IOS)])) _
    refine st106 _ ?_
    show Steps p.tables e below (T106.setTop (mkF m 32 #[.val (.ref b97), .val (.ref v99), .val (.int (4 : Int32)), .val (.int (0 : Int32)), .val (.ref b_IOS)] [(.ref b_OPEN), (.ref b_IOS)])) _
    refine Jvm.RoadKit.acmp (g := (mkF m 32 #[.val (.ref b97), .val (.ref v99), .val (.int (4 : Int32)), .val (.int (0 : Int32)), .val (.ref b_IOS)] [(.ref b_OPEN), (.ref b_IOS)])) X106 hx rfl rfl rfl (pc0 := 32) (pc' := 35) (same := false) rfl (hb hby own_d_prog_8_method_6_32) rfl (decide_eq_false (own_ref_ne ne_IOS)) (by decide) (by decide) ?_
    show Steps p.tables e below (T106.setTop (mkF m 35 #[.val (.ref b97), .val (.ref v99), .val (.int (4 : Int32)), .val (.int (0 : Int32)), .val (.ref b_IOS)] [])) _
    refine XS.aloadN X106.here hx rfl (hb hby own_d_prog_8_method_6_35) rfl rfl ?_
    show Steps p.tables e below (T106.setTop (mkF m 36 #[.val (.ref b97), .val (.ref v99), .val (.int (4 : Int32)), .val (.int (0 : Int32)), .val (.ref b_IOS)] [(.ref b97)])) _
    refine XS.aload X106.here hx rfl (hb hby own_d_prog_8_method_6_36) rfl rfl ?_
    show Steps p.tables e below (T106.setTop (mkF m 38 #[.val (.ref b97), .val (.ref v99), .val (.int (4 : Int32)), .val (.int (0 : Int32)), .val (.ref b_IOS)] [(.ref b_IOS), (.ref b97)])) _
    refine st107.trans ?_
    show Steps p.tables e below (T107.setTop (mkF m 41 #[.val (.ref b97), .val (.ref v99), .val (.int (4 : Int32)), .val (.int (0 : Int32)), .val (.ref b_IOS)] [(.int (1 : Int32))])) _
    refine XS.pop X107.here hx rfl (hb hby own_d_prog_8_method_6_41) rfl rfl ?_
    show Steps p.tables e below (T107.setTop (mkF m 42 #[.val (.ref b97), .val (.ref v99), .val (.int (4 : Int32)), .val (.int (0 : Int32)), .val (.ref b_IOS)] [])) _
    refine XS.iinc X107.here hx rfl (hb hby own_d_prog_8_method_6_42) rfl (l' := #[.val (.ref b97), .val (.ref v99), .val (.int (4 : Int32)), .val (.int ((0 : Int32) + (1 : Int32))), .val (.ref b_IOS)]) rfl ?_
    show Steps p.tables e below (T107.setTop (mkF m 45 #[.val (.ref b97), .val (.ref v99), .val (.int (4 : Int32)), .val (.int ((0 : Int32) + (1 : Int32))), .val (.ref b_IOS)] [])) _
    refine XS.goto X107.here hx rfl (pc0 := 45) (pc' := 17) rfl (hb hby own_d_prog_8_method_6_45) (by decide) (by decide) ?_
    show Steps p.tables e below (T107.setTop (mkF m 17 #[.val (.ref b97), .val (.ref v99), .val (.int (4 : Int32)), .val (.int ((0 : Int32) + (1 : Int32))), .val (.ref b_IOS)] [])) _
    refine XS.iloadN X107.here hx rfl (hb hby own_d_prog_8_method_6_17) rfl ?_
    show Steps p.tables e below (T107.setTop (mkF m 18 #[.val (.ref b97), .val (.ref v99), .val (.int (4 : Int32)), .val (.int ((0 : Int32) + (1 : Int32))), .val (.ref b_IOS)] [(.int ((0 : Int32) + (1 : Int32)))])) _
    refine XS.iloadN X107.here hx rfl (hb hby own_d_prog_8_method_6_18) rfl ?_
    show Steps p.tables e below (T107.setTop (mkF m 19 #[.val (.ref b97), .val (.ref v99), .val (.int (4 : Int32)), .val (.int ((0 : Int32) + (1 : Int32))), .val (.ref b_IOS)] [(.int (4 : Int32)), (.int ((0 : Int32) + (1 : Int32)))])) _
    refine XS.icmpNo X107.here hx rfl (hb hby own_d_prog_8_method_6_19) rfl (tlt (show ((0 : Int32) + (1 : Int32)) < (4 : Int32) by decide)).2.1 ?_
    show Steps p.tables e below (T107.setTop (mkF m 22 #[.val (.ref b97), .val (.ref v99), .val (.int (4 : Int32)), .val (.int ((0 : Int32) + (1 : Int32))), .val (.ref b_IOS)] [])) _
    refine XS.aloadN X107.here hx rfl (hb hby own_d_prog_8_method_6_22) rfl rfl ?_
    show Steps p.tables e below (T107.setTop (mkF m 23 #[.val (.ref b97), .val (.ref v99), .val (.int (4 : Int32)), .val (.int ((0 : Int32) + (1 : Int32))), .val (.ref b_IOS)] [(.ref v99)])) _
    refine XS.iloadN X107.here hx rfl (hb hby own_d_prog_8_method_6_23) rfl ?_
    show Steps p.tables e below (T107.setTop (mkF m 24 #[.val (.ref b97), .val (.ref v99), .val (.int (4 : Int32)), .val (.int ((0 : Int32) + (1 : Int32))), .val (.ref b_IOS)] [(.int ((0 : Int32) + (1 : Int32))), (.ref v99)])) _
    refine X107.aaload hx (j := ((0 : Int32) + (1 : Int32))) (v := (.ref b_ANDROID)) Ar109.1 (State.isArrayOf_alike hZ.alike Ar109.2.1) rfl Ar109.2.2 (own_inb G109 4 rfl (show ¬ (((0 : Int32) + (1 : Int32)) < 0 ∨ 4 ≤ (((0 : Int32) + (1 : Int32))).toNatClampNeg) by decide)) (own_get G109 rfl) (g := (mkF m 24 #[.val (.ref b97), .val (.ref v99), .val (.int (4 : Int32)), .val (.int ((0 : Int32) + (1 : Int32))), .val (.ref b_IOS)] [(.int ((0 : Int32) + (1 : Int32))), (.ref v99)])) rfl rfl (hb hby own_d_prog_8_method_6_24) _ ?_
    show Steps p.tables e below (T107.setTop (mkF m 25 #[.val (.ref b97), .val (.ref v99), .val (.int (4 : Int32)), .val (.int ((0 : Int32) + (1 : Int32))), .val (.ref b_IOS)] [(.ref b_ANDROID)])) _
    refine XS.astore X107.here hx rfl (hb hby own_d_prog_8_method_6_25) rfl rfl (l' := #[.val (.ref b97), .val (.ref v99), .val (.int (4 : Int32)), .val (.int ((0 : Int32) + (1 : Int32))), .val (.ref b_ANDROID)]) rfl ?_
    show Steps p.tables e below (T107.setTop (mkF m 27 #[.val (.ref b97), .val (.ref v99), .val (.int (4 : Int32)), .val (.int ((0 : Int32) + (1 : Int32))), .val (.ref b_ANDROID)] [])) _
    refine XS.aload X107.here hx rfl (hb hby own_d_prog_8_method_6_27) rfl rfl ?_
    show Steps p.tables e below (T107.setTop (mkF m 29 #[.val (.ref b97), .val (.ref v99), .val (.int (4 : Int32)), .val (.int ((0 : Int32) + (1 : Int32))), .val (.ref b_ANDROID)] [(.ref b_ANDROID)])) _
    refine st110 _ ?_
    show Steps p.tables e below (T110.setTop (mkF m 32 #[.val (.ref b97), .val (.ref v99), .val (.int (4 : Int32)), .val (.int ((0 : Int32) + (1 : Int32))), .val (.ref b_ANDROID)] [(.ref b_OPEN), (.ref b_ANDROID)])) _
    refine Jvm.RoadKit.acmp (g := (mkF m 32 #[.val (.ref b97), .val (.ref v99), .val (.int (4 : Int32)), .val (.int ((0 : Int32) + (1 : Int32))), .val (.ref b_ANDROID)] [(.ref b_OPEN), (.ref b_ANDROID)])) X110 hx rfl rfl rfl (pc0 := 32) (pc' := 35) (same := false) rfl (hb hby own_d_prog_8_method_6_32) rfl (decide_eq_false (own_ref_ne ne_ANDROID)) (by decide) (by decide) ?_
    show Steps p.tables e below (T110.setTop (mkF m 35 #[.val (.ref b97), .val (.ref v99), .val (.int (4 : Int32)), .val (.int ((0 : Int32) + (1 : Int32))), .val (.ref b_ANDROID)] [])) _
    refine XS.aloadN X110.here hx rfl (hb hby own_d_prog_8_method_6_35) rfl rfl ?_
    show Steps p.tables e below (T110.setTop (mkF m 36 #[.val (.ref b97), .val (.ref v99), .val (.int (4 : Int32)), .val (.int ((0 : Int32) + (1 : Int32))), .val (.ref b_ANDROID)] [(.ref b97)])) _
    refine XS.aload X110.here hx rfl (hb hby own_d_prog_8_method_6_36) rfl rfl ?_
    show Steps p.tables e below (T110.setTop (mkF m 38 #[.val (.ref b97), .val (.ref v99), .val (.int (4 : Int32)), .val (.int ((0 : Int32) + (1 : Int32))), .val (.ref b_ANDROID)] [(.ref b_ANDROID), (.ref b97)])) _
    refine st111.trans ?_
    show Steps p.tables e below (T111.setTop (mkF m 41 #[.val (.ref b97), .val (.ref v99), .val (.int (4 : Int32)), .val (.int ((0 : Int32) + (1 : Int32))), .val (.ref b_ANDROID)] [(.int (1 : Int32))])) _
    refine XS.pop X111.here hx rfl (hb hby own_d_prog_8_method_6_41) rfl rfl ?_
    show Steps p.tables e below (T111.setTop (mkF m 42 #[.val (.ref b97), .val (.ref v99), .val (.int (4 : Int32)), .val (.int ((0 : Int32) + (1 : Int32))), .val (.ref b_ANDROID)] [])) _
    refine XS.iinc X111.here hx rfl (hb hby own_d_prog_8_method_6_42) rfl (l' := #[.val (.ref b97), .val (.ref v99), .val (.int (4 : Int32)), .val (.int (((0 : Int32) + (1 : Int32)) + (1 : Int32))), .val (.ref b_ANDROID)]) rfl ?_
    show Steps p.tables e below (T111.setTop (mkF m 45 #[.val (.ref b97), .val (.ref v99), .val (.int (4 : Int32)), .val (.int (((0 : Int32) + (1 : Int32)) + (1 : Int32))), .val (.ref b_ANDROID)] [])) _
    refine XS.goto X111.here hx rfl (pc0 := 45) (pc' := 17) rfl (hb hby own_d_prog_8_method_6_45) (by decide) (by decide) ?_
    show Steps p.tables e below (T111.setTop (mkF m 17 #[.val (.ref b97), .val (.ref v99), .val (.int (4 : Int32)), .val (.int (((0 : Int32) + (1 : Int32)) + (1 : Int32))), .val (.ref b_ANDROID)] [])) _
    refine XS.iloadN X111.here hx rfl (hb hby own_d_prog_8_method_6_17) rfl ?_
    show Steps p.tables e below (T111.setTop (mkF m 18 #[.val (.ref b97), .val (.ref v99), .val (.int (4 : Int32)), .val (.int (((0 : Int32) + (1 : Int32)) + (1 : Int32))), .val (.ref b_ANDROID)] [(.int (((0 : Int32) + (1 : Int32)) + (1 : Int32)))])) _
    refine XS.iloadN X111.here hx rfl (hb hby own_d_prog_8_method_6_18) rfl ?_
    show Steps p.tables e below (T111.setTop (mkF m 19 #[.val (.ref b97), .val (.ref v99), .val (.int (4 : Int32)), .val (.int (((0 : Int32) + (1 : Int32)) + (1 : Int32))), .val (.ref b_ANDROID)] [(.int (4 : Int32)), (.int (((0 : Int32) + (1 : Int32)) + (1 : Int32)))])) _
    refine XS.icmpNo X111.here hx rfl (hb hby own_d_prog_8_method_6_19) rfl (tlt (show (((0 : Int32) + (1 : Int32)) + (1 : Int32)) < (4 : Int32) by decide)).2.1 ?_
    show Steps p.tables e below (T111.setTop (mkF m 22 #[.val (.ref b97), .val (.ref v99), .val (.int (4 : Int32)), .val (.int (((0 : Int32) + (1 : Int32)) + (1 : Int32))), .val (.ref b_ANDROID)] [])) _
    refine XS.aloadN X111.here hx rfl (hb hby own_d_prog_8_method_6_22) rfl rfl ?_
    show Steps p.tables e below (T111.setTop (mkF m 23 #[.val (.ref b97), .val (.ref v99), .val (.int (4 : Int32)), .val (.int (((0 : Int32) + (1 : Int32)) + (1 : Int32))), .val (.ref b_ANDROID)] [(.ref v99)])) _
    refine XS.iloadN X111.here hx rfl (hb hby own_d_prog_8_method_6_23) rfl ?_
    show Steps p.tables e below (T111.setTop (mkF m 24 #[.val (.ref b97), .val (.ref v99), .val (.int (4 : Int32)), .val (.int (((0 : Int32) + (1 : Int32)) + (1 : Int32))), .val (.ref b_ANDROID)] [(.int (((0 : Int32) + (1 : Int32)) + (1 : Int32))), (.ref v99)])) _
    refine X111.aaload hx (j := (((0 : Int32) + (1 : Int32)) + (1 : Int32))) (v := (.ref b_AMAZON)) Ar113.1 (State.isArrayOf_alike hZ.alike Ar113.2.1) rfl Ar113.2.2 (own_inb G113 4 rfl (show ¬ ((((0 : Int32) + (1 : Int32)) + (1 : Int32)) < 0 ∨ 4 ≤ ((((0 : Int32) + (1 : Int32)) + (1 : Int32))).toNatClampNeg) by decide)) (own_get G113 rfl) (g := (mkF m 24 #[.val (.ref b97), .val (.ref v99), .val (.int (4 : Int32)), .val (.int (((0 : Int32) + (1 : Int32)) + (1 : Int32))), .val (.ref b_ANDROID)] [(.int (((0 : Int32) + (1 : Int32)) + (1 : Int32))), (.ref v99)])) rfl rfl (hb hby own_d_prog_8_method_6_24) _ ?_
    show Steps p.tables e below (T111.setTop (mkF m 25 #[.val (.ref b97), .val (.ref v99), .val (.int (4 : Int32)), .val (.int (((0 : Int32) + (1 : Int32)) + (1 : Int32))), .val (.ref b_ANDROID)] [(.ref b_AMAZON)])) _
    refine XS.astore X111.here hx rfl (hb hby own_d_prog_8_method_6_25) rfl rfl (l' := #[.val (.ref b97), .val (.ref v99), .val (.int (4 : Int32)), .val (.int (((0 : Int32) + (1 : Int32)) + (1 : Int32))), .val (.ref b_AMAZON)]) rfl ?_
    show Steps p.tables e below (T111.setTop (mkF m 27 #[.val (.ref b97), .val (.ref v99), .val (.int (4 : Int32)), .val (.int (((0 : Int32) + (1 : Int32)) + (1 : Int32))), .val (.ref b_AMAZON)] [])) _
    refine XS.aload X111.here hx rfl (hb hby own_d_prog_8_method_6_27) rfl rfl ?_
    show Steps p.tables e below (T111.setTop (mkF m 29 #[.val (.ref b97), .val (.ref v99), .val (.int (4 : Int32)), .val (.int (((0 : Int32) + (1 : Int32)) + (1 : Int32))), .val (.ref b_AMAZON)] [(.ref b_AMAZON)])) _
    refine st114 _ ?_
    show Steps p.tables e below (T114.setTop (mkF m 32 #[.val (.ref b97), .val (.ref v99), .val (.int (4 : Int32)), .val (.int (((0 : Int32) + (1 : Int32)) + (1 : Int32))), .val (.ref b_AMAZON)] [(.ref b_OPEN), (.ref b_AMAZON)])) _
    refine Jvm.RoadKit.acmp (g := (mkF m 32 #[.val (.ref b97), .val (.ref v99), .val (.int (4 : Int32)), .val (.int (((0 : Int32) + (1 : Int32)) + (1 : Int32))), .val (.ref b_AMAZON)] [(.ref b_OPEN), (.ref b_AMAZON)])) X114 hx rfl rfl rfl (pc0 := 32) (pc' := 35) (same := false) rfl (hb hby own_d_prog_8_method_6_32) rfl (decide_eq_false (own_ref_ne ne_AMAZON)) (by decide) (by decide) ?_
    show Steps p.tables e below (T114.setTop (mkF m 35 #[.val (.ref b97), .val (.ref v99), .val (.int (4 : Int32)), .val (.int (((0 : Int32) + (1 : Int32)) + (1 : Int32))), .val (.ref b_AMAZON)] [])) _
    refine XS.aloadN X114.here hx rfl (hb hby own_d_prog_8_method_6_35) rfl rfl ?_
    show Steps p.tables e below (T114.setTop (mkF m 36 #[.val (.ref b97), .val (.ref v99), .val (.int (4 : Int32)), .val (.int (((0 : Int32) + (1 : Int32)) + (1 : Int32))), .val (.ref b_AMAZON)] [(.ref b97)])) _
    refine XS.aload X114.here hx rfl (hb hby own_d_prog_8_method_6_36) rfl rfl ?_
    show Steps p.tables e below (T114.setTop (mkF m 38 #[.val (.ref b97), .val (.ref v99), .val (.int (4 : Int32)), .val (.int (((0 : Int32) + (1 : Int32)) + (1 : Int32))), .val (.ref b_AMAZON)] [(.ref b_AMAZON), (.ref b97)])) _
    refine st115.trans ?_
    show Steps p.tables e below (T115.setTop (mkF m 41 #[.val (.ref b97), .val (.ref v99), .val (.int (4 : Int32)), .val (.int (((0 : Int32) + (1 : Int32)) + (1 : Int32))), .val (.ref b_AMAZON)] [(.int (1 : Int32))])) _
    refine XS.pop X115.here hx rfl (hb hby own_d_prog_8_method_6_41) rfl rfl ?_
    show Steps p.tables e below (T115.setTop (mkF m 42 #[.val (.ref b97), .val (.ref v99), .val (.int (4 : Int32)), .val (.int (((0 : Int32) + (1 : Int32)) + (1 : Int32))), .val (.ref b_AMAZON)] [])) _
    refine XS.iinc X115.here hx rfl (hb hby own_d_prog_8_method_6_42) rfl (l' := #[.val (.ref b97), .val (.ref v99), .val (.int (4 : Int32)), .val (.int ((((0 : Int32) + (1 : Int32)) + (1 : Int32)) + (1 : Int32))), .val (.ref b_AMAZON)]) rfl ?_
    show Steps p.tables e below (T115.setTop (mkF m 45 #[.val (.ref b97), .val (.ref v99), .val (.int (4 : Int32)), .val (.int ((((0 : Int32) + (1 : Int32)) + (1 : Int32)) + (1 : Int32))), .val (.ref b_AMAZON)] [])) _
    refine XS.goto X115.here hx rfl (pc0 := 45) (pc' := 17) rfl (hb hby own_d_prog_8_method_6_45) (by decide) (by decide) ?_
    show Steps p.tables e below (T115.setTop (mkF m 17 #[.val (.ref b97), .val (.ref v99), .val (.int (4 : Int32)), .val (.int ((((0 : Int32) + (1 : Int32)) + (1 : Int32)) + (1 : Int32))), .val (.ref b_AMAZON)] [])) _
    refine XS.iloadN X115.here hx rfl (hb hby own_d_prog_8_method_6_17) rfl ?_
    show Steps p.tables e below (T115.setTop (mkF m 18 #[.val (.ref b97), .val (.ref v99), .val (.int (4 : Int32)), .val (.int ((((0 : Int32) + (1 : Int32)) + (1 : Int32)) + (1 : Int32))), .val (.ref b_AMAZON)] [(.int ((((0 : Int32) + (1 : Int32)) + (1 : Int32)) + (1 : Int32)))])) _
    refine XS.iloadN X115.here hx rfl (hb hby own_d_prog_8_method_6_18) rfl ?_
    show Steps p.tables e below (T115.setTop (mkF m 19 #[.val (.ref b97), .val (.ref v99), .val (.int (4 : Int32)), .val (.int ((((0 : Int32) + (1 : Int32)) + (1 : Int32)) + (1 : Int32))), .val (.ref b_AMAZON)] [(.int (4 : Int32)), (.int ((((0 : Int32) + (1 : Int32)) + (1 : Int32)) + (1 : Int32)))])) _
    refine XS.icmpNo X115.here hx rfl (hb hby own_d_prog_8_method_6_19) rfl (tlt (show ((((0 : Int32) + (1 : Int32)) + (1 : Int32)) + (1 : Int32)) < (4 : Int32) by decide)).2.1 ?_
    show Steps p.tables e below (T115.setTop (mkF m 22 #[.val (.ref b97), .val (.ref v99), .val (.int (4 : Int32)), .val (.int ((((0 : Int32) + (1 : Int32)) + (1 : Int32)) + (1 : Int32))), .val (.ref b_AMAZON)] [])) _
    refine XS.aloadN X115.here hx rfl (hb hby own_d_prog_8_method_6_22) rfl rfl ?_
    show Steps p.tables e below (T115.setTop (mkF m 23 #[.val (.ref b97), .val (.ref v99), .val (.int (4 : Int32)), .val (.int ((((0 : Int32) + (1 : Int32)) + (1 : Int32)) + (1 : Int32))), .val (.ref b_AMAZON)] [(.ref v99)])) _
    refine XS.iloadN X115.here hx rfl (hb hby own_d_prog_8_method_6_23) rfl ?_
    show Steps p.tables e below (T115.setTop (mkF m 24 #[.val (.ref b97), .val (.ref v99), .val (.int (4 : Int32)), .val (.int ((((0 : Int32) + (1 : Int32)) + (1 : Int32)) + (1 : Int32))), .val (.ref b_AMAZON)] [(.int ((((0 : Int32) + (1 : Int32)) + (1 : Int32)) + (1 : Int32))), (.ref v99)])) _
    refine X115.aaload hx (j := ((((0 : Int32) + (1 : Int32)) + (1 : Int32)) + (1 : Int32))) (v := (.ref b_OPEN)) Ar117.1 (State.isArrayOf_alike hZ.alike Ar117.2.1) rfl Ar117.2.2 (own_inb G117 4 rfl (show ¬ (((((0 : Int32) + (1 : Int32)) + (1 : Int32)) + (1 : Int32)) < 0 ∨ 4 ≤ (((((0 : Int32) + (1 : Int32)) + (1 : Int32)) + (1 : Int32))).toNatClampNeg) by decide)) (own_get G117 rfl) (g := (mkF m 24 #[.val (.ref b97), .val (.ref v99), .val (.int (4 : Int32)), .val (.int ((((0 : Int32) + (1 : Int32)) + (1 : Int32)) + (1 : Int32))), .val (.ref b_AMAZON)] [(.int ((((0 : Int32) + (1 : Int32)) + (1 : Int32)) + (1 : Int32))), (.ref v99)])) rfl rfl (hb hby own_d_prog_8_method_6_24) _ ?_
    show Steps p.tables e below (T115.setTop (mkF m 25 #[.val (.ref b97), .val (.ref v99), .val (.int (4 : Int32)), .val (.int ((((0 : Int32) + (1 : Int32)) + (1 : Int32)) + (1 : Int32))), .val (.ref b_AMAZON)] [(.ref b_OPEN)])) _
    refine XS.astore X115.here hx rfl (hb hby own_d_prog_8_method_6_25) rfl rfl (l' := #[.val (.ref b97), .val (.ref v99), .val (.int (4 : Int32)), .val (.int ((((0 : Int32) + (1 : Int32)) + (1 : Int32)) + (1 : Int32))), .val (.ref b_OPEN)]) rfl ?_
    show Steps p.tables e below (T115.setTop (mkF m 27 #[.val (.ref b97), .val (.ref v99), .val (.int (4 : Int32)), .val (.int ((((0 : Int32) + (1 : Int32)) + (1 : Int32)) + (1 : Int32))), .val (.ref b_OPEN)] [])) _
    refine XS.aload X115.here hx rfl (hb hby own_d_prog_8_method_6_27) rfl rfl ?_
    show Steps p.tables e below (T115.setTop (mkF m 29 #[.val (.ref b97), .val (.ref v99), .val (.int (4 : Int32)), .val (.int ((((0 : Int32) + (1 : Int32)) + (1 : Int32)) + (1 : Int32))), .val (.ref b_OPEN)] [(.ref b_OPEN)])) _
    refine st118 _ ?_
    show Steps p.tables e below (T118.setTop (mkF m 32 #[.val (.ref b97), .val (.ref v99), .val (.int (4 : Int32)), .val (.int ((((0 : Int32) + (1 : Int32)) + (1 : Int32)) + (1 : Int32))), .val (.ref b_OPEN)] [(.ref b_OPEN), (.ref b_OPEN)])) _
    refine Jvm.RoadKit.acmp (g := (mkF m 32 #[.val (.ref b97), .val (.ref v99), .val (.int (4 : Int32)), .val (.int ((((0 : Int32) + (1 : Int32)) + (1 : Int32)) + (1 : Int32))), .val (.ref b_OPEN)] [(.ref b_OPEN), (.ref b_OPEN)])) X118 hx rfl rfl rfl (pc0 := 32) (pc' := 42) (same := true) rfl (hb hby own_d_prog_8_method_6_32) rfl (decide_eq_true rfl) (by decide) (by decide) ?_
    show Steps p.tables e below (T118.setTop (mkF m 42 #[.val (.ref b97), .val (.ref v99), .val (.int (4 : Int32)), .val (.int ((((0 : Int32) + (1 : Int32)) + (1 : Int32)) + (1 : Int32))), .val (.ref b_OPEN)] [])) _
    refine XS.iinc X118.here hx rfl (hb hby own_d_prog_8_method_6_42) rfl (l' := #[.val (.ref b97), .val (.ref v99), .val (.int (4 : Int32)), .val (.int (((((0 : Int32) + (1 : Int32)) + (1 : Int32)) + (1 : Int32)) + (1 : Int32))), .val (.ref b_OPEN)]) rfl ?_
    show Steps p.tables e below (T118.setTop (mkF m 45 #[.val (.ref b97), .val (.ref v99), .val (.int (4 : Int32)), .val (.int (((((0 : Int32) + (1 : Int32)) + (1 : Int32)) + (1 : Int32)) + (1 : Int32))), .val (.ref b_OPEN)] [])) _
    refine XS.goto X118.here hx rfl (pc0 := 45) (pc' := 17) rfl (hb hby own_d_prog_8_method_6_45) (by decide) (by decide) ?_
    show Steps p.tables e below (T118.setTop (mkF m 17 #[.val (.ref b97), .val (.ref v99), .val (.int (4 : Int32)), .val (.int (((((0 : Int32) + (1 : Int32)) + (1 : Int32)) + (1 : Int32)) + (1 : Int32))), .val (.ref b_OPEN)] [])) _
    refine XS.iloadN X118.here hx rfl (hb hby own_d_prog_8_method_6_17) rfl ?_
    show Steps p.tables e below (T118.setTop (mkF m 18 #[.val (.ref b97), .val (.ref v99), .val (.int (4 : Int32)), .val (.int (((((0 : Int32) + (1 : Int32)) + (1 : Int32)) + (1 : Int32)) + (1 : Int32))), .val (.ref b_OPEN)] [(.int (((((0 : Int32) + (1 : Int32)) + (1 : Int32)) + (1 : Int32)) + (1 : Int32)))])) _
    refine XS.iloadN X118.here hx rfl (hb hby own_d_prog_8_method_6_18) rfl ?_
    show Steps p.tables e below (T118.setTop (mkF m 19 #[.val (.ref b97), .val (.ref v99), .val (.int (4 : Int32)), .val (.int (((((0 : Int32) + (1 : Int32)) + (1 : Int32)) + (1 : Int32)) + (1 : Int32))), .val (.ref b_OPEN)] [(.int (4 : Int32)), (.int (((((0 : Int32) + (1 : Int32)) + (1 : Int32)) + (1 : Int32)) + (1 : Int32)))])) _
    refine XS.icmpYes X118.here hx rfl (pc0 := 19) (pc' := 48) rfl (hb hby own_d_prog_8_method_6_19) rfl (flt (show ¬ ((((((0 : Int32) + (1 : Int32)) + (1 : Int32)) + (1 : Int32)) + (1 : Int32)) < (4 : Int32)) by decide)).2.1 (by decide) (by decide) ?_
    show Steps p.tables e below (T118.setTop (mkF m 48 #[.val (.ref b97), .val (.ref v99), .val (.int (4 : Int32)), .val (.int (((((0 : Int32) + (1 : Int32)) + (1 : Int32)) + (1 : Int32)) + (1 : Int32))), .val (.ref b_OPEN)] [])) _
    refine XS.aloadN X118.here hx rfl (hb hby own_d_prog_8_method_6_48) rfl rfl ?_
    show Steps p.tables e below (T118.setTop (mkF m 49 #[.val (.ref b97), .val (.ref v99), .val (.int (4 : Int32)), .val (.int (((((0 : Int32) + (1 : Int32)) + (1 : Int32)) + (1 : Int32)) + (1 : Int32))), .val (.ref b_OPEN)] [(.ref b97)])) _
    exact own_retA X118 hx (by first | rfl | decide) rfl Bd.returns (hb hby own_d_prog_8_method_6_49) hr
  · show rm_pa_Q Z aV cV bD kD b_IOS b_ANDROID b_AMAZON b_OPEN h0 n0 _ T118.heap _
    rw [e118]
    exact ⟨b97, d107, kd107, rfl, N115, KP115, c115_0, c115_2, c115_3, c115_4⟩
theorem rm_law_ef (m : MethodId) (x0 : Int32) : entryFrame m #[(.int x0)] maxLocals = mkF m 0 #[.val (.int x0), .unset, .unset, .unset] [] := by first | (simp [entryFrame, mkF, argsToLocals, Value.category, maxLocals]; done) | rfl
def rm_law_Q (Z : State) (p0 : Int32) (aV : Addr) (cV : Cell) (bD : Addr) (kD : ClassId) (b_IOS : Addr) (b_ANDROID : Addr) (b_AMAZON : Addr) (b_OPEN : Addr) (h0 : Heap) (n0 : Nat) (v : Option Value) (h : Heap) (L : List Loc) : Prop := v = some (.int (1 : Int32)) ∧ Fr n0 L
set_option maxRecDepth 65536 in
set_option maxHeartbeats 40000000 in
theorem rm_law (l : Launch) (Z : State) (a0 : Array Value) (hw : ∀ d ∈ tables_1, d.before a0 Z = true) (ws : List Jvm.Cond) (p0 : Int32) (aV : Addr) (cV : Cell) (bD : Addr) (kD : ClassId) (b_IOS : Addr) (b_ANDROID : Addr) (b_AMAZON : Addr) (b_OPEN : Addr) (h0 : Heap) (n0 : Nat) (Z0 : n0 ≤ h0.size) (OL : Old Z n0 h0) (S_V : Sta Z Z.heap "com/example/bell_tower/belltower/model/DeviceType" "$VALUES" "[Lcom/example/bell_tower/belltower/model/DeviceType;" (.ref aV)) (A_V : Arr Z Z.heap aV cV (.object "com/example/bell_tower/belltower/model/DeviceType")) (E_V : Exa Z Z.heap aV "[Lcom/example/bell_tower/belltower/model/DeviceType;") (FC_V : FitC Z cV) (L_V : cV.slots.toList = [.ref b_IOS, .ref b_ANDROID, .ref b_AMAZON, .ref b_OPEN]) (S_D : Sta Z Z.heap "java/util/ArrayList" "DEFAULTCAPACITY_EMPTY_ELEMENTDATA" "[Ljava/lang/Object;" (.ref bD)) (L_D : OwnLst Z Z.heap bD (.object "java/lang/Object") kD []) (S_IOS : Sta Z Z.heap "com/example/bell_tower/belltower/model/DeviceType" "IOS" "Lcom/example/bell_tower/belltower/model/DeviceType;" (.ref b_IOS)) (E_IOS : Exa Z Z.heap b_IOS "com/example/bell_tower/belltower/model/DeviceType") (S_ANDROID : Sta Z Z.heap "com/example/bell_tower/belltower/model/DeviceType" "ANDROID" "Lcom/example/bell_tower/belltower/model/DeviceType;" (.ref b_ANDROID)) (E_ANDROID : Exa Z Z.heap b_ANDROID "com/example/bell_tower/belltower/model/DeviceType") (S_AMAZON : Sta Z Z.heap "com/example/bell_tower/belltower/model/DeviceType" "AMAZON" "Lcom/example/bell_tower/belltower/model/DeviceType;" (.ref b_AMAZON)) (E_AMAZON : Exa Z Z.heap b_AMAZON "com/example/bell_tower/belltower/model/DeviceType") (S_OPEN : Sta Z Z.heap "com/example/bell_tower/belltower/model/DeviceType" "OPEN" "Lcom/example/bell_tower/belltower/model/DeviceType;" (.ref b_OPEN)) (E_OPEN : Exa Z Z.heap b_OPEN "com/example/bell_tower/belltower/model/DeviceType") (F_IOS_ordinal : Fld Z Z.heap b_IOS "java/lang/Enum" "ordinal" "I" (.int (0 : Int32))) (F_OPEN_ordinal : Fld Z Z.heap b_OPEN "java/lang/Enum" "ordinal" "I" (.int (3 : Int32))) (F_ANDROID_ordinal : Fld Z Z.heap b_ANDROID "java/lang/Enum" "ordinal" "I" (.int (1 : Int32))) (F_AMAZON_ordinal : Fld Z Z.heap b_AMAZON "java/lang/Enum" "ordinal" "I" (.int (2 : Int32))) :
    MetFree l x (head1 (Jvm.Cond.code x code maxLocals ret :: ws) room_1) (fun a₀ U₀ => a₀ = #[(.int p0)] ∧ Z.Warmed39 U₀.vm ∧ U₀.heap = h0) (fun _ _ _ _ _ => True) (fun _ U₀ o₀ U₁ => ∃ v₀ L₀, o₀ = .returned v₀ ∧ rm_law_Q Z p0 aV cV bD kD b_IOS b_ANDROID b_AMAZON b_OPEN h0 n0 v₀ U₁.heap L₀ ∧ FrameEnd U₀ o₀ U₁ L₀ room_1.cells room_1.slots) := by
  refine MetFree.of_bodySF (plainFor_of_name own_pn6) hisR ?_
  intro p e s m args below meth c s₁ Bd hml0 hP hK
  obtain ⟨rfl, hZ, hh⟩ := hP
  have hx := Bd.exec
  have hby := Bd.bytes
  have hml : c.maxLocals = 4 := hml0
  have hown : s.vm.findClass "com/example/bell_tower/belltower/model/DeviceTypePushAddressedPinLaw" = some m.cls := findClass_of_methodNamed Bd.named
  have hnm := (name_of_methodNamed Bd.named Bd.method).1
  have X0 : Stand p l e room_1 s m #[(.int p0)] below meth c s₁ [] 0 0 := Stand.of_body Bd
  have e0 : s₁.heap = h0 := by rw [← hh, Bd.state]; rfl
  have N0 := Fr.nil n0
  have pre0 : ∀ t, Steps p.tables e below (s₁.setTop (mkF m 0 #[.val (.int p0), .unset, .unset, .unset] [])) t → Steps p.tables e below (s₁.setTop (entryFrame m #[(.int p0)] maxLocals)) t := fun t kk₀ => castTop (rm_law_ef m p0) kk₀
  obtain ⟨K, hK⟩ : ∃ K, ((p0 &&& (2147483647 : Int32)) % (3 : Int32)) = K := ⟨_, rfl⟩
  have hr3 := own_mod p0 (3 : Int32) 3 (by decide) (by decide)
  rw [hK] at hr3
  have hK3 := own_three hr3.1 hr3.2
  obtain ⟨M, hM⟩ : ∃ (M : Addr), (K = (0 : Int32) ∧ b_IOS = M) ∨ (K = (1 : Int32) ∧ b_ANDROID = M) ∨ (K = (2 : Int32) ∧ b_AMAZON = M) := by
    rcases hK3 with q | q | q
    · exact ⟨_, Or.inl (⟨q, rfl⟩)⟩
    · exact ⟨_, Or.inr (Or.inl (⟨q, rfl⟩))⟩
    · exact ⟨_, Or.inr (Or.inr (⟨q, rfl⟩))⟩
  obtain ⟨_, _, ⟨T119, L119, k119, n119⟩, -, X119, ⟨Lc119, hQ119, l119, y119, z119⟩, st119⟩ := Jvm.LawKit.callS X0 hx (y := (⟨"com/example/bell_tower/belltower/model/DeviceType", "pushAddressed", "()Ljava/util/List;"⟩ : MethodName)) hown (mvT hZ (hw _ (List.mem_of_getElem? (i := 0) rfl))) (mvT hZ (hw _ (List.mem_of_getElem? (i := 1) rfl))) (mvT hZ (hw _ (List.mem_of_getElem? (i := 2) rfl))) (mvT hZ (hw _ (List.mem_of_getElem? (i := 3) rfl))) (by decide) (backOf (W := 0) (rm_pa l Z a0 hw [] aV cV bD kD b_IOS b_ANDROID b_AMAZON b_OPEN h0 n0 Z0 OL S_V A_V E_V FC_V L_V S_D L_D E_IOS E_ANDROID E_AMAZON S_OPEN E_OPEN F_IOS_ordinal F_OPEN_ordinal F_ANDROID_ordinal F_AMAZON_ordinal) hZ (hw _ (List.mem_of_getElem? (i := 3) rfl)) (hw _ (List.mem_of_getElem? (i := 2) rfl)) (by decide) (by decide)) (g := (mkF m 0 #[.val (.int p0), .unset, .unset, .unset] [])) rfl (by rw [hml]; rfl) (argsL := []) (rest := []) (lenOf own_pd9 rfl) rfl (by show 2 * 0 + _ ≤ _; exact Nat.le_of_eq rfl) (hb hby at_0) (fun _ _ => ⟨rfl, e0, (by decide : 0 + 3 ≤ _), (by decide : 0 + 17 ≤ _)⟩)
  dsimp only [Pt.U, Pt.locs, Pt.cells, Pt.slots] at X119 l119 y119 z119 st119 hQ119
  subst l119 y119 z119
  obtain ⟨a119, d119, kd119, rfl, Nq119, K119, ea119, fs119, fe119, ld119⟩ := hQ119
  have N119 := Fr.app N0 Nq119
  have OL119 := OL.keep K119 (fun x hx => by simp at hx)
  obtain ⟨cq120, kq120, q120a, q120b, q120c⟩ := isOf hZ rfl ea119
  obtain ⟨_, _, ⟨T120, L120, k120, n120⟩, -, X120, ⟨Lc120, hQ120, l120, y120, z120⟩, st120⟩ := X119.interfaceBack hx (xi := (⟨"java/util/List", "size", "()I"⟩ : MethodName)) (y := (⟨"java/util/ArrayList", "size", "()I"⟩ : MethodName)) hown (mvT hZ (hw _ (List.mem_of_getElem? (i := 81) rfl))) (mvT hZ (hw _ (List.mem_of_getElem? (i := 82) rfl))) (mvT hZ (hw _ (List.mem_of_getElem? (i := 83) rfl))) (mvT hZ (hw _ (List.mem_of_getElem? (i := 84) rfl))) (mvT hZ (hw _ (List.mem_of_getElem? (i := 85) rfl))) (mvT hZ (hw _ (List.mem_of_getElem? (i := 86) rfl))) (mvT hZ (hw _ (List.mem_of_getElem? (i := 87) rfl))) (mvT hZ (hw _ (List.mem_of_getElem? (i := 88) rfl))) (by decide) (backOf (W := 0) (rm_size l Z a0 hw [] a119 (3 : Int32) T119.heap n0 (Nat.le_trans Z0 K119.1) fs119) hZ (hw _ (List.mem_of_getElem? (i := 89) rfl)) (hw _ (List.mem_of_getElem? (i := 6) rfl)) (by decide) (by decide)) q120a q120b q120c (g := (mkF m 9 #[.val (.int p0), .val (.ref a119), .unset, .unset] [(.ref a119)])) rfl (by rw [hml]; rfl) (Steps.refl _) (argsL := []) (rest := []) (lenOf own_pd10 rfl) rfl (by show 2 * 0 + _ ≤ _; exact Nat.le_of_eq rfl) (hb hby at_9) (fun _ _ => ⟨rfl, rfl, (by decide : 3 + 0 ≤ _), (by decide : 17 + 0 ≤ _)⟩)
  dsimp only [Pt.U, Pt.locs, Pt.cells, Pt.slots] at X120 l120 y120 z120 st120 hQ120
  subst l120 y120 z120
  obtain ⟨rfl, Nq120, eh120⟩ := hQ120
  have N120 := Fr.app N119 Nq120
  obtain ⟨T121, X121, e121, st121⟩ := own_join X120 (h := T119.heap) (g := (mkF m 28 #[.val (.int p0), .val (.ref a119), .val (.int K), .unset] [(.int K)])) (g' := (mkF m 51 #[.val (.int p0), .val (.ref a119), .val (.int K), .unset] [(.ref M)])) (by
    rcases hM with ⟨q, rfl⟩ | ⟨q, rfl⟩ | ⟨q, rfl⟩
    · obtain ⟨T122, X122, e122, st122⟩ := getS X120 hx hZ (host := "") hown (hw _ (List.mem_of_getElem? (i := 91) rfl)) Via.refl eh120 (S_IOS.ext OL119.2) (g := (mkF m 31 #[.val (.int p0), .val (.ref a119), .val (.int K), .unset] [])) rfl (hb hby at_31)
      refine ⟨T122, X122, e122, fun target k => ?_⟩
      show Steps p.tables e below (T120.setTop (mkF m 28 #[.val (.int p0), .val (.ref a119), .val (.int K), .unset] [(.int K)])) _
      refine XS.ifNo X120.here hx rfl (hb hby at_28) rfl ((if0 _ _).trans (teq q).2) ?_
      show Steps p.tables e below (T120.setTop (mkF m 31 #[.val (.int p0), .val (.ref a119), .val (.int K), .unset] [])) _
      refine st122 _ ?_
      show Steps p.tables e below (T122.setTop (mkF m 34 #[.val (.int p0), .val (.ref a119), .val (.int K), .unset] [(.ref b_IOS)])) _
      refine XS.goto X122.here hx rfl (pc0 := 34) (pc' := 51) rfl (hb hby at_34) (by decide) (by decide) ?_
      exact k
    · obtain ⟨T123, X123, e123, st123⟩ := getS X120 hx hZ (host := "") hown (hw _ (List.mem_of_getElem? (i := 113) rfl)) Via.refl eh120 (S_ANDROID.ext OL119.2) (g := (mkF m 42 #[.val (.int p0), .val (.ref a119), .val (.int K), .unset] [])) rfl (hb hby at_42)
      refine ⟨T123, X123, e123, fun target k => ?_⟩
      show Steps p.tables e below (T120.setTop (mkF m 28 #[.val (.int p0), .val (.ref a119), .val (.int K), .unset] [(.int K)])) _
      refine XS.ifYes X120.here hx rfl (pc0 := 28) (pc' := 37) rfl (hb hby at_28) rfl ((if0 _ _).trans (feq (fun z => absurd (q.symm.trans z) (by decide))).2) (by decide) (by decide) ?_
      show Steps p.tables e below (T120.setTop (mkF m 37 #[.val (.int p0), .val (.ref a119), .val (.int K), .unset] [])) _
      refine XS.iloadN X120.here hx rfl (hb hby at_37) rfl ?_
      show Steps p.tables e below (T120.setTop (mkF m 38 #[.val (.int p0), .val (.ref a119), .val (.int K), .unset] [(.int K)])) _
      refine XS.iconst X120.here hx rfl (hb hby at_38) ?_
      show Steps p.tables e below (T120.setTop (mkF m 39 #[.val (.int p0), .val (.ref a119), .val (.int K), .unset] [(.int (1 : Int32)), (.int K)])) _
      refine XS.icmpNo X120.here hx rfl (hb hby at_39) rfl (teq q).2 ?_
      show Steps p.tables e below (T120.setTop (mkF m 42 #[.val (.int p0), .val (.ref a119), .val (.int K), .unset] [])) _
      refine st123 _ ?_
      show Steps p.tables e below (T123.setTop (mkF m 45 #[.val (.int p0), .val (.ref a119), .val (.int K), .unset] [(.ref b_ANDROID)])) _
      refine XS.goto X123.here hx rfl (pc0 := 45) (pc' := 51) rfl (hb hby at_45) (by decide) (by decide) ?_
      exact k
    · obtain ⟨T124, X124, e124, st124⟩ := getS X120 hx hZ (host := "") hown (hw _ (List.mem_of_getElem? (i := 114) rfl)) Via.refl eh120 (S_AMAZON.ext OL119.2) (g := (mkF m 48 #[.val (.int p0), .val (.ref a119), .val (.int K), .unset] [])) rfl (hb hby at_48)
      refine ⟨T124, X124, e124, fun target k => ?_⟩
      show Steps p.tables e below (T120.setTop (mkF m 28 #[.val (.int p0), .val (.ref a119), .val (.int K), .unset] [(.int K)])) _
      refine XS.ifYes X120.here hx rfl (pc0 := 28) (pc' := 37) rfl (hb hby at_28) rfl ((if0 _ _).trans (feq (fun z => absurd (q.symm.trans z) (by decide))).2) (by decide) (by decide) ?_
      show Steps p.tables e below (T120.setTop (mkF m 37 #[.val (.int p0), .val (.ref a119), .val (.int K), .unset] [])) _
      refine XS.iloadN X120.here hx rfl (hb hby at_37) rfl ?_
      show Steps p.tables e below (T120.setTop (mkF m 38 #[.val (.int p0), .val (.ref a119), .val (.int K), .unset] [(.int K)])) _
      refine XS.iconst X120.here hx rfl (hb hby at_38) ?_
      show Steps p.tables e below (T120.setTop (mkF m 39 #[.val (.int p0), .val (.ref a119), .val (.int K), .unset] [(.int (1 : Int32)), (.int K)])) _
      refine XS.icmpYes X120.here hx rfl (pc0 := 39) (pc' := 48) rfl (hb hby at_39) rfl (feq (fun z => absurd (q.symm.trans z) (by decide))).2 (by decide) (by decide) ?_
      show Steps p.tables e below (T120.setTop (mkF m 48 #[.val (.int p0), .val (.ref a119), .val (.int K), .unset] [])) _
      refine st124 _ ?_
      exact k)
  obtain ⟨cq125, kq125, q125a, q125b, q125c⟩ := isOf hZ e121 ea119
  obtain ⟨_, _, ⟨T125, L125, k125, n125⟩, -, X125, ⟨Lc125, hQ125, l125, y125, z125⟩, st125⟩ := X121.interfaceBack hx (xi := (⟨"java/util/List", "get", "(I)Ljava/lang/Object;"⟩ : MethodName)) (y := (⟨"java/util/ArrayList", "get", "(I)Ljava/lang/Object;"⟩ : MethodName)) hown (mvT hZ (hw _ (List.mem_of_getElem? (i := 92) rfl))) (mvT hZ (hw _ (List.mem_of_getElem? (i := 93) rfl))) (mvT hZ (hw _ (List.mem_of_getElem? (i := 94) rfl))) (mvT hZ (hw _ (List.mem_of_getElem? (i := 95) rfl))) (mvT hZ (hw _ (List.mem_of_getElem? (i := 96) rfl))) (mvT hZ (hw _ (List.mem_of_getElem? (i := 97) rfl))) (mvT hZ (hw _ (List.mem_of_getElem? (i := 98) rfl))) (mvT hZ (hw _ (List.mem_of_getElem? (i := 88) rfl))) (by decide) (backOf (W := 0) (rm_get l Z a0 hw [] a119 K d119 kd119 [.ref b_IOS, .ref b_ANDROID, .ref b_AMAZON, .null, .null, .null, .null, .null, .null, .null] (.ref M) (3 : Int32) T119.heap n0 (Nat.le_trans Z0 K119.1) fe119 ld119 rfl (by rcases hK3 with rfl | rfl | rfl <;> decide) (by rcases hM with ⟨rfl, rfl⟩ | ⟨rfl, rfl⟩ | ⟨rfl, rfl⟩ <;> rfl) rfl fs119 ea119 (by rcases hK3 with rfl | rfl | rfl <;> decide) (by rcases hK3 with rfl | rfl | rfl <;> decide)) hZ (hw _ (List.mem_of_getElem? (i := 99) rfl)) (hw _ (List.mem_of_getElem? (i := 6) rfl)) (by decide) (by decide)) q125a q125b q125c (g := (mkF m 54 #[.val (.int p0), .val (.ref a119), .val (.int K), .val (.ref M)] [(.int K), (.ref a119)])) rfl (by rw [hml]; rfl) (Steps.refl _) (argsL := [(.int K)]) (rest := []) (lenOf own_pd6 rfl) rfl (by show 2 * 0 + _ ≤ _; exact Nat.le_of_eq rfl) (hb hby at_54) (fun _ _ => ⟨rfl, e121, (by decide : 3 + 0 ≤ _), (by decide : 17 + 0 ≤ _)⟩)
  dsimp only [Pt.U, Pt.locs, Pt.cells, Pt.slots] at X125 l125 y125 z125 st125 hQ125
  subst l125 y125 z125
  obtain ⟨rfl, Nq125, eh125⟩ := hQ125
  have N125 := Fr.app N120 Nq125
  obtain ⟨cq126, kq126, q126a, q126b, q126c⟩ := isOf hZ eh125 ea119
  obtain ⟨_, _, ⟨T126, L126, k126, n126⟩, -, X126, ⟨Lc126, hQ126, l126, y126, z126⟩, st126⟩ := X125.interfaceBack hx (xi := (⟨"java/util/List", "get", "(I)Ljava/lang/Object;"⟩ : MethodName)) (y := (⟨"java/util/ArrayList", "get", "(I)Ljava/lang/Object;"⟩ : MethodName)) hown (mvT hZ (hw _ (List.mem_of_getElem? (i := 92) rfl))) (mvT hZ (hw _ (List.mem_of_getElem? (i := 93) rfl))) (mvT hZ (hw _ (List.mem_of_getElem? (i := 94) rfl))) (mvT hZ (hw _ (List.mem_of_getElem? (i := 95) rfl))) (mvT hZ (hw _ (List.mem_of_getElem? (i := 96) rfl))) (mvT hZ (hw _ (List.mem_of_getElem? (i := 97) rfl))) (mvT hZ (hw _ (List.mem_of_getElem? (i := 98) rfl))) (mvT hZ (hw _ (List.mem_of_getElem? (i := 88) rfl))) (by decide) (backOf (W := 0) (rm_get l Z a0 hw [] a119 (0 : Int32) d119 kd119 [.ref b_IOS, .ref b_ANDROID, .ref b_AMAZON, .null, .null, .null, .null, .null, .null, .null] (.ref b_IOS) (3 : Int32) T119.heap n0 (Nat.le_trans Z0 K119.1) fe119 ld119 rfl (by decide) rfl rfl fs119 ea119 (by decide) (by decide)) hZ (hw _ (List.mem_of_getElem? (i := 99) rfl)) (hw _ (List.mem_of_getElem? (i := 6) rfl)) (by decide) (by decide)) q126a q126b q126c (g := (mkF m 65 #[.val (.int p0), .val (.ref a119), .val (.int K), .val (.ref M)] [(.int (0 : Int32)), (.ref a119)])) rfl (by rw [hml]; rfl) (Steps.refl _) (argsL := [(.int (0 : Int32))]) (rest := []) (lenOf own_pd6 rfl) rfl (by show 2 * 0 + _ ≤ _; exact Nat.le_of_eq rfl) (hb hby at_65) (fun _ _ => ⟨rfl, eh125, (by decide : 3 + 0 ≤ _), (by decide : 17 + 0 ≤ _)⟩)
  dsimp only [Pt.U, Pt.locs, Pt.cells, Pt.slots] at X126 l126 y126 z126 st126 hQ126
  subst l126 y126 z126
  obtain ⟨rfl, Nq126, eh126⟩ := hQ126
  have N126 := Fr.app N125 Nq126
  obtain ⟨T127, X127, e127, st127⟩ := getS X126 hx hZ (host := "") hown (hw _ (List.mem_of_getElem? (i := 91) rfl)) Via.refl eh126 (S_IOS.ext OL119.2) (g := (mkF m 70 #[.val (.int p0), .val (.ref a119), .val (.int K), .val (.ref M)] [(.ref b_IOS)])) rfl (hb hby at_70)
  obtain ⟨cq128, kq128, q128a, q128b, q128c⟩ := isOf hZ e127 ea119
  obtain ⟨_, _, ⟨T128, L128, k128, n128⟩, -, X128, ⟨Lc128, hQ128, l128, y128, z128⟩, st128⟩ := X127.interfaceBack hx (xi := (⟨"java/util/List", "get", "(I)Ljava/lang/Object;"⟩ : MethodName)) (y := (⟨"java/util/ArrayList", "get", "(I)Ljava/lang/Object;"⟩ : MethodName)) hown (mvT hZ (hw _ (List.mem_of_getElem? (i := 92) rfl))) (mvT hZ (hw _ (List.mem_of_getElem? (i := 93) rfl))) (mvT hZ (hw _ (List.mem_of_getElem? (i := 94) rfl))) (mvT hZ (hw _ (List.mem_of_getElem? (i := 95) rfl))) (mvT hZ (hw _ (List.mem_of_getElem? (i := 96) rfl))) (mvT hZ (hw _ (List.mem_of_getElem? (i := 97) rfl))) (mvT hZ (hw _ (List.mem_of_getElem? (i := 98) rfl))) (mvT hZ (hw _ (List.mem_of_getElem? (i := 88) rfl))) (by decide) (backOf (W := 0) (rm_get l Z a0 hw [] a119 (1 : Int32) d119 kd119 [.ref b_IOS, .ref b_ANDROID, .ref b_AMAZON, .null, .null, .null, .null, .null, .null, .null] (.ref b_ANDROID) (3 : Int32) T119.heap n0 (Nat.le_trans Z0 K119.1) fe119 ld119 rfl (by decide) rfl rfl fs119 ea119 (by decide) (by decide)) hZ (hw _ (List.mem_of_getElem? (i := 99) rfl)) (hw _ (List.mem_of_getElem? (i := 6) rfl)) (by decide) (by decide)) q128a q128b q128c (g := (mkF m 78 #[.val (.int p0), .val (.ref a119), .val (.int K), .val (.ref M)] [(.int (1 : Int32)), (.ref a119)])) rfl (by rw [hml]; rfl) (Steps.refl _) (argsL := [(.int (1 : Int32))]) (rest := []) (lenOf own_pd6 rfl) rfl (by show 2 * 0 + _ ≤ _; exact Nat.le_of_eq rfl) (hb hby at_78) (fun _ _ => ⟨rfl, e127, (by decide : 3 + 0 ≤ _), (by decide : 17 + 0 ≤ _)⟩)
  dsimp only [Pt.U, Pt.locs, Pt.cells, Pt.slots] at X128 l128 y128 z128 st128 hQ128
  subst l128 y128 z128
  obtain ⟨rfl, Nq128, eh128⟩ := hQ128
  have N128 := Fr.app N126 Nq128
  obtain ⟨T129, X129, e129, st129⟩ := getS X128 hx hZ (host := "") hown (hw _ (List.mem_of_getElem? (i := 113) rfl)) Via.refl eh128 (S_ANDROID.ext OL119.2) (g := (mkF m 83 #[.val (.int p0), .val (.ref a119), .val (.int K), .val (.ref M)] [(.ref b_ANDROID)])) rfl (hb hby at_83)
  obtain ⟨cq130, kq130, q130a, q130b, q130c⟩ := isOf hZ e129 ea119
  obtain ⟨_, _, ⟨T130, L130, k130, n130⟩, -, X130, ⟨Lc130, hQ130, l130, y130, z130⟩, st130⟩ := X129.interfaceBack hx (xi := (⟨"java/util/List", "get", "(I)Ljava/lang/Object;"⟩ : MethodName)) (y := (⟨"java/util/ArrayList", "get", "(I)Ljava/lang/Object;"⟩ : MethodName)) hown (mvT hZ (hw _ (List.mem_of_getElem? (i := 92) rfl))) (mvT hZ (hw _ (List.mem_of_getElem? (i := 93) rfl))) (mvT hZ (hw _ (List.mem_of_getElem? (i := 94) rfl))) (mvT hZ (hw _ (List.mem_of_getElem? (i := 95) rfl))) (mvT hZ (hw _ (List.mem_of_getElem? (i := 96) rfl))) (mvT hZ (hw _ (List.mem_of_getElem? (i := 97) rfl))) (mvT hZ (hw _ (List.mem_of_getElem? (i := 98) rfl))) (mvT hZ (hw _ (List.mem_of_getElem? (i := 88) rfl))) (by decide) (backOf (W := 0) (rm_get l Z a0 hw [] a119 (2 : Int32) d119 kd119 [.ref b_IOS, .ref b_ANDROID, .ref b_AMAZON, .null, .null, .null, .null, .null, .null, .null] (.ref b_AMAZON) (3 : Int32) T119.heap n0 (Nat.le_trans Z0 K119.1) fe119 ld119 rfl (by decide) rfl rfl fs119 ea119 (by decide) (by decide)) hZ (hw _ (List.mem_of_getElem? (i := 99) rfl)) (hw _ (List.mem_of_getElem? (i := 6) rfl)) (by decide) (by decide)) q130a q130b q130c (g := (mkF m 91 #[.val (.int p0), .val (.ref a119), .val (.int K), .val (.ref M)] [(.int (2 : Int32)), (.ref a119)])) rfl (by rw [hml]; rfl) (Steps.refl _) (argsL := [(.int (2 : Int32))]) (rest := []) (lenOf own_pd6 rfl) rfl (by show 2 * 0 + _ ≤ _; exact Nat.le_of_eq rfl) (hb hby at_91) (fun _ _ => ⟨rfl, e129, (by decide : 3 + 0 ≤ _), (by decide : 17 + 0 ≤ _)⟩)
  dsimp only [Pt.U, Pt.locs, Pt.cells, Pt.slots] at X130 l130 y130 z130 st130 hQ130
  subst l130 y130 z130
  obtain ⟨rfl, Nq130, eh130⟩ := hQ130
  have N130 := Fr.app N128 Nq130
  obtain ⟨T131, X131, e131, st131⟩ := getS X130 hx hZ (host := "") hown (hw _ (List.mem_of_getElem? (i := 114) rfl)) Via.refl eh130 (S_AMAZON.ext OL119.2) (g := (mkF m 96 #[.val (.int p0), .val (.ref a119), .val (.int K), .val (.ref M)] [(.ref b_AMAZON)])) rfl (hb hby at_96)
  obtain ⟨fs, hr, hrun, hended, hW, hsame⟩ := X131.leave (v := some (.int (1 : Int32))) (fun h => by rw [Bd.returns] at h; cases h)
  refine ⟨_, _, pre0 _ ?_, hrun, hended, _, _, rfl, ?_, ⟨_, rfl⟩, hW, hsame.mono (by decide) (by decide)⟩
  · show Steps p.tables e below (s₁.setTop (mkF m 0 #[.val (.int p0), .unset, .unset, .unset] [])) _
    refine st119 _ ?_
    show Steps p.tables e below (T119.setTop (mkF m 3 #[.val (.int p0), .unset, .unset, .unset] [(.ref a119)])) _
    refine XS.astoreN X119.here hx rfl (hb hby at_3) rfl rfl (l' := #[.val (.int p0), .val (.ref a119), .unset, .unset]) rfl ?_
    show Steps p.tables e below (T119.setTop (mkF m 4 #[.val (.int p0), .val (.ref a119), .unset, .unset] [])) _
    refine XS.aloadN X119.here hx rfl (hb hby at_4) rfl rfl ?_
    show Steps p.tables e below (T119.setTop (mkF m 5 #[.val (.int p0), .val (.ref a119), .unset, .unset] [(.ref a119)])) _
    refine XS.ifnullNo X119.here hx rfl (hb hby at_5) rfl ?_
    show Steps p.tables e below (T119.setTop (mkF m 8 #[.val (.int p0), .val (.ref a119), .unset, .unset] [])) _
    refine XS.aloadN X119.here hx rfl (hb hby at_8) rfl rfl ?_
    show Steps p.tables e below (T119.setTop (mkF m 9 #[.val (.int p0), .val (.ref a119), .unset, .unset] [(.ref a119)])) _
    refine st120.trans ?_
    show Steps p.tables e below (T120.setTop (mkF m 14 #[.val (.int p0), .val (.ref a119), .unset, .unset] [(.int (3 : Int32))])) _
    refine XS.iconst X120.here hx rfl (hb hby at_14) ?_
    show Steps p.tables e below (T120.setTop (mkF m 15 #[.val (.int p0), .val (.ref a119), .unset, .unset] [(.int (3 : Int32)), (.int (3 : Int32))])) _
    refine XS.icmpYes X120.here hx rfl (pc0 := 15) (pc' := 20) rfl (hb hby at_15) rfl (teq (rfl : (3 : Int32) = (3 : Int32))).1 (by decide) (by decide) ?_
    show Steps p.tables e below (T120.setTop (mkF m 20 #[.val (.int p0), .val (.ref a119), .unset, .unset] [])) _
    refine XS.iloadN X120.here hx rfl (hb hby at_20) rfl ?_
    show Steps p.tables e below (T120.setTop (mkF m 21 #[.val (.int p0), .val (.ref a119), .unset, .unset] [(.int p0)])) _
    refine X120.ldcI hx hown (mvT hZ (hw _ (List.mem_of_getElem? (i := 90) rfl))) (g := (mkF m 21 #[.val (.int p0), .val (.ref a119), .unset, .unset] [(.int p0)])) rfl (hb hby at_21) ?_
    show Steps p.tables e below (T120.setTop (mkF m 23 #[.val (.int p0), .val (.ref a119), .unset, .unset] [(.int (2147483647 : Int32)), (.int p0)])) _
    refine XS.iand X120.here hx rfl (hb hby at_23) rfl ?_
    show Steps p.tables e below (T120.setTop (mkF m 24 #[.val (.int p0), .val (.ref a119), .unset, .unset] [(.int (p0 &&& (2147483647 : Int32)))])) _
    refine XS.iconst X120.here hx rfl (hb hby at_24) ?_
    show Steps p.tables e below (T120.setTop (mkF m 25 #[.val (.int p0), .val (.ref a119), .unset, .unset] [(.int (3 : Int32)), (.int (p0 &&& (2147483647 : Int32)))])) _
    refine iremM X120 hx rfl (hb hby at_25) rfl (by decide) ?_
    rw [hK]
    show Steps p.tables e below (T120.setTop (mkF m 26 #[.val (.int p0), .val (.ref a119), .unset, .unset] [(.int K)])) _
    refine XS.istoreN X120.here hx rfl (hb hby at_26) rfl (l' := #[.val (.int p0), .val (.ref a119), .val (.int K), .unset]) rfl ?_
    show Steps p.tables e below (T120.setTop (mkF m 27 #[.val (.int p0), .val (.ref a119), .val (.int K), .unset] [])) _
    refine XS.iloadN X120.here hx rfl (hb hby at_27) rfl ?_
    show Steps p.tables e below (T120.setTop (mkF m 28 #[.val (.int p0), .val (.ref a119), .val (.int K), .unset] [(.int K)])) _
    refine st121 _ ?_
    show Steps p.tables e below (T121.setTop (mkF m 51 #[.val (.int p0), .val (.ref a119), .val (.int K), .unset] [(.ref M)])) _
    refine XS.astoreN X121.here hx rfl (hb hby at_51) rfl rfl (l' := #[.val (.int p0), .val (.ref a119), .val (.int K), .val (.ref M)]) rfl ?_
    show Steps p.tables e below (T121.setTop (mkF m 52 #[.val (.int p0), .val (.ref a119), .val (.int K), .val (.ref M)] [])) _
    refine XS.aloadN X121.here hx rfl (hb hby at_52) rfl rfl ?_
    show Steps p.tables e below (T121.setTop (mkF m 53 #[.val (.int p0), .val (.ref a119), .val (.int K), .val (.ref M)] [(.ref a119)])) _
    refine XS.iloadN X121.here hx rfl (hb hby at_53) rfl ?_
    show Steps p.tables e below (T121.setTop (mkF m 54 #[.val (.int p0), .val (.ref a119), .val (.int K), .val (.ref M)] [(.int K), (.ref a119)])) _
    refine st125.trans ?_
    show Steps p.tables e below (T125.setTop (mkF m 59 #[.val (.int p0), .val (.ref a119), .val (.int K), .val (.ref M)] [(.ref M)])) _
    refine XS.aloadN X125.here hx rfl (hb hby at_59) rfl rfl ?_
    show Steps p.tables e below (T125.setTop (mkF m 60 #[.val (.int p0), .val (.ref a119), .val (.int K), .val (.ref M)] [(.ref M), (.ref M)])) _
    refine Jvm.RoadKit.acmp (g := (mkF m 60 #[.val (.int p0), .val (.ref a119), .val (.int K), .val (.ref M)] [(.ref M), (.ref M)])) X125 hx rfl rfl rfl (pc0 := 60) (pc' := 63) (same := true) rfl (hb hby at_60) rfl (decide_eq_true rfl) (by decide) (by decide) ?_
    show Steps p.tables e below (T125.setTop (mkF m 63 #[.val (.int p0), .val (.ref a119), .val (.int K), .val (.ref M)] [])) _
    refine XS.aloadN X125.here hx rfl (hb hby at_63) rfl rfl ?_
    show Steps p.tables e below (T125.setTop (mkF m 64 #[.val (.int p0), .val (.ref a119), .val (.int K), .val (.ref M)] [(.ref a119)])) _
    refine XS.iconst X125.here hx rfl (hb hby at_64) ?_
    show Steps p.tables e below (T125.setTop (mkF m 65 #[.val (.int p0), .val (.ref a119), .val (.int K), .val (.ref M)] [(.int (0 : Int32)), (.ref a119)])) _
    refine st126.trans ?_
    show Steps p.tables e below (T126.setTop (mkF m 70 #[.val (.int p0), .val (.ref a119), .val (.int K), .val (.ref M)] [(.ref b_IOS)])) _
    refine st127 _ ?_
    show Steps p.tables e below (T127.setTop (mkF m 73 #[.val (.int p0), .val (.ref a119), .val (.int K), .val (.ref M)] [(.ref b_IOS), (.ref b_IOS)])) _
    refine Jvm.RoadKit.acmp (g := (mkF m 73 #[.val (.int p0), .val (.ref a119), .val (.int K), .val (.ref M)] [(.ref b_IOS), (.ref b_IOS)])) X127 hx rfl rfl rfl (pc0 := 73) (pc' := 76) (same := true) rfl (hb hby at_73) rfl (decide_eq_true rfl) (by decide) (by decide) ?_
    show Steps p.tables e below (T127.setTop (mkF m 76 #[.val (.int p0), .val (.ref a119), .val (.int K), .val (.ref M)] [])) _
    refine XS.aloadN X127.here hx rfl (hb hby at_76) rfl rfl ?_
    show Steps p.tables e below (T127.setTop (mkF m 77 #[.val (.int p0), .val (.ref a119), .val (.int K), .val (.ref M)] [(.ref a119)])) _
    refine XS.iconst X127.here hx rfl (hb hby at_77) ?_
    show Steps p.tables e below (T127.setTop (mkF m 78 #[.val (.int p0), .val (.ref a119), .val (.int K), .val (.ref M)] [(.int (1 : Int32)), (.ref a119)])) _
    refine st128.trans ?_
    show Steps p.tables e below (T128.setTop (mkF m 83 #[.val (.int p0), .val (.ref a119), .val (.int K), .val (.ref M)] [(.ref b_ANDROID)])) _
    refine st129 _ ?_
    show Steps p.tables e below (T129.setTop (mkF m 86 #[.val (.int p0), .val (.ref a119), .val (.int K), .val (.ref M)] [(.ref b_ANDROID), (.ref b_ANDROID)])) _
    refine Jvm.RoadKit.acmp (g := (mkF m 86 #[.val (.int p0), .val (.ref a119), .val (.int K), .val (.ref M)] [(.ref b_ANDROID), (.ref b_ANDROID)])) X129 hx rfl rfl rfl (pc0 := 86) (pc' := 89) (same := true) rfl (hb hby at_86) rfl (decide_eq_true rfl) (by decide) (by decide) ?_
    show Steps p.tables e below (T129.setTop (mkF m 89 #[.val (.int p0), .val (.ref a119), .val (.int K), .val (.ref M)] [])) _
    refine XS.aloadN X129.here hx rfl (hb hby at_89) rfl rfl ?_
    show Steps p.tables e below (T129.setTop (mkF m 90 #[.val (.int p0), .val (.ref a119), .val (.int K), .val (.ref M)] [(.ref a119)])) _
    refine XS.iconst X129.here hx rfl (hb hby at_90) ?_
    show Steps p.tables e below (T129.setTop (mkF m 91 #[.val (.int p0), .val (.ref a119), .val (.int K), .val (.ref M)] [(.int (2 : Int32)), (.ref a119)])) _
    refine st130.trans ?_
    show Steps p.tables e below (T130.setTop (mkF m 96 #[.val (.int p0), .val (.ref a119), .val (.int K), .val (.ref M)] [(.ref b_AMAZON)])) _
    refine st131 _ ?_
    show Steps p.tables e below (T131.setTop (mkF m 99 #[.val (.int p0), .val (.ref a119), .val (.int K), .val (.ref M)] [(.ref b_AMAZON), (.ref b_AMAZON)])) _
    refine Jvm.RoadKit.acmp (g := (mkF m 99 #[.val (.int p0), .val (.ref a119), .val (.int K), .val (.ref M)] [(.ref b_AMAZON), (.ref b_AMAZON)])) X131 hx rfl rfl rfl (pc0 := 99) (pc' := 102) (same := true) rfl (hb hby at_99) rfl (decide_eq_true rfl) (by decide) (by decide) ?_
    show Steps p.tables e below (T131.setTop (mkF m 102 #[.val (.int p0), .val (.ref a119), .val (.int K), .val (.ref M)] [])) _
    refine XS.iconst X131.here hx rfl (hb hby at_102) ?_
    show Steps p.tables e below (T131.setTop (mkF m 103 #[.val (.int p0), .val (.ref a119), .val (.int K), .val (.ref M)] [(.int (1 : Int32))])) _
    refine XS.goto X131.here hx rfl (pc0 := 103) (pc' := 107) rfl (hb hby at_103) (by decide) (by decide) ?_
    show Steps p.tables e below (T131.setTop (mkF m 107 #[.val (.int p0), .val (.ref a119), .val (.int K), .val (.ref M)] [(.int (1 : Int32))])) _
    exact own_retZ X131 hx rfl Bd.returns (hb hby at_107) hr
  · show rm_law_Q Z p0 aV cV bD kD b_IOS b_ANDROID b_AMAZON b_OPEN h0 n0 _ T131.heap _
    rw [e131]
    exact ⟨rfl, N130⟩
set_option maxRecDepth 65536 in
set_option maxHeartbeats 40000000 in
theorem own_comes {Post : Tables → Env → Array Value → State → Outcome → State → Prop} (hpost : ∀ tb e args s v u, (limb_1_1.after args s (.returned v) u = true ∧ limb_1_2.after args s (.returned v) u = true ∧ True) → FrameEnd s (.returned v) u (Jvm.fieldLocs frame_1_writes args s ++ Jvm.arrayLocs frame_1_arrays args s ++ Jvm.staticLocs frame_1_statics s) 16 128 → Post tb e args s (.returned v) u) :
    ArmFor flags0 classFile x code maxLocals ret World_1 tables_1 room_1 Calls_1 rest_1 Pre_1 Post := by
  intro l hfl _ _ p e ha hc hk s m args below hf hA hF happ hP
  obtain ⟨hcalls, hrest, hpre⟩ := hP
  obtain ⟨-, -, -, hnamed, -, -, -, hat⟩ := (Spec.applies_iff hf).mp happ
  obtain ⟨hg, hn⟩ := and_e (Cond.before_iff.mp (show (Jvm.Cond.and given_1 narrow_1).before args s = true from hpre))
  obtain ⟨h1, h2⟩ := and_e hg
  obtain ⟨w0, rfl⟩ := own_arg1 h1
  have hw := fun d (hd : d ∈ tables_1) => atoms_spec (ws := Jvm.Cond.code x code maxLocals ret :: tables_1) hat d (List.mem_cons_of_mem _ hd)
  have hfit : Fit s := fun {y c} hc i hi => by
    obtain ⟨ha, rfl⟩ := Array.getElem?_eq_some_iff.mp hc
    have q := List.all_eq_true.mp ((Array.all_eq_true_iff_forall_mem.mp hF) _ (Array.getElem_mem ha)) i (List.mem_range.mpr hi)
    simpa [Array.getElem?_eq_getElem hi] using q
  have g0 := h2
  obtain ⟨i0, e0⟩ := is_v g0
  obtain rfl : w0 = (.int i0) := Option.some.inj e0
  obtain ⟨c0, hn⟩ := and_e hn
  obtain ⟨c1, hn⟩ := and_e hn
  obtain ⟨c2, hn⟩ := and_e hn
  obtain ⟨c3, hn⟩ := and_e hn
  obtain ⟨c4, hn⟩ := and_e hn
  obtain ⟨c5, hn⟩ := and_e hn
  obtain ⟨c6, hn⟩ := and_e hn
  obtain ⟨c7, hn⟩ := and_e hn
  obtain ⟨c8, hn⟩ := and_e hn
  obtain ⟨c9, hn⟩ := and_e hn
  obtain ⟨c10, hn⟩ := and_e hn
  obtain ⟨c11, hn⟩ := and_e hn
  obtain ⟨c12, hn⟩ := and_e hn
  obtain ⟨c13, hn⟩ := and_e hn
  have c14 := hn
  obtain ⟨b_IOS, ev_IOS⟩ := exa_v c3
  have S_IOS := Sta.start ev_IOS (Or.inr ⟨(hw _ (List.mem_of_getElem? (i := 2) rfl)), (hw _ (List.mem_of_getElem? (i := 42) rfl))⟩)
  have E_IOS := Exa.start ev_IOS c3
  obtain ⟨b_ANDROID, ev_ANDROID⟩ := exa_v c5
  have S_ANDROID := Sta.start ev_ANDROID (Or.inr ⟨(hw _ (List.mem_of_getElem? (i := 2) rfl)), (hw _ (List.mem_of_getElem? (i := 43) rfl))⟩)
  have E_ANDROID := Exa.start ev_ANDROID c5
  obtain ⟨b_AMAZON, ev_AMAZON⟩ := exa_v c7
  have S_AMAZON := Sta.start ev_AMAZON (Or.inr ⟨(hw _ (List.mem_of_getElem? (i := 2) rfl)), (hw _ (List.mem_of_getElem? (i := 44) rfl))⟩)
  have E_AMAZON := Exa.start ev_AMAZON c7
  obtain ⟨b_OPEN, ev_OPEN⟩ := exa_v c9
  have S_OPEN := Sta.start ev_OPEN (Or.inr ⟨(hw _ (List.mem_of_getElem? (i := 2) rfl)), (hw _ (List.mem_of_getElem? (i := 45) rfl))⟩)
  have E_OPEN := Exa.start ev_OPEN c9
  have F_IOS_ordinal := own_fI ev_IOS c11
  have F_OPEN_ordinal := own_fI ev_OPEN c12
  have F_ANDROID_ordinal := own_fI ev_ANDROID c13
  have F_AMAZON_ordinal := own_fI ev_AMAZON c14
  obtain ⟨aV, ev_V⟩ := arr_v c0
  obtain ⟨cV, A_V⟩ := Arr.start ev_V c0
  have E_V := Exa.start ev_V c1
  have S_V := Sta.start ev_V (Or.inr ⟨(hw _ (List.mem_of_getElem? (i := 2) rfl)), (hw _ (List.mem_of_getElem? (i := 34) rfl))⟩)
  have FC_V := FitC.start hfit A_V
  have L_V : cV.slots.toList = [.ref b_IOS, .ref b_ANDROID, .ref b_AMAZON, .ref b_OPEN] := own_list4 (own_slen (by decide) c2 ev_V A_V.1) (own_selem ev_IOS ev_V A_V.1 c4) (own_selem ev_ANDROID ev_V A_V.1 c6) (own_selem ev_AMAZON ev_V A_V.1 c8) (own_selem ev_OPEN ev_V A_V.1 c10)
  have hsets := (atoms_of jdkStatics_1 (show (jdkStatics_1.foldr Jvm.Cond.and restOwn_1).before _ s = true from hrest)).1
  have j2 := hsets _ (List.mem_of_getElem? (i := 2) rfl)
  have j6 := Cond.before_iff.mp (hsets _ (List.mem_of_getElem? (i := 6) rfl))
  have j8 := Cond.before_iff.mp (hsets _ (List.mem_of_getElem? (i := 8) rfl))
  obtain ⟨bD, ev_D⟩ := arr_v j6
  obtain ⟨cD, A_D⟩ := Arr.start ev_D j6
  have S_D := Sta.start ev_D (Or.inr ⟨(hw _ (List.mem_of_getElem? (i := 6) rfl)), j2⟩)
  have L_D : OwnLst s s.heap bD (.object "java/lang/Object") cD.cls [] := ⟨cD, A_D, rfl, own_nil (own_slen (z := (0 : Int32)) (by decide) j8 ev_D A_D.1)⟩
  obtain ⟨n, o, h1, h2, h3, _, L, rfl, ⟨rfl, N⟩, hq⟩ := rm_law l s _ hw tables_1 i0 aV cV bD cD.cls b_IOS b_ANDROID b_AMAZON b_OPEN s.heap s.heap.size (Nat.le_refl _) ⟨rfl, own_ext_refl _⟩ S_V A_V E_V FC_V L_V S_D L_D S_IOS E_IOS S_ANDROID E_ANDROID S_AMAZON E_AMAZON S_OPEN E_OPEN F_IOS_ordinal F_OPEN_ordinal F_ANDROID_ordinal F_AMAZON_ordinal p e ha hc hk s m _ below hf ((Spec.applies_iff_loose hf).mp happ).1 ⟨rfl, State.Warmed39.refl s, rfl⟩ trivial
  exact ⟨n, _, h1, h2, h3, hpost _ _ _ _ _ _ ⟨Cond.after_iff.mpr rfl, Cond.after_iff.mpr (eq_i res_at (Term.int_eval (1)) rfl), trivial⟩ ⟨hq.1, hq.2.1, (hq.2.2.sift fun y hy => Or.inr (N y hy)).mono (by decide) (by decide)⟩⟩
theorem main_1_1 : Claimed_1_1 := own_comes fun _ _ _ _ _ _ h hF => ⟨h.1, hF⟩
theorem main_1_2 : Claimed_1_2 := own_comes fun _ _ _ _ _ _ h hF => ⟨h.2.1, hF⟩
end Jvm.Pilot.@@N@@
namespace Jvm.Pilot.@@N@@
open Jvm Jvm.ClassFile Sem Op Lib Jvm.Free Jvm.Stand Jvm.Pilot.@@N@@.Jvm.D
/-! MADE BY PROGRAM (witnessworld.py) out of the Statement's table words and the real class files: 25 classes; the members and pool entries that the words name. The judged class is class 1, her method 1. -/
namespace start1
open Jvm.ClassFile
def u (s : String) : CpInfo := .utf8 (stringToUtf16 s)
/-- a pool by its gaps: so many unusable entries, then the entry; so many at the end -/
def gap : Nat → List CpInfo → List CpInfo
  | 0, r => r
  | n + 1, r => .unusable :: gap n r
def poolList (es : List (Nat × CpInfo)) (last : Nat) : List CpInfo := es.foldr (fun e r => gap e.1 (e.2 :: r)) (gap last [])
def pool (es : List (Nat × CpInfo)) (last : Nat) : Array CpInfo := ⟨poolList es last⟩
def fileOf (pool : Array CpInfo) (this : Nat) (attrs : Array Attribute := #[]) (ms : Array MethodInfo := #[]) (fl : Nat := 33) (sup : Nat := 0) (ifs : Array Nat := #[]) (fds : Array FieldInfo := #[]) : ClassFile where
  minorVersion := 0
  majorVersion := 65
  constantPool := pool
  accessFlags := fl
  thisClass := this
  superClass := sup
  interfaces := ifs
  fields := fds
  methods := ms
  attributes := attrs
def plain (name : String) (sup : Option ClassId) : Class where
  name := name
  kind := .ordinary
  loader := none
  accessFlags := 33
  super := sup
  interfaces := #[]
  cf := none
  fields := #[]
  methods := #[]
  instanceTypes := #[]
  staticTypes := #[]
  resolved := #[]
  callSites := []
  init := .initialized
  statics := none
  mirror := none

def pool0 : Array CpInfo := pool [(5, u "<init>"), (0, u "()V"), (1, .class_ 10), (1, u "java/lang/Object"), (85, u "clone"), (0, u "()Ljava/lang/Object;")] 26

def k0c0 : Code := { maxStack := 0, maxLocals := 1, code := object_method_1_code, exceptionTable := #[], attributes := #[] }
def k0m0 : Method := { name := "<init>", desc := "()V", sig := { parameters := [], returnType := none }, accessFlags := 1, code := some k0c0 }
def k0m1 : Method := { name := "clone", desc := "()Ljava/lang/Object;", sig := { parameters := [], returnType := some (.object "java/lang/Object") }, accessFlags := 260, code := none }
/-- java/lang/Object -/
def k0 : Class := { plain "java/lang/Object" none with
  accessFlags := 33
  interfaces := #[]
  cf := some (fileOf pool0 8 #[] #[{ accessFlags := 1, nameIndex := 5, descriptorIndex := 6, attributes := #[] }, { accessFlags := 260, nameIndex := 96, descriptorIndex := 97, attributes := #[] }] 33 0 #[] #[])
  fields := #[]
  methods := #[k0m0, k0m1]
  instanceTypes := #[]
  staticTypes := #[]
  resolved := Array.replicate 124 none
  statics := none }

def pool1 : Array CpInfo := pool [(2, .class_ 4), (1, u "java/lang/Object"), (0, u "<init>"), (0, u "()V"), (0, .methodref 8 9), (0, .class_ 10), (0, .nameAndType 11 12), (0, u "com/example/bell_tower/belltower/model/DeviceType"), (0, u "pushAddressed"), (0, u "()Ljava/util/List;"), (0, .interfaceMethodref 14 15), (0, .class_ 16), (0, .nameAndType 17 18), (0, u "java/util/List"), (0, u "size"), (0, u "()I"), (0, .integer 2147483647), (0, .fieldref 8 21), (0, .nameAndType 22 23), (0, u "IOS"), (0, u "Lcom/example/bell_tower/belltower/model/DeviceType;"), (0, .fieldref 8 25), (0, .nameAndType 26 23), (0, u "ANDROID"), (0, .fieldref 8 28), (0, .nameAndType 29 23), (0, u "AMAZON"), (0, .interfaceMethodref 14 31), (0, .nameAndType 32 33), (0, u "get"), (0, u "(I)Ljava/lang/Object;"), (0, .class_ 35), (0, u "com/example/bell_tower/belltower/model/DeviceTypePushAddressedPinLaw"), (2, u "law"), (0, u "(I)Z")] 3

def k1m0 : Method := { name := "<init>", desc := "()V", sig := { parameters := [], returnType := none }, accessFlags := 1, code := none }
def k1c1 : Code := { maxStack := 2, maxLocals := 4, code := code, exceptionTable := #[], attributes := #[] }
def k1m1 : Method := { name := "law", desc := "(I)Z", sig := { parameters := [.int], returnType := some .boolean }, accessFlags := 9, code := some k1c1 }
/-- com/example/bell_tower/belltower/model/DeviceTypePushAddressedPinLaw -/
def k1 : Class := { plain "com/example/bell_tower/belltower/model/DeviceTypePushAddressedPinLaw" (some 0) with
  accessFlags := 49
  interfaces := #[]
  cf := some (fileOf pool1 34 #[] #[{ accessFlags := 1, nameIndex := 5, descriptorIndex := 6, attributes := #[] }, { accessFlags := 9, nameIndex := 38, descriptorIndex := 39, attributes := #[] }] 49 2 #[] #[])
  fields := #[]
  methods := #[k1m0, k1m1]
  instanceTypes := #[]
  staticTypes := #[]
  resolved := Array.replicate 43 none
  statics := none }

def pool2 : Array CpInfo := pool [(1, .class_ 2), (0, u "java/lang/constant/Constable"), (0, .class_ 4), (0, u "java/lang/Object")] 6

/-- java/lang/constant/Constable -/
def k2 : Class := { plain "java/lang/constant/Constable" (some 0) with
  accessFlags := 1537
  interfaces := #[]
  cf := some (fileOf pool2 1 #[] #[] 1537 3 #[] #[])
  fields := #[]
  methods := #[]
  instanceTypes := #[]
  staticTypes := #[]
  resolved := Array.replicate 11 none
  statics := none }

def pool3 : Array CpInfo := pool [(1, .class_ 2), (0, u "java/lang/Comparable"), (0, .class_ 4), (0, u "java/lang/Object")] 7

/-- java/lang/Comparable -/
def k3 : Class := { plain "java/lang/Comparable" (some 0) with
  accessFlags := 1537
  interfaces := #[]
  cf := some (fileOf pool3 1 #[] #[] 1537 3 #[] #[])
  fields := #[]
  methods := #[]
  instanceTypes := #[]
  staticTypes := #[]
  resolved := Array.replicate 12 none
  statics := none }

def pool4 : Array CpInfo := pool [(1, .class_ 2), (0, u "java/io/Serializable"), (0, .class_ 4), (0, u "java/lang/Object")] 2

/-- java/io/Serializable -/
def k4 : Class := { plain "java/io/Serializable" (some 0) with
  accessFlags := 1537
  interfaces := #[]
  cf := some (fileOf pool4 1 #[] #[] 1537 3 #[] #[])
  fields := #[]
  methods := #[]
  instanceTypes := #[]
  staticTypes := #[]
  resolved := Array.replicate 7 none
  statics := none }

def pool5 : Array CpInfo := pool [(2, .class_ 4), (1, u "java/lang/Enum"), (0, u "name"), (0, u "Ljava/lang/String;"), (2, u "ordinal"), (0, u "I"), (1, .class_ 14), (1, u "java/lang/Object"), (4, u "hash"), (86, .class_ 108), (1, u "java/lang/Enum$EnumDesc"), (2, .class_ 112), (0, u "java/lang/constant/Constable"), (0, .class_ 114), (0, u "java/lang/Comparable"), (0, .class_ 116), (0, u "java/io/Serializable")] 87

/-- java/lang/Enum -/
def k5 : Class := { plain "java/lang/Enum" (some 0) with
  accessFlags := 1057
  interfaces := #[2, 3, 4]
  cf := some (fileOf pool5 2 #[.nestMembers #[106]] #[] 1057 12 #[111, 113, 115] #[{ accessFlags := 18, nameIndex := 5, descriptorIndex := 6, attributes := #[] }, { accessFlags := 18, nameIndex := 9, descriptorIndex := 10, attributes := #[] }, { accessFlags := 2, nameIndex := 19, descriptorIndex := 10, attributes := #[] }])
  fields := #[{ name := "name", type := (.object "java/lang/String"), accessFlags := 18, slot := 0, constantValue := 0 }, { name := "ordinal", type := .int, accessFlags := 18, slot := 1, constantValue := 0 }, { name := "hash", type := .int, accessFlags := 2, slot := 2, constantValue := 0 }]
  methods := #[]
  instanceTypes := #[(.object "java/lang/String"), .int, .int]
  staticTypes := #[]
  resolved := Array.replicate 204 none
  statics := none }

def pool6 : Array CpInfo := pool [(1, .class_ 2), (0, u "com/example/bell_tower/belltower/model/DeviceType"), (2, u "IOS"), (0, u "Lcom/example/bell_tower/belltower/model/DeviceType;"), (2, u "ANDROID"), (2, u "AMAZON"), (0, .fieldref 1 14), (0, .nameAndType 15 6), (0, u "OPEN"), (0, .fieldref 1 17), (0, .nameAndType 18 19), (0, u "$VALUES"), (0, u "[Lcom/example/bell_tower/belltower/model/DeviceType;"), (0, .methodref 21 22), (0, .class_ 19), (0, .nameAndType 23 24), (0, u "clone"), (0, u "()Ljava/lang/Object;"), (1, .class_ 28), (1, u "java/lang/Enum"), (4, u "<init>"), (3, u "apiName"), (0, u "Ljava/lang/String;"), (4, .class_ 44), (0, u "java/util/ArrayList"), (0, .methodref 43 46), (0, .nameAndType 33 47), (0, u "()V"), (0, .methodref 1 49), (0, .nameAndType 50 51), (0, u "values"), (0, u "()[Lcom/example/bell_tower/belltower/model/DeviceType;"), (0, .methodref 43 53), (0, .nameAndType 54 55), (0, u "add"), (0, u "(Ljava/lang/Object;)Z"), (38, u "pushAddressed"), (0, u "()Ljava/util/List;")] 24

def k6c0 : Code := { maxStack := 1, maxLocals := 0, code := prog_8_method_1_code, exceptionTable := #[], attributes := #[] }
def k6m0 : Method := { name := "values", desc := "()[Lcom/example/bell_tower/belltower/model/DeviceType;", sig := { parameters := [], returnType := some (.array (.object "com/example/bell_tower/belltower/model/DeviceType")) }, accessFlags := 9, code := some k6c0 }
def k6c1 : Code := { maxStack := 2, maxLocals := 5, code := prog_8_method_6_code, exceptionTable := #[], attributes := #[] }
def k6m1 : Method := { name := "pushAddressed", desc := "()Ljava/util/List;", sig := { parameters := [], returnType := some (.object "java/util/List") }, accessFlags := 9, code := some k6c1 }
/-- com/example/bell_tower/belltower/model/DeviceType -/
def k6 : Class := { plain "com/example/bell_tower/belltower/model/DeviceType" (some 5) with
  accessFlags := 16433
  interfaces := #[]
  cf := some (fileOf pool6 1 #[] #[{ accessFlags := 9, nameIndex := 50, descriptorIndex := 51, attributes := #[] }, { accessFlags := 9, nameIndex := 94, descriptorIndex := 95, attributes := #[] }] 16433 26 #[] #[{ accessFlags := 16409, nameIndex := 5, descriptorIndex := 6, attributes := #[] }, { accessFlags := 16409, nameIndex := 9, descriptorIndex := 6, attributes := #[] }, { accessFlags := 16409, nameIndex := 12, descriptorIndex := 6, attributes := #[] }, { accessFlags := 16409, nameIndex := 15, descriptorIndex := 6, attributes := #[] }, { accessFlags := 18, nameIndex := 37, descriptorIndex := 38, attributes := #[] }, { accessFlags := 4122, nameIndex := 18, descriptorIndex := 19, attributes := #[] }])
  fields := #[{ name := "IOS", type := (.object "com/example/bell_tower/belltower/model/DeviceType"), accessFlags := 16409, slot := 0, constantValue := 0 }, { name := "ANDROID", type := (.object "com/example/bell_tower/belltower/model/DeviceType"), accessFlags := 16409, slot := 1, constantValue := 0 }, { name := "AMAZON", type := (.object "com/example/bell_tower/belltower/model/DeviceType"), accessFlags := 16409, slot := 2, constantValue := 0 }, { name := "OPEN", type := (.object "com/example/bell_tower/belltower/model/DeviceType"), accessFlags := 16409, slot := 3, constantValue := 0 }, { name := "apiName", type := (.object "java/lang/String"), accessFlags := 18, slot := 3, constantValue := 0 }, { name := "$VALUES", type := (.array (.object "com/example/bell_tower/belltower/model/DeviceType")), accessFlags := 4122, slot := 4, constantValue := 0 }]
  methods := #[k6m0, k6m1]
  instanceTypes := #[(.object "java/lang/String"), .int, .int, (.object "java/lang/String")]
  staticTypes := #[(.object "com/example/bell_tower/belltower/model/DeviceType"), (.object "com/example/bell_tower/belltower/model/DeviceType"), (.object "com/example/bell_tower/belltower/model/DeviceType"), (.object "com/example/bell_tower/belltower/model/DeviceType"), (.array (.object "com/example/bell_tower/belltower/model/DeviceType"))]
  resolved := Array.replicate 120 none
  statics := some 0 }

def pool7 : Array CpInfo := pool [(8, .class_ 10), (1, u "java/lang/Iterable"), (24, .class_ 36), (0, u "java/lang/Object")] 25

/-- java/lang/Iterable -/
def k7 : Class := { plain "java/lang/Iterable" (some 0) with
  accessFlags := 1537
  interfaces := #[]
  cf := some (fileOf pool7 8 #[] #[] 1537 35 #[] #[])
  fields := #[]
  methods := #[]
  instanceTypes := #[]
  staticTypes := #[]
  resolved := Array.replicate 62 none
  statics := none }

def pool8 : Array CpInfo := pool [(10, .class_ 12), (1, u "java/util/Collection"), (47, .class_ 61), (0, u "java/lang/Object"), (0, .class_ 63), (0, u "java/lang/Iterable")] 51

/-- java/util/Collection -/
def k8 : Class := { plain "java/util/Collection" (some 0) with
  accessFlags := 1537
  interfaces := #[7]
  cf := some (fileOf pool8 10 #[] #[] 1537 60 #[62] #[])
  fields := #[]
  methods := #[]
  instanceTypes := #[]
  staticTypes := #[]
  resolved := Array.replicate 115 none
  statics := none }

def pool9 : Array CpInfo := pool [(1, .methodref 2 3), (0, .class_ 4), (0, .nameAndType 5 6), (0, u "java/lang/Object"), (0, u "<init>"), (0, u "()V"), (1, .class_ 10), (1, u "java/util/AbstractCollection"), (66, .class_ 78), (0, u "java/util/Collection")] 81

def k9c0 : Code := { maxStack := 1, maxLocals := 1, code := jdk_22_method_1_code, exceptionTable := #[], attributes := #[] }
def k9m0 : Method := { name := "<init>", desc := "()V", sig := { parameters := [], returnType := none }, accessFlags := 4, code := some k9c0 }
/-- java/util/AbstractCollection -/
def k9 : Class := { plain "java/util/AbstractCollection" (some 0) with
  accessFlags := 1057
  interfaces := #[8]
  cf := some (fileOf pool9 8 #[] #[{ accessFlags := 4, nameIndex := 5, descriptorIndex := 6, attributes := #[] }] 1057 2 #[77] #[])
  fields := #[]
  methods := #[k9m0]
  instanceTypes := #[]
  staticTypes := #[]
  resolved := Array.replicate 160 none
  statics := none }

def pool10 : Array CpInfo := pool [(8, .class_ 10), (1, u "java/util/SequencedCollection"), (15, .class_ 27), (0, u "java/lang/Object"), (0, .class_ 29), (0, u "java/util/Collection")] 27

/-- java/util/SequencedCollection -/
def k10 : Class := { plain "java/util/SequencedCollection" (some 0) with
  accessFlags := 1537
  interfaces := #[8]
  cf := some (fileOf pool10 8 #[] #[] 1537 26 #[28] #[])
  fields := #[]
  methods := #[]
  instanceTypes := #[]
  staticTypes := #[]
  resolved := Array.replicate 57 none
  statics := none }

def pool11 : Array CpInfo := pool [(8, .class_ 10), (1, u "java/util/List"), (64, u "get"), (0, u "(I)Ljava/lang/Object;"), (2, u "size"), (0, u "()I"), (22, .class_ 104), (0, u "java/lang/Object"), (15, .class_ 121), (0, u "java/util/SequencedCollection")] 129

def k11m0 : Method := { name := "size", desc := "()I", sig := { parameters := [], returnType := some .int }, accessFlags := 1025, code := none }
def k11m1 : Method := { name := "get", desc := "(I)Ljava/lang/Object;", sig := { parameters := [.int], returnType := some (.object "java/lang/Object") }, accessFlags := 1025, code := none }
/-- java/util/List -/
def k11 : Class := { plain "java/util/List" (some 0) with
  accessFlags := 1537
  interfaces := #[10]
  cf := some (fileOf pool11 8 #[] #[{ accessFlags := 1025, nameIndex := 79, descriptorIndex := 80, attributes := #[] }, { accessFlags := 1025, nameIndex := 75, descriptorIndex := 76, attributes := #[] }] 1537 103 #[120] #[])
  fields := #[]
  methods := #[k11m0, k11m1]
  instanceTypes := #[]
  staticTypes := #[]
  resolved := Array.replicate 251 none
  statics := none }

def pool12 : Array CpInfo := pool [(1, .methodref 2 3), (0, .class_ 4), (0, .nameAndType 5 6), (0, u "java/util/AbstractCollection"), (0, u "<init>"), (0, u "()V"), (0, .fieldref 8 9), (0, .class_ 10), (0, .nameAndType 11 12), (0, u "java/util/AbstractList"), (0, u "modCount"), (0, u "I"), (64, .class_ 78), (0, u "java/util/AbstractList$Itr"), (3, .class_ 83), (0, u "java/util/AbstractList$ListItr"), (9, .class_ 94), (0, u "java/util/AbstractList$RandomAccessSubList"), (3, .class_ 99), (0, u "java/util/AbstractList$SubList"), (33, .class_ 134), (0, u "java/util/List"), (73, .class_ 209), (0, u "java/util/AbstractList$SubList$1"), (0, .class_ 211), (0, u "java/util/AbstractList$RandomAccessSpliterator")] 6

def k12c0 : Code := { maxStack := 2, maxLocals := 1, code := jdk_39_method_1_code, exceptionTable := #[], attributes := #[] }
def k12m0 : Method := { name := "<init>", desc := "()V", sig := { parameters := [], returnType := none }, accessFlags := 4, code := some k12c0 }
/-- java/util/AbstractList -/
def k12 : Class := { plain "java/util/AbstractList" (some 9) with
  accessFlags := 1057
  interfaces := #[11]
  cf := some (fileOf pool12 8 #[.nestMembers #[93, 98, 208, 210, 82, 77]] #[{ accessFlags := 4, nameIndex := 5, descriptorIndex := 6, attributes := #[] }] 1057 2 #[133] #[{ accessFlags := 132, nameIndex := 11, descriptorIndex := 12, attributes := #[] }])
  fields := #[{ name := "modCount", type := .int, accessFlags := 132, slot := 0, constantValue := 0 }]
  methods := #[k12m0]
  instanceTypes := #[.int]
  staticTypes := #[]
  resolved := Array.replicate 218 none
  statics := none }

def pool13 : Array CpInfo := pool [(1, .class_ 2), (0, u "java/util/RandomAccess"), (0, .class_ 4), (0, u "java/lang/Object")] 2

/-- java/util/RandomAccess -/
def k13 : Class := { plain "java/util/RandomAccess" (some 0) with
  accessFlags := 1537
  interfaces := #[]
  cf := some (fileOf pool13 1 #[] #[] 1537 3 #[] #[])
  fields := #[]
  methods := #[]
  instanceTypes := #[]
  staticTypes := #[]
  resolved := Array.replicate 7 none
  statics := none }

def pool14 : Array CpInfo := pool [(1, .class_ 2), (0, u "java/lang/Cloneable"), (0, .class_ 4), (0, u "java/lang/Object")] 2

/-- java/lang/Cloneable -/
def k14 : Class := { plain "java/lang/Cloneable" (some 0) with
  accessFlags := 1537
  interfaces := #[]
  cf := some (fileOf pool14 1 #[] #[] 1537 3 #[] #[])
  fields := #[]
  methods := #[]
  instanceTypes := #[]
  staticTypes := #[]
  resolved := Array.replicate 7 none
  statics := none }

def pool15 : Array CpInfo := pool [(1, .methodref 2 3), (0, .class_ 4), (0, .nameAndType 5 6), (0, u "java/util/AbstractList"), (0, u "<init>"), (0, u "()V"), (0, .class_ 8), (0, u "java/lang/Object"), (0, .fieldref 10 11), (0, .class_ 12), (0, .nameAndType 13 14), (0, u "java/util/ArrayList"), (0, u "elementData"), (0, u "[Ljava/lang/Object;"), (2, u "EMPTY_ELEMENTDATA"), (21, .fieldref 10 40), (0, .nameAndType 41 14), (0, u "DEFAULTCAPACITY_EMPTY_ELEMENTDATA"), (5, u "()[Ljava/lang/Object;"), (0, .fieldref 10 49), (0, .nameAndType 50 51), (0, u "size"), (0, u "I"), (11, .fieldref 10 64), (0, .nameAndType 65 51), (0, u "modCount"), (3, .methodref 10 70), (0, .nameAndType 71 72), (0, u "grow"), (0, u "(I)[Ljava/lang/Object;"), (6, .methodref 80 81), (0, .class_ 82), (0, .nameAndType 83 84), (0, u "java/lang/Math"), (0, u "max"), (0, u "(II)I"), (11, u "(Ljava/lang/Object;)Z"), (21, .methodref 119 120), (0, .class_ 121), (0, .nameAndType 122 84), (0, u "java/util/Objects"), (0, u "checkIndex"), (0, .methodref 10 124), (0, .nameAndType 13 125), (0, u "(I)Ljava/lang/Object;"), (3, .methodref 10 130), (0, .nameAndType 71 47), (0, .methodref 10 132), (0, .nameAndType 133 134), (0, u "add"), (0, u "(Ljava/lang/Object;[Ljava/lang/Object;I)V"), (13, .class_ 149), (0, u "java/util/List"), (36, u "()I"), (75, .class_ 263), (0, u "java/util/ArrayList$ListItr"), (3, .class_ 268), (0, u "java/util/ArrayList$Itr"), (7, .class_ 277), (0, u "java/util/ArrayList$SubList"), (12, .class_ 291), (0, u "java/util/ArrayList$ArrayListSpliterator"), (37, .class_ 330), (0, u "java/util/RandomAccess"), (0, .class_ 332), (0, u "java/lang/Cloneable"), (0, .class_ 334), (0, u "java/io/Serializable"), (0, u "serialVersionUID"), (0, u "J"), (3, u "DEFAULT_CAPACITY"), (40, u "get"), (118, .class_ 501), (0, u "java/util/ArrayList$SubList$2"), (0, .class_ 503), (0, u "java/util/ArrayList$SubList$1")] 5

def k15c0 : Code := { maxStack := 2, maxLocals := 1, code := jdk_38_method_2_code, exceptionTable := #[], attributes := #[] }
def k15m0 : Method := { name := "<init>", desc := "()V", sig := { parameters := [], returnType := none }, accessFlags := 1, code := some k15c0 }
def k15c1 : Code := { maxStack := 4, maxLocals := 4, code := jdk_38_method_6_code, exceptionTable := #[], attributes := #[] }
def k15m1 : Method := { name := "grow", desc := "(I)[Ljava/lang/Object;", sig := { parameters := [.int], returnType := some (.array (.object "java/lang/Object")) }, accessFlags := 2, code := some k15c1 }
def k15c2 : Code := { maxStack := 3, maxLocals := 1, code := jdk_38_method_7_code, exceptionTable := #[], attributes := #[] }
def k15m2 : Method := { name := "grow", desc := "()[Ljava/lang/Object;", sig := { parameters := [], returnType := some (.array (.object "java/lang/Object")) }, accessFlags := 2, code := some k15c2 }
def k15c3 : Code := { maxStack := 1, maxLocals := 1, code := jdk_38_method_8_code, exceptionTable := #[], attributes := #[] }
def k15m3 : Method := { name := "size", desc := "()I", sig := { parameters := [], returnType := some .int }, accessFlags := 1, code := some k15c3 }
def k15c4 : Code := { maxStack := 2, maxLocals := 2, code := jdk_38_method_18_code, exceptionTable := #[], attributes := #[] }
def k15m4 : Method := { name := "elementData", desc := "(I)Ljava/lang/Object;", sig := { parameters := [.int], returnType := some (.object "java/lang/Object") }, accessFlags := 0, code := some k15c4 }
def k15c5 : Code := { maxStack := 2, maxLocals := 2, code := jdk_38_method_20_code, exceptionTable := #[], attributes := #[] }
def k15m5 : Method := { name := "get", desc := "(I)Ljava/lang/Object;", sig := { parameters := [.int], returnType := some (.object "java/lang/Object") }, accessFlags := 1, code := some k15c5 }
def k15c6 : Code := { maxStack := 3, maxLocals := 4, code := jdk_38_method_24_code, exceptionTable := #[], attributes := #[] }
def k15m6 : Method := { name := "add", desc := "(Ljava/lang/Object;[Ljava/lang/Object;I)V", sig := { parameters := [(.object "java/lang/Object"), (.array (.object "java/lang/Object")), .int], returnType := none }, accessFlags := 2, code := some k15c6 }
def k15c7 : Code := { maxStack := 4, maxLocals := 2, code := jdk_38_method_25_code, exceptionTable := #[], attributes := #[] }
def k15m7 : Method := { name := "add", desc := "(Ljava/lang/Object;)Z", sig := { parameters := [(.object "java/lang/Object")], returnType := some .boolean }, accessFlags := 1, code := some k15c7 }
/-- java/util/ArrayList -/
def k15 : Class := { plain "java/util/ArrayList" (some 12) with
  accessFlags := 33
  interfaces := #[11, 13, 14, 4]
  cf := some (fileOf pool15 10 #[.nestMembers #[290, 276, 500, 502, 262, 267]] #[{ accessFlags := 1, nameIndex := 5, descriptorIndex := 6, attributes := #[] }, { accessFlags := 2, nameIndex := 71, descriptorIndex := 72, attributes := #[] }, { accessFlags := 2, nameIndex := 71, descriptorIndex := 47, attributes := #[] }, { accessFlags := 1, nameIndex := 50, descriptorIndex := 186, attributes := #[] }, { accessFlags := 0, nameIndex := 13, descriptorIndex := 125, attributes := #[] }, { accessFlags := 1, nameIndex := 381, descriptorIndex := 125, attributes := #[] }, { accessFlags := 2, nameIndex := 133, descriptorIndex := 134, attributes := #[] }, { accessFlags := 1, nameIndex := 133, descriptorIndex := 96, attributes := #[] }] 33 2 #[148, 329, 331, 333] #[{ accessFlags := 26, nameIndex := 335, descriptorIndex := 336, attributes := #[] }, { accessFlags := 26, nameIndex := 340, descriptorIndex := 51, attributes := #[] }, { accessFlags := 26, nameIndex := 17, descriptorIndex := 14, attributes := #[] }, { accessFlags := 26, nameIndex := 41, descriptorIndex := 14, attributes := #[] }, { accessFlags := 128, nameIndex := 13, descriptorIndex := 14, attributes := #[] }, { accessFlags := 2, nameIndex := 50, descriptorIndex := 51, attributes := #[] }])
  fields := #[{ name := "serialVersionUID", type := .long, accessFlags := 26, slot := 0, constantValue := 0 }, { name := "DEFAULT_CAPACITY", type := .int, accessFlags := 26, slot := 1, constantValue := 0 }, { name := "EMPTY_ELEMENTDATA", type := (.array (.object "java/lang/Object")), accessFlags := 26, slot := 2, constantValue := 0 }, { name := "DEFAULTCAPACITY_EMPTY_ELEMENTDATA", type := (.array (.object "java/lang/Object")), accessFlags := 26, slot := 3, constantValue := 0 }, { name := "elementData", type := (.array (.object "java/lang/Object")), accessFlags := 128, slot := 1, constantValue := 0 }, { name := "size", type := .int, accessFlags := 2, slot := 2, constantValue := 0 }]
  methods := #[k15m0, k15m1, k15m2, k15m3, k15m4, k15m5, k15m6, k15m7]
  instanceTypes := #[.int, (.array (.object "java/lang/Object")), .int]
  staticTypes := #[.long, .int, (.array (.object "java/lang/Object")), (.array (.object "java/lang/Object"))]
  resolved := Array.replicate 509 none
  statics := some 1 }

def pool16 : Array CpInfo := pool [(1, .class_ 2), (0, u "java/lang/Math"), (1, .class_ 6), (1, u "java/lang/Object"), (0, u "<init>"), (0, u "()V"), (89, .class_ 100), (1, u "java/lang/Math$RandomNumberGeneratorHolder"), (71, u "negativeZeroFloatBits"), (0, u "J"), (2, u "negativeZeroDoubleBits"), (21, u "max"), (46, u "$assertionsDisabled"), (0, u "Z"), (88, u "(II)I"), (2, u "twoToTheDoubleScaleDown"), (0, u "D"), (4, u "twoToTheDoubleScaleUp"), (9, u "E"), (3, u "PI"), (2, u "TAU"), (2, u "DEGREES_TO_RADIANS"), (0, u "RADIANS_TO_DEGREES")] 94

def k16m0 : Method := { name := "<init>", desc := "()V", sig := { parameters := [], returnType := none }, accessFlags := 2, code := none }
def k16c1 : Code := { maxStack := 2, maxLocals := 2, code := jdk_29_method_65_code, exceptionTable := #[], attributes := #[] }
def k16m1 : Method := { name := "max", desc := "(II)I", sig := { parameters := [.int, .int], returnType := some .int }, accessFlags := 9, code := some k16c1 }
/-- java/lang/Math -/
def k16 : Class := { plain "java/lang/Math" (some 0) with
  accessFlags := 49
  interfaces := #[]
  cf := some (fileOf pool16 1 #[.nestMembers #[98]] #[{ accessFlags := 2, nameIndex := 7, descriptorIndex := 8, attributes := #[] }, { accessFlags := 9, nameIndex := 198, descriptorIndex := 335, attributes := #[] }] 49 4 #[] #[{ accessFlags := 25, nameIndex := 354, descriptorIndex := 339, attributes := #[] }, { accessFlags := 25, nameIndex := 358, descriptorIndex := 339, attributes := #[] }, { accessFlags := 25, nameIndex := 361, descriptorIndex := 339, attributes := #[] }, { accessFlags := 26, nameIndex := 364, descriptorIndex := 339, attributes := #[] }, { accessFlags := 26, nameIndex := 365, descriptorIndex := 339, attributes := #[] }, { accessFlags := 26, nameIndex := 172, descriptorIndex := 173, attributes := #[] }, { accessFlags := 26, nameIndex := 176, descriptorIndex := 173, attributes := #[] }, { accessFlags := 8, nameIndex := 344, descriptorIndex := 339, attributes := #[] }, { accessFlags := 8, nameIndex := 338, descriptorIndex := 339, attributes := #[] }, { accessFlags := 4120, nameIndex := 245, descriptorIndex := 246, attributes := #[] }])
  fields := #[{ name := "E", type := .double, accessFlags := 25, slot := 0, constantValue := 0 }, { name := "PI", type := .double, accessFlags := 25, slot := 1, constantValue := 0 }, { name := "TAU", type := .double, accessFlags := 25, slot := 2, constantValue := 0 }, { name := "DEGREES_TO_RADIANS", type := .double, accessFlags := 26, slot := 3, constantValue := 0 }, { name := "RADIANS_TO_DEGREES", type := .double, accessFlags := 26, slot := 4, constantValue := 0 }, { name := "negativeZeroFloatBits", type := .long, accessFlags := 26, slot := 5, constantValue := 0 }, { name := "negativeZeroDoubleBits", type := .long, accessFlags := 26, slot := 6, constantValue := 0 }, { name := "twoToTheDoubleScaleUp", type := .double, accessFlags := 8, slot := 7, constantValue := 0 }, { name := "twoToTheDoubleScaleDown", type := .double, accessFlags := 8, slot := 8, constantValue := 0 }, { name := "$assertionsDisabled", type := .boolean, accessFlags := 4120, slot := 9, constantValue := 0 }]
  methods := #[k16m0, k16m1]
  instanceTypes := #[]
  staticTypes := #[.double, .double, .double, .double, .double, .long, .long, .double, .double, .boolean]
  resolved := Array.replicate 460 none
  statics := none }

def pool17 : Array CpInfo := pool [(2, .class_ 4), (1, u "java/lang/Object"), (0, u "<init>"), (0, u "()V"), (35, .class_ 44), (1, u "java/util/Objects"), (60, .methodref 106 107), (0, .class_ 108), (0, .nameAndType 109 110), (0, u "jdk/internal/util/Preconditions"), (0, u "checkIndex"), (0, u "(IILjava/util/function/BiFunction;)I"), (60, u "(II)I")] 12

def k17m0 : Method := { name := "<init>", desc := "()V", sig := { parameters := [], returnType := none }, accessFlags := 2, code := none }
def k17c1 : Code := { maxStack := 3, maxLocals := 2, code := jdk_31_method_17_code, exceptionTable := #[], attributes := #[] }
def k17m1 : Method := { name := "checkIndex", desc := "(II)I", sig := { parameters := [.int, .int], returnType := some .int }, accessFlags := 9, code := some k17c1 }
/-- java/util/Objects -/
def k17 : Class := { plain "java/util/Objects" (some 0) with
  accessFlags := 49
  interfaces := #[]
  cf := some (fileOf pool17 42 #[] #[{ accessFlags := 2, nameIndex := 5, descriptorIndex := 6, attributes := #[] }, { accessFlags := 9, nameIndex := 109, descriptorIndex := 171, attributes := #[] }] 49 2 #[] #[])
  fields := #[]
  methods := #[k17m0, k17m1]
  instanceTypes := #[]
  staticTypes := #[]
  resolved := Array.replicate 184 none
  statics := none }

def pool18 : Array CpInfo := pool [(2, .class_ 4), (1, u "java/lang/Object"), (0, u "<init>"), (0, u "()V"), (17, .class_ 26), (1, u "jdk/internal/util/Preconditions"), (6, u "checkIndex"), (21, .class_ 56), (0, u "jdk/internal/util/Preconditions$4"), (57, .class_ 115), (0, u "jdk/internal/util/Preconditions$1"), (7, u "SIOOBE_FORMATTER"), (0, u "Ljava/util/function/BiFunction;"), (0, .class_ 126), (0, u "jdk/internal/util/Preconditions$2"), (3, u "AIOOBE_FORMATTER"), (0, .class_ 132), (0, u "jdk/internal/util/Preconditions$3"), (3, u "IOOBE_FORMATTER"), (41, u "(IILjava/util/function/BiFunction;)I")] 15

def k18m0 : Method := { name := "<init>", desc := "()V", sig := { parameters := [], returnType := none }, accessFlags := 1, code := none }
def k18c1 : Code := { maxStack := 3, maxLocals := 3, code := jdk_41_method_11_code, exceptionTable := #[], attributes := #[] }
def k18m1 : Method := { name := "checkIndex", desc := "(IILjava/util/function/BiFunction;)I", sig := { parameters := [.int, .int, (.object "java/util/function/BiFunction")], returnType := some .int }, accessFlags := 9, code := some k18c1 }
/-- jdk/internal/util/Preconditions -/
def k18 : Class := { plain "jdk/internal/util/Preconditions" (some 0) with
  accessFlags := 33
  interfaces := #[]
  cf := some (fileOf pool18 24 #[.nestMembers #[55, 131, 125, 114]] #[{ accessFlags := 1, nameIndex := 5, descriptorIndex := 6, attributes := #[] }, { accessFlags := 9, nameIndex := 33, descriptorIndex := 178, attributes := #[] }] 33 2 #[] #[{ accessFlags := 25, nameIndex := 123, descriptorIndex := 124, attributes := #[] }, { accessFlags := 25, nameIndex := 130, descriptorIndex := 124, attributes := #[] }, { accessFlags := 25, nameIndex := 136, descriptorIndex := 124, attributes := #[] }])
  fields := #[{ name := "SIOOBE_FORMATTER", type := (.object "java/util/function/BiFunction"), accessFlags := 25, slot := 0, constantValue := 0 }, { name := "AIOOBE_FORMATTER", type := (.object "java/util/function/BiFunction"), accessFlags := 25, slot := 1, constantValue := 0 }, { name := "IOOBE_FORMATTER", type := (.object "java/util/function/BiFunction"), accessFlags := 25, slot := 2, constantValue := 0 }]
  methods := #[k18m0, k18m1]
  instanceTypes := #[]
  staticTypes := #[(.object "java/util/function/BiFunction"), (.object "java/util/function/BiFunction"), (.object "java/util/function/BiFunction")]
  resolved := Array.replicate 194 none
  statics := none }

/-- the primitive byte -/
def k19 : Class := { plain "byte" none with kind := .primitive 'B', accessFlags := 0x411 }
/-- [B -/
def k20 : Class := { plain "[B" (some 0) with kind := .array 19 .byte, interfaces := #[14, 4], accessFlags := 1041 }

/-- the primitive int -/
def k21 : Class := { plain "int" none with kind := .primitive 'I', accessFlags := 0x411 }
/-- [I -/
def k22 : Class := { plain "[I" (some 0) with kind := .array 21 .int, interfaces := #[14, 4], accessFlags := 1041 }

/-- [Lcom/example/bell_tower/belltower/model/DeviceType; -/
def k23 : Class := { plain "[Lcom/example/bell_tower/belltower/model/DeviceType;" (some 0) with kind := .array 6 (.object "com/example/bell_tower/belltower/model/DeviceType"), interfaces := #[14, 4], accessFlags := 1041 }

/-- [Ljava/lang/Object; -/
def k24 : Class := { plain "[Ljava/lang/Object;" (some 0) with kind := .array 0 (.object "java/lang/Object"), interfaces := #[14, 4], accessFlags := 1041 }

def heap : Heap := #[{ cls := 6, slots := #[.ref 3, .ref 4, .ref 5, .ref 6, .ref 2], vm := .statics 6 },
  { cls := 15, slots := #[.long 0, .int 0, .ref 7, .ref 8], vm := .statics 15 },
  { cls := 23, slots := #[.ref 3, .ref 4, .ref 5, .ref 6], vm := .none },
  { cls := 6, slots := #[.null, .int 0, .int 0, .null], vm := .none },
  { cls := 6, slots := #[.null, .int 1, .int 0, .null], vm := .none },
  { cls := 6, slots := #[.null, .int 2, .int 0, .null], vm := .none },
  { cls := 6, slots := #[.null, .int 3, .int 0, .null], vm := .none },
  { cls := 24, slots := #[], vm := .none },
  { cls := 24, slots := #[], vm := .none }]
def classes : Array Class := #[k0, k1, k2, k3, k4, k5, k6, k7, k8, k9, k10, k11, k12, k13, k14, k15, k16, k17, k18, k19, k20, k21, k22, k23, k24]
def interned : List (Array UInt16 × Addr) := []
def slotsUsed : Nat := 29
def theMethod : MethodId := ⟨1, 1⟩
def args0 : Array Value := #[.int 5]
def aboutOver (below : List Frame) : State where
  vm := { classes := classes, interned := interned.toArray }
  heap := heap
  slotsUsed := slotsUsed
  threads := #[{ frames := .invoking theMethod args0 :: below }]
def below0 : List Frame := [.native { method := ⟨0, 0⟩, args := #[] }]
def about1 : State := aboutOver below0
def p0 : Program := .bare "" "" ""
def e0 : Env := launch0.env 0 0 0
theorem w_frames : about1.frames = Frame.invoking theMethod args0 :: below0 := rfl
set_option maxRecDepth 65536 in
theorem w_args : argsFit about1.vm theMethod args0 = true := by decide +kernel
set_option maxRecDepth 65536 in
theorem w_heap : heapFits about1 = true := by decide +kernel
set_option maxRecDepth 65536 in
theorem w_runnable : about1.curStatus? = some .runnable := by decide +kernel
set_option maxRecDepth 65536 in
theorem w_alone : about1.alone = true := by decide +kernel
set_option maxRecDepth 65536 in
theorem w_named : about1.methodNamed? x = some theMethod := by decide +kernel
set_option maxRecDepth 65536 in
theorem w_hears : about1.hears theMethod below0 = true := by decide +kernel
set_option maxRecDepth 65536 in
theorem w_ripe : about1.ripe theMethod args0 below0 = true := by decide +kernel
theorem w_running : about1.status = .running := rfl
set_option maxRecDepth 65536 in
theorem w_room : about1.hasRoom e0.platform room_1 = true :=
  launch0.hasRoom_least _ room_1 (by decide +kernel) (by decide +kernel) (by decide +kernel) (by decide +kernel) (by decide +kernel) (by decide +kernel)
theorem allAtoms_all (ts : List Jvm.Cond) (a : Array Jvm.Value) (st : Jvm.State) : (allAtoms ts).before a st = ts.all (fun c => c.before a st) := by
  induction ts with
  | nil => rfl
  | cons c t ih =>
    show (Jvm.Cond.and c (allAtoms t)).before a st = _
    rw [Jvm.Cond.before_and, ih, List.all_cons]
def words1 : List Jvm.Cond := Jvm.Cond.code x code maxLocals ret :: tables_1
/-- a 'code' word, met by the world's own term for the bytes: nothing is compared byte by byte -/
theorem code_word {y : MethodName} {bytes : ByteArray} {mx : Nat} {rt : Option FieldType} {a : Array Value} {s : State} {m : MethodId} {meth : Method} {c : Code} (h1 : s.methodNamed? y = some m) (h2 : s.vm.method? m = some meth) (h3 : meth.code = some c) (h4 : c.code = bytes)
    (h5 : (c.maxLocals == mx && c.exceptionTable.isEmpty && decide (c.maxStack ≤ mostOperands) && decide (meth.sig.returnType = rt) && !meth.locks && decide (parseMethodDescriptor y.desc = some meth.sig)) = true) : (Jvm.Cond.code y bytes mx rt).before a s = true := by
  simp only [Bool.and_eq_true, beq_iff_eq, Bool.not_eq_true', decide_eq_true_eq] at h5
  obtain ⟨⟨⟨⟨⟨g1, g2⟩, g3⟩, g4⟩, g5⟩, g6⟩ := h5
  simp [Cond.before, Cond.holds, Cond.value, h1, h2, h3, h4, g1, g2, g3, g4, g5, g6]
def isCode : Jvm.Cond → Bool
  | .code _ _ _ _ => true
  | _ => false
theorem all_split {L : List Jvm.Cond} {P : Jvm.Cond → Bool} (h1 : L.all (fun c => isCode c || P c) = true) (h2 : ∀ c ∈ L.filter isCode, P c = true) : L.all P = true := by
  refine List.all_eq_true.mpr fun c hc => ?_
  have h := List.all_eq_true.mp h1 c hc
  rcases Bool.eq_false_or_eq_true (isCode c) with hi | hi
  · exact h2 c (List.mem_filter.mpr ⟨hc, hi⟩)
  · simpa [hi] using h
set_option maxRecDepth 65536 in
theorem w_c0 : (Jvm.Cond.code x code maxLocals ret).before args0 about1 = true := code_word (m := ⟨1, 1⟩) (meth := k1m1) (c := k1c1) (by decide +kernel) rfl rfl rfl (by decide +kernel)
set_option maxRecDepth 65536 in
theorem w_c1 : (Jvm.Cond.code ({ cls := "com/example/bell_tower/belltower/model/DeviceType", name := "pushAddressed", desc := "()Ljava/util/List;" } : Jvm.MethodName) prog_8_method_6_code (5 : Nat) (Option.some (Jvm.ClassFile.FieldType.object "java/util/List"))).before args0 about1 = true := code_word (m := ⟨6, 1⟩) (meth := k6m1) (c := k6c1) (by decide +kernel) rfl rfl rfl (by decide +kernel)
set_option maxRecDepth 65536 in
theorem w_c2 : (Jvm.Cond.code ({ cls := "java/util/ArrayList", name := "<init>", desc := "()V" } : Jvm.MethodName) jdk_38_method_2_code (1 : Nat) (Option.none : Option Jvm.ClassFile.FieldType)).before args0 about1 = true := code_word (m := ⟨15, 0⟩) (meth := k15m0) (c := k15c0) (by decide +kernel) rfl rfl rfl (by decide +kernel)
set_option maxRecDepth 65536 in
theorem w_c3 : (Jvm.Cond.code ({ cls := "java/util/AbstractList", name := "<init>", desc := "()V" } : Jvm.MethodName) jdk_39_method_1_code (1 : Nat) (Option.none : Option Jvm.ClassFile.FieldType)).before args0 about1 = true := code_word (m := ⟨12, 0⟩) (meth := k12m0) (c := k12c0) (by decide +kernel) rfl rfl rfl (by decide +kernel)
set_option maxRecDepth 65536 in
theorem w_c4 : (Jvm.Cond.code ({ cls := "java/util/AbstractCollection", name := "<init>", desc := "()V" } : Jvm.MethodName) jdk_22_method_1_code (1 : Nat) (Option.none : Option Jvm.ClassFile.FieldType)).before args0 about1 = true := code_word (m := ⟨9, 0⟩) (meth := k9m0) (c := k9c0) (by decide +kernel) rfl rfl rfl (by decide +kernel)
set_option maxRecDepth 65536 in
theorem w_c5 : (Jvm.Cond.code ({ cls := "java/lang/Object", name := "<init>", desc := "()V" } : Jvm.MethodName) object_method_1_code (1 : Nat) (Option.none : Option Jvm.ClassFile.FieldType)).before args0 about1 = true := code_word (m := ⟨0, 0⟩) (meth := k0m0) (c := k0c0) (by decide +kernel) rfl rfl rfl (by decide +kernel)
set_option maxRecDepth 65536 in
theorem w_c6 : (Jvm.Cond.code ({ cls := "com/example/bell_tower/belltower/model/DeviceType", name := "values", desc := "()[Lcom/example/bell_tower/belltower/model/DeviceType;" } : Jvm.MethodName) prog_8_method_1_code (0 : Nat) (Option.some (Jvm.ClassFile.FieldType.array (Jvm.ClassFile.FieldType.object "com/example/bell_tower/belltower/model/DeviceType")))).before args0 about1 = true := code_word (m := ⟨6, 0⟩) (meth := k6m0) (c := k6c0) (by decide +kernel) rfl rfl rfl (by decide +kernel)
set_option maxRecDepth 65536 in
theorem w_c7 : (Jvm.Cond.code ({ cls := "java/util/ArrayList", name := "add", desc := "(Ljava/lang/Object;)Z" } : Jvm.MethodName) jdk_38_method_25_code (2 : Nat) (Option.some Jvm.ClassFile.FieldType.boolean)).before args0 about1 = true := code_word (m := ⟨15, 7⟩) (meth := k15m7) (c := k15c7) (by decide +kernel) rfl rfl rfl (by decide +kernel)
set_option maxRecDepth 65536 in
theorem w_c8 : (Jvm.Cond.code ({ cls := "java/util/ArrayList", name := "add", desc := "(Ljava/lang/Object;[Ljava/lang/Object;I)V" } : Jvm.MethodName) jdk_38_method_24_code (4 : Nat) (Option.none : Option Jvm.ClassFile.FieldType)).before args0 about1 = true := code_word (m := ⟨15, 6⟩) (meth := k15m6) (c := k15c6) (by decide +kernel) rfl rfl rfl (by decide +kernel)
set_option maxRecDepth 65536 in
theorem w_c9 : (Jvm.Cond.code ({ cls := "java/util/ArrayList", name := "grow", desc := "()[Ljava/lang/Object;" } : Jvm.MethodName) jdk_38_method_7_code (1 : Nat) (Option.some (Jvm.ClassFile.FieldType.array (Jvm.ClassFile.FieldType.object "java/lang/Object")))).before args0 about1 = true := code_word (m := ⟨15, 2⟩) (meth := k15m2) (c := k15c2) (by decide +kernel) rfl rfl rfl (by decide +kernel)
set_option maxRecDepth 65536 in
theorem w_c10 : (Jvm.Cond.code ({ cls := "java/util/ArrayList", name := "grow", desc := "(I)[Ljava/lang/Object;" } : Jvm.MethodName) jdk_38_method_6_code (4 : Nat) (Option.some (Jvm.ClassFile.FieldType.array (Jvm.ClassFile.FieldType.object "java/lang/Object")))).before args0 about1 = true := code_word (m := ⟨15, 1⟩) (meth := k15m1) (c := k15c1) (by decide +kernel) rfl rfl rfl (by decide +kernel)
set_option maxRecDepth 65536 in
theorem w_c11 : (Jvm.Cond.code ({ cls := "java/lang/Math", name := "max", desc := "(II)I" } : Jvm.MethodName) jdk_29_method_65_code (2 : Nat) (Option.some Jvm.ClassFile.FieldType.int)).before args0 about1 = true := code_word (m := ⟨16, 1⟩) (meth := k16m1) (c := k16c1) (by decide +kernel) rfl rfl rfl (by decide +kernel)
set_option maxRecDepth 65536 in
theorem w_c12 : (Jvm.Cond.code ({ cls := "java/util/ArrayList", name := "size", desc := "()I" } : Jvm.MethodName) jdk_38_method_8_code (1 : Nat) (Option.some Jvm.ClassFile.FieldType.int)).before args0 about1 = true := code_word (m := ⟨15, 3⟩) (meth := k15m3) (c := k15c3) (by decide +kernel) rfl rfl rfl (by decide +kernel)
set_option maxRecDepth 65536 in
theorem w_c13 : (Jvm.Cond.code ({ cls := "java/util/ArrayList", name := "get", desc := "(I)Ljava/lang/Object;" } : Jvm.MethodName) jdk_38_method_20_code (2 : Nat) (Option.some (Jvm.ClassFile.FieldType.object "java/lang/Object"))).before args0 about1 = true := code_word (m := ⟨15, 5⟩) (meth := k15m5) (c := k15c5) (by decide +kernel) rfl rfl rfl (by decide +kernel)
set_option maxRecDepth 65536 in
theorem w_c14 : (Jvm.Cond.code ({ cls := "java/util/Objects", name := "checkIndex", desc := "(II)I" } : Jvm.MethodName) jdk_31_method_17_code (2 : Nat) (Option.some Jvm.ClassFile.FieldType.int)).before args0 about1 = true := code_word (m := ⟨17, 1⟩) (meth := k17m1) (c := k17c1) (by decide +kernel) rfl rfl rfl (by decide +kernel)
set_option maxRecDepth 65536 in
theorem w_c15 : (Jvm.Cond.code ({ cls := "jdk/internal/util/Preconditions", name := "checkIndex", desc := "(IILjava/util/function/BiFunction;)I" } : Jvm.MethodName) jdk_41_method_11_code (3 : Nat) (Option.some Jvm.ClassFile.FieldType.int)).before args0 about1 = true := code_word (m := ⟨18, 1⟩) (meth := k18m1) (c := k18c1) (by decide +kernel) rfl rfl rfl (by decide +kernel)
set_option maxRecDepth 65536 in
theorem w_c16 : (Jvm.Cond.code ({ cls := "java/util/ArrayList", name := "elementData", desc := "(I)Ljava/lang/Object;" } : Jvm.MethodName) jdk_38_method_18_code (2 : Nat) (Option.some (Jvm.ClassFile.FieldType.object "java/lang/Object"))).before args0 about1 = true := code_word (m := ⟨15, 4⟩) (meth := k15m4) (c := k15c4) (by decide +kernel) rfl rfl rfl (by decide +kernel)
def codes1 : List Jvm.Cond := [Jvm.Cond.code x code maxLocals ret, Jvm.Cond.code ({ cls := "com/example/bell_tower/belltower/model/DeviceType", name := "pushAddressed", desc := "()Ljava/util/List;" } : Jvm.MethodName) prog_8_method_6_code (5 : Nat) (Option.some (Jvm.ClassFile.FieldType.object "java/util/List")), Jvm.Cond.code ({ cls := "java/util/ArrayList", name := "<init>", desc := "()V" } : Jvm.MethodName) jdk_38_method_2_code (1 : Nat) (Option.none : Option Jvm.ClassFile.FieldType), Jvm.Cond.code ({ cls := "java/util/AbstractList", name := "<init>", desc := "()V" } : Jvm.MethodName) jdk_39_method_1_code (1 : Nat) (Option.none : Option Jvm.ClassFile.FieldType), Jvm.Cond.code ({ cls := "java/util/AbstractCollection", name := "<init>", desc := "()V" } : Jvm.MethodName) jdk_22_method_1_code (1 : Nat) (Option.none : Option Jvm.ClassFile.FieldType), Jvm.Cond.code ({ cls := "java/lang/Object", name := "<init>", desc := "()V" } : Jvm.MethodName) object_method_1_code (1 : Nat) (Option.none : Option Jvm.ClassFile.FieldType), Jvm.Cond.code ({ cls := "com/example/bell_tower/belltower/model/DeviceType", name := "values", desc := "()[Lcom/example/bell_tower/belltower/model/DeviceType;" } : Jvm.MethodName) prog_8_method_1_code (0 : Nat) (Option.some (Jvm.ClassFile.FieldType.array (Jvm.ClassFile.FieldType.object "com/example/bell_tower/belltower/model/DeviceType"))), Jvm.Cond.code ({ cls := "java/util/ArrayList", name := "add", desc := "(Ljava/lang/Object;)Z" } : Jvm.MethodName) jdk_38_method_25_code (2 : Nat) (Option.some Jvm.ClassFile.FieldType.boolean), Jvm.Cond.code ({ cls := "java/util/ArrayList", name := "add", desc := "(Ljava/lang/Object;[Ljava/lang/Object;I)V" } : Jvm.MethodName) jdk_38_method_24_code (4 : Nat) (Option.none : Option Jvm.ClassFile.FieldType), Jvm.Cond.code ({ cls := "java/util/ArrayList", name := "grow", desc := "()[Ljava/lang/Object;" } : Jvm.MethodName) jdk_38_method_7_code (1 : Nat) (Option.some (Jvm.ClassFile.FieldType.array (Jvm.ClassFile.FieldType.object "java/lang/Object"))), Jvm.Cond.code ({ cls := "java/util/ArrayList", name := "grow", desc := "(I)[Ljava/lang/Object;" } : Jvm.MethodName) jdk_38_method_6_code (4 : Nat) (Option.some (Jvm.ClassFile.FieldType.array (Jvm.ClassFile.FieldType.object "java/lang/Object"))), Jvm.Cond.code ({ cls := "java/lang/Math", name := "max", desc := "(II)I" } : Jvm.MethodName) jdk_29_method_65_code (2 : Nat) (Option.some Jvm.ClassFile.FieldType.int), Jvm.Cond.code ({ cls := "java/util/ArrayList", name := "size", desc := "()I" } : Jvm.MethodName) jdk_38_method_8_code (1 : Nat) (Option.some Jvm.ClassFile.FieldType.int), Jvm.Cond.code ({ cls := "java/util/ArrayList", name := "get", desc := "(I)Ljava/lang/Object;" } : Jvm.MethodName) jdk_38_method_20_code (2 : Nat) (Option.some (Jvm.ClassFile.FieldType.object "java/lang/Object")), Jvm.Cond.code ({ cls := "java/util/Objects", name := "checkIndex", desc := "(II)I" } : Jvm.MethodName) jdk_31_method_17_code (2 : Nat) (Option.some Jvm.ClassFile.FieldType.int), Jvm.Cond.code ({ cls := "jdk/internal/util/Preconditions", name := "checkIndex", desc := "(IILjava/util/function/BiFunction;)I" } : Jvm.MethodName) jdk_41_method_11_code (3 : Nat) (Option.some Jvm.ClassFile.FieldType.int), Jvm.Cond.code ({ cls := "java/util/ArrayList", name := "elementData", desc := "(I)Ljava/lang/Object;" } : Jvm.MethodName) jdk_38_method_18_code (2 : Nat) (Option.some (Jvm.ClassFile.FieldType.object "java/lang/Object"))]
set_option maxRecDepth 65536 in
theorem codes_eq : words1.filter isCode = codes1 := rfl
theorem w_codes : ∀ c ∈ words1.filter isCode, c.before args0 about1 = true := by
  rw [codes_eq]
  intro c hc
  simp only [codes1, List.mem_cons, List.not_mem_nil, or_false] at hc
  rcases hc with rfl | rfl | rfl | rfl | rfl | rfl | rfl | rfl | rfl | rfl | rfl | rfl | rfl | rfl | rfl | rfl | rfl
  · exact w_c0
  · exact w_c1
  · exact w_c2
  · exact w_c3
  · exact w_c4
  · exact w_c5
  · exact w_c6
  · exact w_c7
  · exact w_c8
  · exact w_c9
  · exact w_c10
  · exact w_c11
  · exact w_c12
  · exact w_c13
  · exact w_c14
  · exact w_c15
  · exact w_c16
set_option maxRecDepth 65536 in
theorem w_t1 : (words1.take 24).all (fun c => isCode c || c.before args0 about1) = true := by decide +kernel
set_option maxRecDepth 65536 in
theorem w_t2 : ((words1.drop 24).take 24).all (fun c => isCode c || c.before args0 about1) = true := by decide +kernel
set_option maxRecDepth 65536 in
theorem w_t3 : (((words1.drop 24).drop 24).take 24).all (fun c => isCode c || c.before args0 about1) = true := by decide +kernel
set_option maxRecDepth 65536 in
theorem w_t4 : ((((words1.drop 24).drop 24).drop 24).take 24).all (fun c => isCode c || c.before args0 about1) = true := by decide +kernel
set_option maxRecDepth 65536 in
theorem w_t5 : ((((words1.drop 24).drop 24).drop 24).drop 24).all (fun c => isCode c || c.before args0 about1) = true := by decide +kernel
theorem w_tables : (allAtoms (Jvm.Cond.code x code maxLocals ret :: tables_1)).before args0 about1 = true := by
  rw [allAtoms_all]
  show words1.all (fun c => c.before args0 about1) = true
  refine all_split ?_ w_codes
  rw [← List.take_append_drop 24 words1, List.all_append, w_t1, ← List.take_append_drop 24 (words1.drop 24), List.all_append, w_t2, ← List.take_append_drop 24 ((words1.drop 24).drop 24), List.all_append, w_t3, ← List.take_append_drop 24 (((words1.drop 24).drop 24).drop 24), List.all_append, w_t4, w_t5]
  rfl
set_option maxRecDepth 65536 in
theorem w_rest : rest_1_c.before args0 about1 = true := by decide +kernel
set_option maxRecDepth 65536 in
theorem w_case : (Jvm.Cond.and given_1 narrow_1).before args0 about1 = true := by decide +kernel
theorem w_applies : (headSpec (Jvm.Cond.code x code maxLocals ret :: tables_1) room_1).applies x e0.platform about1 = true :=
  (Spec.applies_iff w_frames).mpr ⟨w_running, w_runnable, w_alone, w_named, w_hears, w_ripe, w_room, w_tables⟩
theorem atStart : AtStart classFile x code maxLocals ret World_1 tables_1 room_1 Calls_1 rest_1 Pre_1 launch0 p0 e0 about1 theMethod args0 below0 :=
  ⟨lists_1, trivial, launch0.admits_env _ _ _, launch0.least_env, fairChoices_fair.cas, fairChoices_fair.clock, w_frames, w_args, w_heap, w_applies, trivial, w_rest, w_case⟩
end start1
theorem witness_1 : WitnessClaimed_1 := ⟨start1.p0, start1.e0, start1.about1, start1.theMethod, start1.args0, start1.below0, start1.atStart⟩
end Jvm.Pilot.@@N@@
