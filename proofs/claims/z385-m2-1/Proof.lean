import JvmDerived
import JvmDerived.Pilot.@@N@@Statement
import JvmDerived.Pilot.@@N@@Code
set_option linter.unusedVariables false
set_option linter.unusedSimpArgs false
namespace Jvm.Pilot.@@N@@
open Jvm Jvm.ClassFile Sem Op Lib Jvm.Free Jvm.Stand Jvm.LawKit Jvm.RoadKit Bundle Jvm.Pilot.@@N@@.Jvm.D
section OwnKit
variable {p : Program} {l : Launch} {e : Env} {R : Room} {s : State} {m : MethodId} {args : Array Value} {below : List Frame} {meth : Method} {c : Code} {T : State} {locs : List Loc} {cells slots : Nat} {Z : State} {a0 : Array Value} {h h' h0 : Heap} {a b : Addr} {sl : Nat} {v w : Value} {C n d : String}
theorem own_retZ (X : Stand p l e R s m args below meth c T locs cells slots) (hx : p.tables.exec = Jvm.exec) {pc : Nat} {Ls : Array Slot} {z : Int32} {rest : List Value} (hz : nar .boolean z = z) (hret : meth.sig.returnType = some .boolean) (hd : decode c.code pc = .ok (.ireturn, 1)) {fs : List Frame}
    (hl : ∀ (f : JFrame) (acts : List Action), f.method = m → f.locked = none → f.entered = [] → (doReturn e (T.setTop f) acts (some (.int z))).1 = T.setFrames fs) : Steps p.tables e below (T.setTop (mkF m pc Ls (.int z :: rest))) (T.setFrames fs) :=
  retN X hx hret (Or.inl rfl) hd (by rw [hz]; exact hl)
theorem own_retI (X : Stand p l e R s m args below meth c T locs cells slots) (hx : p.tables.exec = Jvm.exec) {pc : Nat} {Ls : Array Slot} {z : Int32} {rest : List Value} (hret : meth.sig.returnType = some .int) (hd : decode c.code pc = .ok (.ireturn, 1)) {fs : List Frame}
    (hl : ∀ (f : JFrame) (acts : List Action), f.method = m → f.locked = none → f.entered = [] → (doReturn e (T.setTop f) acts (some (.int z))).1 = T.setFrames fs) : Steps p.tables e below (T.setTop (mkF m pc Ls (.int z :: rest))) (T.setFrames fs) :=
  retOut X hx hret rfl (Or.inl ⟨rfl, Or.inl rfl, z, rfl⟩) hd hl
theorem own_retJ (X : Stand p l e R s m args below meth c T locs cells slots) (hx : p.tables.exec = Jvm.exec) {pc : Nat} {Ls : Array Slot} {z : Int64} {rest : List Value} (hret : meth.sig.returnType = some .long) (hd : decode c.code pc = .ok (.lreturn, 1)) {fs : List Frame}
    (hl : ∀ (f : JFrame) (acts : List Action), f.method = m → f.locked = none → f.entered = [] → (doReturn e (T.setTop f) acts (some (.long z))).1 = T.setFrames fs) : Steps p.tables e below (T.setTop (mkF m pc Ls (.long z :: rest))) (T.setFrames fs) :=
  retOut X hx hret rfl (Or.inr (Or.inl ⟨rfl, rfl, z, rfl⟩)) hd hl
theorem own_narR {t : FieldType} (ht : t.isReference = true) (hw : w.isRef = true) : narrow t w = w := by
  cases t <;> first | (cases ht; done) | (cases w <;> first | rfl | (cases hw; done))
theorem own_retA (X : Stand p l e R s m args below meth c T locs cells slots) (hx : p.tables.exec = Jvm.exec) {pc : Nat} {Ls : Array Slot} {t : FieldType} {rest : List Value} (ht : t.isReference = true) (hw : w.isRef = true) (hret : meth.sig.returnType = some t) (hd : decode c.code pc = .ok (.areturn, 1)) {fs : List Frame}
    (hl : ∀ (f : JFrame) (acts : List Action), f.method = m → f.locked = none → f.entered = [] → (doReturn e (T.setTop f) acts (some w)).1 = T.setFrames fs) : Steps p.tables e below (T.setTop (mkF m pc Ls (w :: rest))) (T.setFrames fs) :=
  retOut X hx hret (own_narR ht hw) (Or.inr (Or.inr (Or.inr (Or.inr ⟨rfl, ht, hw⟩)))) hd hl
theorem own_join (X : Stand p l e R s m args below meth c T locs cells slots) {h : Heap} {g g' : JFrame} (K : ∃ T', Stand p l e R s m args below meth c T' locs cells slots ∧ T'.heap = h ∧ ∀ target, Steps p.tables e below (T'.setTop g') target → Steps p.tables e below (T.setTop g) target) :
    ∃ T', Stand p l e R s m args below meth c T' locs cells slots ∧ T'.heap = h ∧ ∀ target, Steps p.tables e below (T'.setTop g') target → Steps p.tables e below (T.setTop g) target := K
theorem own_ext_refl (h : Heap) : Ext h h := ⟨Nat.le_refl _, fun _ _ q => q⟩
theorem own_ext_tr (E : Ext h0 h) (E' : Ext h h') : Ext h0 h' := ⟨Nat.le_trans E.1 E'.1, fun x y q => E'.2 x y (E.2 x y q)⟩
theorem own_ext_wr (E : Ext h0 h) (W : Wr h h' a sl v) (g : h0.size ≤ a) : Ext h0 h' := ⟨by rw [W.size]; exact E.1, fun x y q => by
  obtain ⟨cb', h1, -, -, -, h5, -⟩ := wr_at W (E.2 x y q)
  rw [h1, h5 (fun r => by subst r; exact absurd (Array.getElem?_eq_some_iff.mp q).1 (Nat.not_lt.mpr g))]⟩
theorem own_fld_inj (F : Fld Z h a C n d v) (G : Fld Z h a C n d w) : v = w := by
  obtain ⟨cell, cf, k, i, f, h1, h2, h3, h4, h5, h6, h7⟩ := F
  obtain ⟨cell', cf', k', i', f', g1, g2, g3, g4, g5, g6, g7⟩ := G
  cases h1.symm.trans g1
  cases h2.symm.trans g2
  exact Option.some.inj (h7.symm.trans g7)
theorem own_fld_ne (F : Fld Z h a C n d v) (G : Fld Z h b C n d w) (q : v ≠ w) : a ≠ b := fun r => by subst r; exact q (own_fld_inj F G)
theorem own_ref_ne (q : a ≠ b) : ¬ Value.ref a = Value.ref b := fun r => q (Value.ref.inj r)
theorem own_ref_eq (q : a = b) : Value.ref a = Value.ref b := congrArg Value.ref q
/-- the array at a, of class k, holds just xs -/
def OwnLst (Z : State) (h : Heap) (a : Addr) (ty : FieldType) (k : ClassId) (xs : List Value) : Prop := ∃ cl : Cell, Arr Z h a cl ty ∧ cl.cls = k ∧ cl.slots.toList = xs
theorem OwnLst.ext {ty : FieldType} {k : ClassId} {xs : List Value} (F : OwnLst Z h a ty k xs) (E : Ext h h') : OwnLst Z h' a ty k xs := by obtain ⟨cl, A, q, G⟩ := F; exact ⟨cl, A.ext E, q, G⟩
theorem OwnLst.other {ty : FieldType} {k : ClassId} {xs : List Value} (F : OwnLst Z h b ty k xs) (W : Wr h h' a sl v) (q : b ≠ a) : OwnLst Z h' b ty k xs := by obtain ⟨cl, A, q1, G⟩ := F; exact ⟨cl, A.other W q, q1, G⟩
theorem OwnLst.keep {ty : FieldType} {k : ClassId} {xs : List Value} {ws : List Addr} (F : OwnLst Z h a ty k xs) (K : Keep h h' ws) (q : a ∉ ws) : OwnLst Z h' a ty k xs := by obtain ⟨cl, A, q1, G⟩ := F; exact ⟨cl, ⟨K.2.1 _ _ A.1 q, A.2⟩, q1, G⟩
theorem own_lst_set {ty : FieldType} {k : ClassId} {xs : List Value} {cl : Cell} (A : Arr Z h a cl ty) (q : cl.cls = k) (G : cl.slots.toList = xs) (W : Wr h h' a sl v) : OwnLst Z h' a ty k (xs.set sl v) :=
  ⟨cl.setSlot sl v, A.same W, q, by rw [← G]; simp [Cell.setSlot]⟩
theorem own_lst_new {ty : FieldType} {k : ClassId} {z : Int32} (A : Arr Z h a (newA k ty z) ty) : OwnLst Z h a ty k (List.replicate z.toNatClampNeg (defaultValue ty)) := ⟨_, A, rfl, by simp [newA]⟩
theorem own_inb {xs : List Value} {cl : Cell} {j : Int32} (G : cl.slots.toList = xs) (k : Nat) (hk : xs.length = k) (q : ¬ (j < 0 ∨ k ≤ j.toNatClampNeg)) : ¬ (j < 0 ∨ cl.slots.size ≤ j.toNatClampNeg) := by
  have r : cl.slots.size = k := by rw [← hk, ← G]; simp
  rw [r]; exact q
theorem own_get {xs : List Value} {cl : Cell} {i : Nat} (G : cl.slots.toList = xs) (q : xs[i]? = some v) : cl.slots[i]? = some v := by rw [← Array.getElem?_toList, G]; exact q
theorem own_len {xs : List Value} {cl : Cell} {z : Int32} (G : cl.slots.toList = xs) (q : xs.length.toInt32 = z) : cl.slots.size.toInt32 = z := by rw [← q, ← G]; simp
theorem own_fI {t : Term} {k : Int32} (ht : t.eval args s none [] s = some (.ref a)) (q : (Jvm.Cond.eq (Term.field t C n d) (Term.int k)).value args s none s [] = some true) : Fld s s.heap a C n d (.int k) := by
  obtain ⟨x, y, e1, e2, -, e4⟩ := cmp_v (Or.inl q)
  cases (Term.int_eval k).symm.trans e2
  obtain ⟨z, rfl⟩ := e4
  have r := gotT (Cond.eq_ints e1 (Term.int_eval k)) q
  subst r
  rw [fld_at ht] at e1
  exact Fld.start e1
theorem own_fR {t u : Term} (hu : u.eval args s none [] s = some (.ref b)) (ht : t.eval args s none [] s = some (.ref a)) (q : (Jvm.Cond.eq (Term.field t C n d) u).value args s none s [] = some true) : Fld s s.heap a C n d (.ref b) := by
  obtain ⟨x, y, e1, e2, -, e4⟩ := cmp_v (Or.inl q)
  cases hu.symm.trans e2
  have r := gotT (eq_R e1 hu e4.2 rfl) q
  subst r
  rw [fld_at ht] at e1
  exact Fld.start e1
theorem own_fN {t : Term} (ht : t.eval args s none [] s = some (.ref a)) (q : (Jvm.Cond.eq (Term.field t C n d) Term.null).value args s none s [] = some true) : Fld s s.heap a C n d .null := by
  have e1 := null_v q
  rw [fld_at ht] at e1
  exact Fld.start e1
theorem own_arg1 {args : Array Value} (h1 : (Jvm.Cond.count 1).value args s none s [] = some true) : ∃ w0 : Value, args = #[w0] := by
  have hs : args.size = 1 := by simpa [Cond.value] using h1
  obtain ⟨L⟩ := args
  match L, hs with
  | [w0], _ => exact ⟨w0, rfl⟩
theorem own_arg2 {args : Array Value} (h1 : (Jvm.Cond.count 2).value args s none s [] = some true) : ∃ w0 w1 : Value, args = #[w0, w1] := by
  have hs : args.size = 2 := by simpa [Cond.value] using h1
  obtain ⟨L⟩ := args
  match L, hs with
  | [w0, w1], _ => exact ⟨w0, w1, rfl⟩
theorem own_arg3 {args : Array Value} (h1 : (Jvm.Cond.count 3).value args s none s [] = some true) : ∃ w0 w1 w2 : Value, args = #[w0, w1, w2] := by
  have hs : args.size = 3 := by simpa [Cond.value] using h1
  obtain ⟨L⟩ := args
  match L, hs with
  | [w0, w1, w2], _ => exact ⟨w0, w1, w2, rfl⟩
theorem own_narB (q : Prop) [Decidable q] : nar .boolean (if q then (1 : Int32) else (0 : Int32)) = if q then (1 : Int32) else (0 : Int32) := by split <;> rfl
theorem own_mod (x k : Int32) (z : Int) (hk : k.toInt = z) (hz : 0 < z) : 0 ≤ ((x &&& (2147483647 : Int32)) % k).toInt ∧ ((x &&& (2147483647 : Int32)) % k).toInt < z := by
  have h1 := c_and x (2147483647 : Int32) (by decide)
  rw [(c_irem (x &&& (2147483647 : Int32)) k z hk).1 h1.1]
  exact ⟨Int.emod_nonneg _ (by omega), Int.emod_lt_of_pos _ hz⟩
theorem own_and3 (x : Int32) : (x &&& (3 : Int32)) = 0 ∨ (x &&& (3 : Int32)) = 1 ∨ (x &&& (3 : Int32)) = 2 ∨ (x &&& (3 : Int32)) = 3 := by
  have h1 := c_and x (3 : Int32) (by decide)
  have e3 : (3 : Int32).toInt = 3 := by decide
  rw [e3] at h1
  have e : (x &&& (3 : Int32)).toInt = 0 ∨ (x &&& (3 : Int32)).toInt = 1 ∨ (x &&& (3 : Int32)).toInt = 2 ∨ (x &&& (3 : Int32)).toInt = 3 := by omega
  rcases e with e | e | e | e
  · exact Or.inl (Int32.toInt_inj.mp e)
  · exact Or.inr (Or.inl (Int32.toInt_inj.mp e))
  · exact Or.inr (Or.inr (Or.inl (Int32.toInt_inj.mp e)))
  · exact Or.inr (Or.inr (Or.inr (Int32.toInt_inj.mp e)))
end OwnKit
section OwnKit2
variable {args : Array Value} {s : State} {a b : Addr} {cl : Cell}
theorem own_slen {t : Term} {z : Int32} (hz : ¬ z < 0) (q : (Jvm.Cond.eq (Term.length t) (Term.int z)).value args s none s [] = some true) (ht : t.eval args s none [] s = some (.ref a)) (hc : s.heap[a]? = some cl) : cl.slots.size = z.toNatClampNeg := by
  obtain ⟨x, y, e1, e2, -, e4⟩ := cmp_v (Or.inl q)
  cases (Term.int_eval z).symm.trans e2
  obtain ⟨k, rfl⟩ := e4
  have r := gotT (Cond.eq_ints e1 (Term.int_eval z)) q
  subst r
  obtain ⟨a', c', g1, g2, g3⟩ := Term.length_spec e1
  have g6 := SBG.length_lt g1 g2 e1
  cases ht.symm.trans g1
  have g5 : c' = cl := Option.some.inj ((State.arrayAt?_spec g2).1.symm.trans hc)
  subst g5
  have h3 : c'.slots.size.toInt32 = k := (Value.int.inj g3).symm
  have h1 := back32 hz
  have h4 : c'.slots.size.toInt32.toInt = (c'.slots.size : Int) := len_toInt g6
  have h5 : k.toNatClampNeg.toInt32.toInt = (k.toNatClampNeg : Int) := len_toInt h1.2
  rw [h1.1] at h5
  rw [h3] at h4
  omega
theorem own_selem {t u : Term} {j : Int32} (hu : u.eval args s none [] s = some (.ref b)) (ht : t.eval args s none [] s = some (.ref a)) (hc : s.heap[a]? = some cl) (q : (Jvm.Cond.eq (Term.elem t (Term.int j)) u).value args s none s [] = some true) : cl.slots[j.toNatClampNeg]? = some (.ref b) := by
  obtain ⟨x, y, e1, e2, -, e4⟩ := cmp_v (Or.inl q)
  cases hu.symm.trans e2
  have r := gotT (eq_R e1 hu e4.2 rfl) q
  subst r
  exact (elem_in e1 ht (Term.int_eval j) hc).2
theorem own_nil {A : Array Value} (hs : A.size = (0 : Int32).toNatClampNeg) : A.toList = [] := by
  have q : (0 : Int32).toNatClampNeg = 0 := by decide
  rw [q] at hs
  exact List.eq_nil_of_length_eq_zero (by rw [Array.length_toList]; exact hs)
theorem own_list6 {A : Array Value} (hs : A.size = 6) {v0 v1 v2 v3 v4 v5 : Value} (h0 : A[0]? = some v0) (h1 : A[1]? = some v1) (h2 : A[2]? = some v2) (h3 : A[3]? = some v3) (h4 : A[4]? = some v4) (h5 : A[5]? = some v5) : A.toList = [v0, v1, v2, v3, v4, v5] := by
  obtain ⟨l⟩ := A
  match l, hs with
  | [a, b, c, d, e, f], _ =>
    simp at h0 h1 h2 h3 h4 h5
    simp [h0, h1, h2, h3, h4, h5]
theorem own_list4 {A : Array Value} (hs : A.size = 4) {v0 v1 v2 v3 : Value} (h0 : A[0]? = some v0) (h1 : A[1]? = some v1) (h2 : A[2]? = some v2) (h3 : A[3]? = some v3) : A.toList = [v0, v1, v2, v3] := by
  obtain ⟨l⟩ := A
  match l, hs with
  | [a, b, c, d], _ =>
    simp at h0 h1 h2 h3
    simp [h0, h1, h2, h3]
end OwnKit2
section OwnKit3
variable {Z : State} {h h' h0 : Heap} {a b : Addr} {v : Value} {ty : FieldType} {k : ClassId} {xs : List Value} {n0 : Nat} {ws : List Addr} {sl : Nat}
theorem OwnLst.lt (F : OwnLst Z h a ty k xs) : a < h.size := by obtain ⟨cl, A, -⟩ := F; exact A.lt
theorem own_old_ext (O : Old Z n0 h) (E : Ext h h') : Old Z n0 h' := ⟨O.1, own_ext_tr O.2 E⟩
theorem own_ne_lt (q : a < h.size) (g : b = h.size) : a ≠ b := fun r => by rw [r, g] at q; exact Nat.lt_irrefl _ q
theorem own_ne_le (q : a < h.size) (g : h.size ≤ b) : a ≠ b := fun r => by rw [r] at q; exact Nat.lt_irrefl _ (Nat.lt_of_lt_of_le q g)
theorem own_lst_eq {xs' : List Value} (F : OwnLst Z h a ty k xs) (q : xs = xs') : OwnLst Z h a ty k xs' := q ▸ F
end OwnKit3
theorem own_at {Z : State} {a0 : Array Value} (hw : ∀ d ∈ tables_1, d.before a0 Z = true) (i : Nat) {d : Jvm.Cond} (h : tables_1[i]? = some d) : d.before a0 Z = true := hw _ (List.mem_of_getElem? h)
theorem own_d_jdk_29_method_66_0 : decode jdk_29_method_66_code 0 = .ok (.lload_n 0, 1) := by decide +kernel
theorem own_d_jdk_29_method_66_1 : decode jdk_29_method_66_code 1 = .ok (.lload_n 2, 1) := by decide +kernel
theorem own_d_jdk_29_method_66_2 : decode jdk_29_method_66_code 2 = .ok (.lcmp, 1) := by decide +kernel
theorem own_d_jdk_29_method_66_3 : decode jdk_29_method_66_code 3 = .ok (.ifCond .lt 7, 3) := by decide +kernel
theorem own_d_jdk_29_method_66_6 : decode jdk_29_method_66_code 6 = .ok (.lload_n 0, 1) := by decide +kernel
theorem own_d_jdk_29_method_66_7 : decode jdk_29_method_66_code 7 = .ok (.goto 4, 3) := by decide +kernel
theorem own_d_jdk_29_method_66_10 : decode jdk_29_method_66_code 10 = .ok (.lload_n 2, 1) := by decide +kernel
theorem own_d_jdk_29_method_66_11 : decode jdk_29_method_66_code 11 = .ok (.lreturn, 1) := by decide +kernel
theorem own_d_jdk_29_method_69_0 : decode jdk_29_method_69_code 0 = .ok (.iload_n 0, 1) := by decide +kernel
theorem own_d_jdk_29_method_69_1 : decode jdk_29_method_69_code 1 = .ok (.iload_n 1, 1) := by decide +kernel
theorem own_d_jdk_29_method_69_2 : decode jdk_29_method_69_code 2 = .ok (.if_icmp .gt 7, 3) := by decide +kernel
theorem own_d_jdk_29_method_69_5 : decode jdk_29_method_69_code 5 = .ok (.iload_n 0, 1) := by decide +kernel
theorem own_d_jdk_29_method_69_6 : decode jdk_29_method_69_code 6 = .ok (.goto 4, 3) := by decide +kernel
theorem own_d_jdk_29_method_69_10 : decode jdk_29_method_69_code 10 = .ok (.ireturn, 1) := by decide +kernel
theorem own_d_jdk_29_method_70_0 : decode jdk_29_method_70_code 0 = .ok (.lload_n 0, 1) := by decide +kernel
theorem own_d_jdk_29_method_70_1 : decode jdk_29_method_70_code 1 = .ok (.lload_n 2, 1) := by decide +kernel
theorem own_d_jdk_29_method_70_2 : decode jdk_29_method_70_code 2 = .ok (.lcmp, 1) := by decide +kernel
theorem own_d_jdk_29_method_70_3 : decode jdk_29_method_70_code 3 = .ok (.ifCond .gt 7, 3) := by decide +kernel
theorem own_d_jdk_29_method_70_6 : decode jdk_29_method_70_code 6 = .ok (.lload_n 0, 1) := by decide +kernel
theorem own_d_jdk_29_method_70_7 : decode jdk_29_method_70_code 7 = .ok (.goto 4, 3) := by decide +kernel
theorem own_d_jdk_29_method_70_10 : decode jdk_29_method_70_code 10 = .ok (.lload_n 2, 1) := by decide +kernel
theorem own_d_jdk_29_method_70_11 : decode jdk_29_method_70_code 11 = .ok (.lreturn, 1) := by decide +kernel
theorem own_d_jdk_33_method_47_0 : decode jdk_33_method_47_code 0 = .ok (.iload_n 0, 1) := by decide +kernel
theorem own_d_jdk_33_method_47_1 : decode jdk_33_method_47_code 1 = .ok (.ifCond .gt 14, 3) := by decide +kernel
theorem own_d_jdk_33_method_47_15 : decode jdk_33_method_47_code 15 = .ok (.bipush 31, 2) := by decide +kernel
theorem own_d_jdk_33_method_47_17 : decode jdk_33_method_47_code 17 = .ok (.istore_n 1, 1) := by decide +kernel
theorem own_d_jdk_33_method_47_18 : decode jdk_33_method_47_code 18 = .ok (.iload_n 0, 1) := by decide +kernel
theorem own_d_jdk_33_method_47_19 : decode jdk_33_method_47_code 19 = .ok (.ldc_w 264, 3) := by decide +kernel
theorem own_d_jdk_33_method_47_22 : decode jdk_33_method_47_code 22 = .ok (.if_icmp .lt 11, 3) := by decide +kernel
theorem own_d_jdk_33_method_47_33 : decode jdk_33_method_47_code 33 = .ok (.iload_n 0, 1) := by decide +kernel
theorem own_d_jdk_33_method_47_34 : decode jdk_33_method_47_code 34 = .ok (.sipush 256, 3) := by decide +kernel
theorem own_d_jdk_33_method_47_37 : decode jdk_33_method_47_code 37 = .ok (.if_icmp .lt 11, 3) := by decide +kernel
theorem own_d_jdk_33_method_47_40 : decode jdk_33_method_47_code 40 = .ok (.iinc 1 (-8), 3) := by decide +kernel
theorem own_d_jdk_33_method_47_43 : decode jdk_33_method_47_code 43 = .ok (.iload_n 0, 1) := by decide +kernel
theorem own_d_jdk_33_method_47_44 : decode jdk_33_method_47_code 44 = .ok (.bipush 8, 2) := by decide +kernel
theorem own_d_jdk_33_method_47_46 : decode jdk_33_method_47_code 46 = .ok (.iushr, 1) := by decide +kernel
theorem own_d_jdk_33_method_47_47 : decode jdk_33_method_47_code 47 = .ok (.istore_n 0, 1) := by decide +kernel
theorem own_d_jdk_33_method_47_48 : decode jdk_33_method_47_code 48 = .ok (.iload_n 0, 1) := by decide +kernel
theorem own_d_jdk_33_method_47_49 : decode jdk_33_method_47_code 49 = .ok (.bipush 16, 2) := by decide +kernel
theorem own_d_jdk_33_method_47_51 : decode jdk_33_method_47_code 51 = .ok (.if_icmp .lt 10, 3) := by decide +kernel
theorem own_d_jdk_33_method_47_61 : decode jdk_33_method_47_code 61 = .ok (.iload_n 0, 1) := by decide +kernel
theorem own_d_jdk_33_method_47_62 : decode jdk_33_method_47_code 62 = .ok (.iconst 4, 1) := by decide +kernel
theorem own_d_jdk_33_method_47_63 : decode jdk_33_method_47_code 63 = .ok (.if_icmp .lt 10, 3) := by decide +kernel
theorem own_d_jdk_33_method_47_66 : decode jdk_33_method_47_code 66 = .ok (.iinc 1 (-2), 3) := by decide +kernel
theorem own_d_jdk_33_method_47_69 : decode jdk_33_method_47_code 69 = .ok (.iload_n 0, 1) := by decide +kernel
theorem own_d_jdk_33_method_47_70 : decode jdk_33_method_47_code 70 = .ok (.iconst 2, 1) := by decide +kernel
theorem own_d_jdk_33_method_47_71 : decode jdk_33_method_47_code 71 = .ok (.iushr, 1) := by decide +kernel
theorem own_d_jdk_33_method_47_72 : decode jdk_33_method_47_code 72 = .ok (.istore_n 0, 1) := by decide +kernel
theorem own_d_jdk_33_method_47_73 : decode jdk_33_method_47_code 73 = .ok (.iload_n 1, 1) := by decide +kernel
theorem own_d_jdk_33_method_47_74 : decode jdk_33_method_47_code 74 = .ok (.iload_n 0, 1) := by decide +kernel
theorem own_d_jdk_33_method_47_75 : decode jdk_33_method_47_code 75 = .ok (.iconst 1, 1) := by decide +kernel
theorem own_d_jdk_33_method_47_76 : decode jdk_33_method_47_code 76 = .ok (.iushr, 1) := by decide +kernel
theorem own_d_jdk_33_method_47_77 : decode jdk_33_method_47_code 77 = .ok (.isub, 1) := by decide +kernel
theorem own_d_jdk_33_method_47_78 : decode jdk_33_method_47_code 78 = .ok (.ireturn, 1) := by decide +kernel
theorem own_d_jdk_35_method_48_0 : decode jdk_35_method_48_code 0 = .ok (.lload_n 0, 1) := by decide +kernel
theorem own_d_jdk_35_method_48_1 : decode jdk_35_method_48_code 1 = .ok (.bipush 32, 2) := by decide +kernel
theorem own_d_jdk_35_method_48_3 : decode jdk_35_method_48_code 3 = .ok (.lushr, 1) := by decide +kernel
theorem own_d_jdk_35_method_48_4 : decode jdk_35_method_48_code 4 = .ok (.l2i, 1) := by decide +kernel
theorem own_d_jdk_35_method_48_5 : decode jdk_35_method_48_code 5 = .ok (.istore_n 2, 1) := by decide +kernel
theorem own_d_jdk_35_method_48_6 : decode jdk_35_method_48_code 6 = .ok (.iload_n 2, 1) := by decide +kernel
theorem own_d_jdk_35_method_48_7 : decode jdk_35_method_48_code 7 = .ok (.ifCond .ne 14, 3) := by decide +kernel
theorem own_d_jdk_35_method_48_10 : decode jdk_35_method_48_code 10 = .ok (.bipush 32, 2) := by decide +kernel
theorem own_d_jdk_35_method_48_12 : decode jdk_35_method_48_code 12 = .ok (.lload_n 0, 1) := by decide +kernel
theorem own_d_jdk_35_method_48_13 : decode jdk_35_method_48_code 13 = .ok (.l2i, 1) := by decide +kernel
theorem own_d_jdk_35_method_48_14 : decode jdk_35_method_48_code 14 = .ok (.invokestatic 308, 3) := by decide +kernel
theorem own_d_jdk_35_method_48_17 : decode jdk_35_method_48_code 17 = .ok (.iadd, 1) := by decide +kernel
theorem own_d_jdk_35_method_48_18 : decode jdk_35_method_48_code 18 = .ok (.goto 7, 3) := by decide +kernel
theorem own_d_jdk_35_method_48_25 : decode jdk_35_method_48_code 25 = .ok (.ireturn, 1) := by decide +kernel
theorem own_d_jdk_65_method_103_0 : decode jdk_65_method_103_code 0 = .ok (.iconst 0, 1) := by decide +kernel
theorem own_d_jdk_65_method_103_1 : decode jdk_65_method_103_code 1 = .ok (.istore_n 2, 1) := by decide +kernel
theorem own_d_jdk_65_method_103_2 : decode jdk_65_method_103_code 2 = .ok (.aload_n 0, 1) := by decide +kernel
theorem own_d_jdk_65_method_103_3 : decode jdk_65_method_103_code 3 = .ok (.arraylength, 1) := by decide +kernel
theorem own_d_jdk_65_method_103_4 : decode jdk_65_method_103_code 4 = .ok (.istore_n 3, 1) := by decide +kernel
theorem own_d_jdk_65_method_103_5 : decode jdk_65_method_103_code 5 = .ok (.iload_n 2, 1) := by decide +kernel
theorem own_d_jdk_65_method_103_6 : decode jdk_65_method_103_code 6 = .ok (.iload_n 3, 1) := by decide +kernel
theorem own_d_jdk_65_method_103_7 : decode jdk_65_method_103_code 7 = .ok (.if_icmp .ge 13, 3) := by decide +kernel
theorem own_d_jdk_65_method_103_10 : decode jdk_65_method_103_code 10 = .ok (.aload_n 0, 1) := by decide +kernel
theorem own_d_jdk_65_method_103_11 : decode jdk_65_method_103_code 11 = .ok (.iload_n 2, 1) := by decide +kernel
theorem own_d_jdk_65_method_103_12 : decode jdk_65_method_103_code 12 = .ok (.iload_n 1, 1) := by decide +kernel
theorem own_d_jdk_65_method_103_13 : decode jdk_65_method_103_code 13 = .ok (.iastore, 1) := by decide +kernel
theorem own_d_jdk_65_method_103_14 : decode jdk_65_method_103_code 14 = .ok (.iinc 2 1, 3) := by decide +kernel
theorem own_d_jdk_65_method_103_17 : decode jdk_65_method_103_code 17 = .ok (.goto (-12), 3) := by decide +kernel
theorem own_d_jdk_65_method_103_20 : decode jdk_65_method_103_code 20 = .ok (.return_, 1) := by decide +kernel
theorem own_d_jdk_65_method_124_0 : decode jdk_65_method_124_code 0 = .ok (.iload_n 1, 1) := by decide +kernel
theorem own_d_jdk_65_method_124_1 : decode jdk_65_method_124_code 1 = .ok (.aload_n 0, 1) := by decide +kernel
theorem own_d_jdk_65_method_124_2 : decode jdk_65_method_124_code 2 = .ok (.arraylength, 1) := by decide +kernel
theorem own_d_jdk_65_method_124_3 : decode jdk_65_method_124_code 3 = .ok (.if_icmp .ne 11, 3) := by decide +kernel
theorem own_d_jdk_65_method_124_14 : decode jdk_65_method_124_code 14 = .ok (.iload_n 1, 1) := by decide +kernel
theorem own_d_jdk_65_method_124_15 : decode jdk_65_method_124_code 15 = .ok (.newarray .long, 2) := by decide +kernel
theorem own_d_jdk_65_method_124_17 : decode jdk_65_method_124_code 17 = .ok (.astore_n 2, 1) := by decide +kernel
theorem own_d_jdk_65_method_124_18 : decode jdk_65_method_124_code 18 = .ok (.aload_n 0, 1) := by decide +kernel
theorem own_d_jdk_65_method_124_19 : decode jdk_65_method_124_code 19 = .ok (.iconst 0, 1) := by decide +kernel
theorem own_d_jdk_65_method_124_20 : decode jdk_65_method_124_code 20 = .ok (.aload_n 2, 1) := by decide +kernel
theorem own_d_jdk_65_method_124_21 : decode jdk_65_method_124_code 21 = .ok (.iconst 0, 1) := by decide +kernel
theorem own_d_jdk_65_method_124_22 : decode jdk_65_method_124_code 22 = .ok (.aload_n 0, 1) := by decide +kernel
theorem own_d_jdk_65_method_124_23 : decode jdk_65_method_124_code 23 = .ok (.arraylength, 1) := by decide +kernel
theorem own_d_jdk_65_method_124_24 : decode jdk_65_method_124_code 24 = .ok (.iload_n 1, 1) := by decide +kernel
theorem own_d_jdk_65_method_124_25 : decode jdk_65_method_124_code 25 = .ok (.invokestatic 304, 3) := by decide +kernel
theorem own_d_jdk_65_method_124_28 : decode jdk_65_method_124_code 28 = .ok (.invokestatic 150, 3) := by decide +kernel
theorem own_d_jdk_65_method_124_31 : decode jdk_65_method_124_code 31 = .ok (.aload_n 2, 1) := by decide +kernel
theorem own_d_jdk_65_method_124_32 : decode jdk_65_method_124_code 32 = .ok (.areturn, 1) := by decide +kernel
theorem own_d_jdk_92_method_14_0 : decode jdk_92_method_14_code 0 = .ok (.aload_n 0, 1) := by decide +kernel
theorem own_d_jdk_92_method_14_1 : decode jdk_92_method_14_code 1 = .ok (.getfield 11, 3) := by decide +kernel
theorem own_d_jdk_92_method_14_4 : decode jdk_92_method_14_code 4 = .ok (.arraylength, 1) := by decide +kernel
theorem own_d_jdk_92_method_14_5 : decode jdk_92_method_14_code 5 = .ok (.iload_n 1, 1) := by decide +kernel
theorem own_d_jdk_92_method_14_6 : decode jdk_92_method_14_code 6 = .ok (.if_icmp .ge 32, 3) := by decide +kernel
theorem own_d_jdk_92_method_14_38 : decode jdk_92_method_14_code 38 = .ok (.return_, 1) := by decide +kernel
theorem own_d_jdk_92_method_15_0 : decode jdk_92_method_15_code 0 = .ok (.iload_n 1, 1) := by decide +kernel
theorem own_d_jdk_92_method_15_1 : decode jdk_92_method_15_code 1 = .ok (.iconst 1, 1) := by decide +kernel
theorem own_d_jdk_92_method_15_2 : decode jdk_92_method_15_code 2 = .ok (.iadd, 1) := by decide +kernel
theorem own_d_jdk_92_method_15_3 : decode jdk_92_method_15_code 3 = .ok (.istore_n 2, 1) := by decide +kernel
theorem own_d_jdk_92_method_15_4 : decode jdk_92_method_15_code 4 = .ok (.aload_n 0, 1) := by decide +kernel
theorem own_d_jdk_92_method_15_5 : decode jdk_92_method_15_code 5 = .ok (.getfield 7, 3) := by decide +kernel
theorem own_d_jdk_92_method_15_8 : decode jdk_92_method_15_code 8 = .ok (.iload_n 2, 1) := by decide +kernel
theorem own_d_jdk_92_method_15_9 : decode jdk_92_method_15_code 9 = .ok (.if_icmp .ge 13, 3) := by decide +kernel
theorem own_d_jdk_92_method_15_12 : decode jdk_92_method_15_code 12 = .ok (.aload_n 0, 1) := by decide +kernel
theorem own_d_jdk_92_method_15_13 : decode jdk_92_method_15_code 13 = .ok (.iload_n 2, 1) := by decide +kernel
theorem own_d_jdk_92_method_15_14 : decode jdk_92_method_15_code 14 = .ok (.invokevirtual 139, 3) := by decide +kernel
theorem own_d_jdk_92_method_15_17 : decode jdk_92_method_15_code 17 = .ok (.aload_n 0, 1) := by decide +kernel
theorem own_d_jdk_92_method_15_18 : decode jdk_92_method_15_code 18 = .ok (.iload_n 2, 1) := by decide +kernel
theorem own_d_jdk_92_method_15_19 : decode jdk_92_method_15_code 19 = .ok (.putfield 7, 3) := by decide +kernel
theorem own_d_jdk_92_method_15_22 : decode jdk_92_method_15_code 22 = .ok (.return_, 1) := by decide +kernel
theorem own_d_jdk_92_method_19_0 : decode jdk_92_method_19_code 0 = .ok (.iload_n 1, 1) := by decide +kernel
theorem own_d_jdk_92_method_19_1 : decode jdk_92_method_19_code 1 = .ok (.ifCond .ge 30, 3) := by decide +kernel
theorem own_d_jdk_92_method_19_31 : decode jdk_92_method_19_code 31 = .ok (.iload_n 1, 1) := by decide +kernel
theorem own_d_jdk_92_method_19_32 : decode jdk_92_method_19_code 32 = .ok (.invokestatic 52, 3) := by decide +kernel
theorem own_d_jdk_92_method_19_35 : decode jdk_92_method_19_code 35 = .ok (.istore_n 2, 1) := by decide +kernel
theorem own_d_jdk_92_method_19_36 : decode jdk_92_method_19_code 36 = .ok (.aload_n 0, 1) := by decide +kernel
theorem own_d_jdk_92_method_19_37 : decode jdk_92_method_19_code 37 = .ok (.iload_n 2, 1) := by decide +kernel
theorem own_d_jdk_92_method_19_38 : decode jdk_92_method_19_code 38 = .ok (.invokevirtual 155, 3) := by decide +kernel
theorem own_d_jdk_92_method_19_41 : decode jdk_92_method_19_code 41 = .ok (.aload_n 0, 1) := by decide +kernel
theorem own_d_jdk_92_method_19_42 : decode jdk_92_method_19_code 42 = .ok (.getfield 11, 3) := by decide +kernel
theorem own_d_jdk_92_method_19_45 : decode jdk_92_method_19_code 45 = .ok (.iload_n 2, 1) := by decide +kernel
theorem own_d_jdk_92_method_19_46 : decode jdk_92_method_19_code 46 = .ok (.dup2, 1) := by decide +kernel
theorem own_d_jdk_92_method_19_47 : decode jdk_92_method_19_code 47 = .ok (.laload, 1) := by decide +kernel
theorem own_d_jdk_92_method_19_48 : decode jdk_92_method_19_code 48 = .ok (.lconst 1, 1) := by decide +kernel
theorem own_d_jdk_92_method_19_49 : decode jdk_92_method_19_code 49 = .ok (.iload_n 1, 1) := by decide +kernel
theorem own_d_jdk_92_method_19_50 : decode jdk_92_method_19_code 50 = .ok (.lshl, 1) := by decide +kernel
theorem own_d_jdk_92_method_19_51 : decode jdk_92_method_19_code 51 = .ok (.lor, 1) := by decide +kernel
theorem own_d_jdk_92_method_19_52 : decode jdk_92_method_19_code 52 = .ok (.lastore, 1) := by decide +kernel
theorem own_d_jdk_92_method_19_53 : decode jdk_92_method_19_code 53 = .ok (.aload_n 0, 1) := by decide +kernel
theorem own_d_jdk_92_method_19_54 : decode jdk_92_method_19_code 54 = .ok (.invokevirtual 56, 3) := by decide +kernel
theorem own_d_jdk_92_method_19_57 : decode jdk_92_method_19_code 57 = .ok (.return_, 1) := by decide +kernel
theorem own_d_jdk_92_method_1_0 : decode jdk_92_method_1_code 0 = .ok (.iload_n 0, 1) := by decide +kernel
theorem own_d_jdk_92_method_1_1 : decode jdk_92_method_1_code 1 = .ok (.bipush 6, 2) := by decide +kernel
theorem own_d_jdk_92_method_1_3 : decode jdk_92_method_1_code 3 = .ok (.ishr, 1) := by decide +kernel
theorem own_d_jdk_92_method_1_4 : decode jdk_92_method_1_code 4 = .ok (.ireturn, 1) := by decide +kernel
theorem own_d_jdk_92_method_2_0 : decode jdk_92_method_2_code 0 = .ok (.getstatic 3, 3) := by decide +kernel
theorem own_d_jdk_92_method_2_3 : decode jdk_92_method_2_code 3 = .ok (.ifCond .ne 34, 3) := by decide +kernel
theorem own_d_jdk_92_method_2_37 : decode jdk_92_method_2_code 37 = .ok (.getstatic 3, 3) := by decide +kernel
theorem own_d_jdk_92_method_2_40 : decode jdk_92_method_2_code 40 = .ok (.ifCond .ne 30, 3) := by decide +kernel
theorem own_d_jdk_92_method_2_70 : decode jdk_92_method_2_code 70 = .ok (.getstatic 3, 3) := by decide +kernel
theorem own_d_jdk_92_method_2_73 : decode jdk_92_method_2_code 73 = .ok (.ifCond .ne 37, 3) := by decide +kernel
theorem own_d_jdk_92_method_2_110 : decode jdk_92_method_2_code 110 = .ok (.return_, 1) := by decide +kernel
theorem own_d_jdk_92_method_4_0 : decode jdk_92_method_4_code 0 = .ok (.aload_n 0, 1) := by decide +kernel
theorem own_d_jdk_92_method_4_1 : decode jdk_92_method_4_code 1 = .ok (.invokespecial 21, 3) := by decide +kernel
theorem own_d_jdk_92_method_4_4 : decode jdk_92_method_4_code 4 = .ok (.aload_n 0, 1) := by decide +kernel
theorem own_d_jdk_92_method_4_5 : decode jdk_92_method_4_code 5 = .ok (.iconst 0, 1) := by decide +kernel
theorem own_d_jdk_92_method_4_6 : decode jdk_92_method_4_code 6 = .ok (.putfield 7, 3) := by decide +kernel
theorem own_d_jdk_92_method_4_9 : decode jdk_92_method_4_code 9 = .ok (.aload_n 0, 1) := by decide +kernel
theorem own_d_jdk_92_method_4_10 : decode jdk_92_method_4_code 10 = .ok (.iconst 0, 1) := by decide +kernel
theorem own_d_jdk_92_method_4_11 : decode jdk_92_method_4_code 11 = .ok (.putfield 24, 3) := by decide +kernel
theorem own_d_jdk_92_method_4_14 : decode jdk_92_method_4_code 14 = .ok (.aload_n 0, 1) := by decide +kernel
theorem own_d_jdk_92_method_4_15 : decode jdk_92_method_4_code 15 = .ok (.bipush 64, 2) := by decide +kernel
theorem own_d_jdk_92_method_4_17 : decode jdk_92_method_4_code 17 = .ok (.invokevirtual 27, 3) := by decide +kernel
theorem own_d_jdk_92_method_4_20 : decode jdk_92_method_4_code 20 = .ok (.aload_n 0, 1) := by decide +kernel
theorem own_d_jdk_92_method_4_21 : decode jdk_92_method_4_code 21 = .ok (.iconst 0, 1) := by decide +kernel
theorem own_d_jdk_92_method_4_22 : decode jdk_92_method_4_code 22 = .ok (.putfield 24, 3) := by decide +kernel
theorem own_d_jdk_92_method_4_25 : decode jdk_92_method_4_code 25 = .ok (.return_, 1) := by decide +kernel
theorem own_d_jdk_92_method_6_0 : decode jdk_92_method_6_code 0 = .ok (.aload_n 0, 1) := by decide +kernel
theorem own_d_jdk_92_method_6_1 : decode jdk_92_method_6_code 1 = .ok (.iload_n 1, 1) := by decide +kernel
theorem own_d_jdk_92_method_6_2 : decode jdk_92_method_6_code 2 = .ok (.iconst 1, 1) := by decide +kernel
theorem own_d_jdk_92_method_6_3 : decode jdk_92_method_6_code 3 = .ok (.isub, 1) := by decide +kernel
theorem own_d_jdk_92_method_6_4 : decode jdk_92_method_6_code 4 = .ok (.invokestatic 52, 3) := by decide +kernel
theorem own_d_jdk_92_method_6_7 : decode jdk_92_method_6_code 7 = .ok (.iconst 1, 1) := by decide +kernel
theorem own_d_jdk_92_method_6_8 : decode jdk_92_method_6_code 8 = .ok (.iadd, 1) := by decide +kernel
theorem own_d_jdk_92_method_6_9 : decode jdk_92_method_6_code 9 = .ok (.newarray .long, 2) := by decide +kernel
theorem own_d_jdk_92_method_6_11 : decode jdk_92_method_6_code 11 = .ok (.putfield 11, 3) := by decide +kernel
theorem own_d_jdk_92_method_6_14 : decode jdk_92_method_6_code 14 = .ok (.return_, 1) := by decide +kernel
theorem own_d_method_3_0 : decode method_3_code 0 = .ok (.iload_n 1, 1) := by decide +kernel
theorem own_d_method_3_1 : decode method_3_code 1 = .ok (.iload_n 2, 1) := by decide +kernel
theorem own_d_method_3_2 : decode method_3_code 2 = .ok (.if_icmp .eq 5, 3) := by decide +kernel
theorem own_d_method_3_7 : decode method_3_code 7 = .ok (.aload_n 0, 1) := by decide +kernel
theorem own_d_method_3_8 : decode method_3_code 8 = .ok (.iconst 0, 1) := by decide +kernel
theorem own_d_method_3_9 : decode method_3_code 9 = .ok (.laload, 1) := by decide +kernel
theorem own_d_method_3_10 : decode method_3_code 10 = .ok (.aload_n 3, 1) := by decide +kernel
theorem own_d_method_3_11 : decode method_3_code 11 = .ok (.iload 4, 2) := by decide +kernel
theorem own_d_method_3_13 : decode method_3_code 13 = .ok (.laload, 1) := by decide +kernel
theorem own_d_method_3_14 : decode method_3_code 14 = .ok (.lcmp, 1) := by decide +kernel
theorem own_d_method_3_15 : decode method_3_code 15 = .ok (.ifCond .eq 5, 3) := by decide +kernel
theorem own_d_method_3_20 : decode method_3_code 20 = .ok (.iload_n 2, 1) := by decide +kernel
theorem own_d_method_3_21 : decode method_3_code 21 = .ok (.iconst 1, 1) := by decide +kernel
theorem own_d_method_3_22 : decode method_3_code 22 = .ok (.if_icmp .le 18, 3) := by decide +kernel
theorem own_d_method_3_25 : decode method_3_code 25 = .ok (.aload_n 0, 1) := by decide +kernel
theorem own_d_method_3_26 : decode method_3_code 26 = .ok (.iconst 1, 1) := by decide +kernel
theorem own_d_method_3_27 : decode method_3_code 27 = .ok (.laload, 1) := by decide +kernel
theorem own_d_method_3_28 : decode method_3_code 28 = .ok (.aload_n 3, 1) := by decide +kernel
theorem own_d_method_3_29 : decode method_3_code 29 = .ok (.iload 4, 2) := by decide +kernel
theorem own_d_method_3_31 : decode method_3_code 31 = .ok (.iconst 1, 1) := by decide +kernel
theorem own_d_method_3_32 : decode method_3_code 32 = .ok (.iadd, 1) := by decide +kernel
theorem own_d_method_3_33 : decode method_3_code 33 = .ok (.laload, 1) := by decide +kernel
theorem own_d_method_3_34 : decode method_3_code 34 = .ok (.lcmp, 1) := by decide +kernel
theorem own_d_method_3_35 : decode method_3_code 35 = .ok (.ifCond .eq 16, 3) := by decide +kernel
theorem own_d_method_3_40 : decode method_3_code 40 = .ok (.aload_n 0, 1) := by decide +kernel
theorem own_d_method_3_41 : decode method_3_code 41 = .ok (.iconst 1, 1) := by decide +kernel
theorem own_d_method_3_42 : decode method_3_code 42 = .ok (.laload, 1) := by decide +kernel
theorem own_d_method_3_43 : decode method_3_code 43 = .ok (.lload 5, 2) := by decide +kernel
theorem own_d_method_3_45 : decode method_3_code 45 = .ok (.lcmp, 1) := by decide +kernel
theorem own_d_method_3_46 : decode method_3_code 46 = .ok (.ifCond .eq 5, 3) := by decide +kernel
theorem own_d_method_3_51 : decode method_3_code 51 = .ok (.iload_n 2, 1) := by decide +kernel
theorem own_d_method_3_52 : decode method_3_code 52 = .ok (.iconst 2, 1) := by decide +kernel
theorem own_d_method_3_53 : decode method_3_code 53 = .ok (.if_icmp .le 18, 3) := by decide +kernel
theorem own_d_method_3_56 : decode method_3_code 56 = .ok (.aload_n 0, 1) := by decide +kernel
theorem own_d_method_3_57 : decode method_3_code 57 = .ok (.iconst 2, 1) := by decide +kernel
theorem own_d_method_3_58 : decode method_3_code 58 = .ok (.laload, 1) := by decide +kernel
theorem own_d_method_3_59 : decode method_3_code 59 = .ok (.aload_n 3, 1) := by decide +kernel
theorem own_d_method_3_60 : decode method_3_code 60 = .ok (.iload 4, 2) := by decide +kernel
theorem own_d_method_3_62 : decode method_3_code 62 = .ok (.iconst 2, 1) := by decide +kernel
theorem own_d_method_3_63 : decode method_3_code 63 = .ok (.iadd, 1) := by decide +kernel
theorem own_d_method_3_64 : decode method_3_code 64 = .ok (.laload, 1) := by decide +kernel
theorem own_d_method_3_65 : decode method_3_code 65 = .ok (.lcmp, 1) := by decide +kernel
theorem own_d_method_3_66 : decode method_3_code 66 = .ok (.ifCond .eq 16, 3) := by decide +kernel
theorem own_d_method_3_71 : decode method_3_code 71 = .ok (.aload_n 0, 1) := by decide +kernel
theorem own_d_method_3_72 : decode method_3_code 72 = .ok (.iconst 2, 1) := by decide +kernel
theorem own_d_method_3_73 : decode method_3_code 73 = .ok (.laload, 1) := by decide +kernel
theorem own_d_method_3_74 : decode method_3_code 74 = .ok (.lload 5, 2) := by decide +kernel
theorem own_d_method_3_76 : decode method_3_code 76 = .ok (.lcmp, 1) := by decide +kernel
theorem own_d_method_3_77 : decode method_3_code 77 = .ok (.ifCond .eq 5, 3) := by decide +kernel
theorem own_d_method_3_82 : decode method_3_code 82 = .ok (.aload_n 0, 1) := by decide +kernel
theorem own_d_method_3_83 : decode method_3_code 83 = .ok (.iconst 3, 1) := by decide +kernel
theorem own_d_method_3_84 : decode method_3_code 84 = .ok (.laload, 1) := by decide +kernel
theorem own_d_method_3_85 : decode method_3_code 85 = .ok (.lload 5, 2) := by decide +kernel
theorem own_d_method_3_87 : decode method_3_code 87 = .ok (.lcmp, 1) := by decide +kernel
theorem own_d_method_3_88 : decode method_3_code 88 = .ok (.ifCond .ne 7, 3) := by decide +kernel
theorem own_d_method_3_91 : decode method_3_code 91 = .ok (.iconst 1, 1) := by decide +kernel
theorem own_d_method_3_92 : decode method_3_code 92 = .ok (.goto 4, 3) := by decide +kernel
theorem own_d_method_3_96 : decode method_3_code 96 = .ok (.ireturn, 1) := by decide +kernel
theorem own_d_prog_24_method_9_0 : decode prog_24_method_9_code 0 = .ok (.iload_n 1, 1) := by decide +kernel
theorem own_d_prog_24_method_9_1 : decode prog_24_method_9_code 1 = .ok (.ifCond .lt 9, 3) := by decide +kernel
theorem own_d_prog_24_method_9_4 : decode prog_24_method_9_code 4 = .ok (.iload_n 1, 1) := by decide +kernel
theorem own_d_prog_24_method_9_5 : decode prog_24_method_9_code 5 = .ok (.ldc 30, 2) := by decide +kernel
theorem own_d_prog_24_method_9_7 : decode prog_24_method_9_code 7 = .ok (.if_icmp .le 13, 3) := by decide +kernel
theorem own_d_prog_24_method_9_20 : decode prog_24_method_9_code 20 = .ok (.ldc2_w 38, 3) := by decide +kernel
theorem own_d_prog_24_method_9_23 : decode prog_24_method_9_code 23 = .ok (.iload_n 1, 1) := by decide +kernel
theorem own_d_prog_24_method_9_24 : decode prog_24_method_9_code 24 = .ok (.i2l, 1) := by decide +kernel
theorem own_d_prog_24_method_9_25 : decode prog_24_method_9_code 25 = .ok (.iload_n 0, 1) := by decide +kernel
theorem own_d_prog_24_method_9_26 : decode prog_24_method_9_code 26 = .ok (.i2l, 1) := by decide +kernel
theorem own_d_prog_24_method_9_27 : decode prog_24_method_9_code 27 = .ok (.iload_n 0, 1) := by decide +kernel
theorem own_d_prog_24_method_9_28 : decode prog_24_method_9_code 28 = .ok (.iconst 1, 1) := by decide +kernel
theorem own_d_prog_24_method_9_29 : decode prog_24_method_9_code 29 = .ok (.ishr, 1) := by decide +kernel
theorem own_d_prog_24_method_9_30 : decode prog_24_method_9_code 30 = .ok (.i2l, 1) := by decide +kernel
theorem own_d_prog_24_method_9_31 : decode prog_24_method_9_code 31 = .ok (.ladd, 1) := by decide +kernel
theorem own_d_prog_24_method_9_32 : decode prog_24_method_9_code 32 = .ok (.invokestatic 40, 3) := by decide +kernel
theorem own_d_prog_24_method_9_35 : decode prog_24_method_9_code 35 = .ok (.invokestatic 46, 3) := by decide +kernel
theorem own_d_prog_24_method_9_38 : decode prog_24_method_9_code 38 = .ok (.l2i, 1) := by decide +kernel
theorem own_d_prog_24_method_9_39 : decode prog_24_method_9_code 39 = .ok (.ireturn, 1) := by decide +kernel
theorem own_d_prog_34_method_10_0 : decode prog_34_method_10_code 0 = .ok (.iload_n 0, 1) := by decide +kernel
theorem own_d_prog_34_method_10_1 : decode prog_34_method_10_code 1 = .ok (.newarray .int, 2) := by decide +kernel
theorem own_d_prog_34_method_10_3 : decode prog_34_method_10_code 3 = .ok (.astore_n 1, 1) := by decide +kernel
theorem own_d_prog_34_method_10_4 : decode prog_34_method_10_code 4 = .ok (.aload_n 1, 1) := by decide +kernel
theorem own_d_prog_34_method_10_5 : decode prog_34_method_10_code 5 = .ok (.iconst (-1), 1) := by decide +kernel
theorem own_d_prog_34_method_10_6 : decode prog_34_method_10_code 6 = .ok (.invokestatic 122, 3) := by decide +kernel
theorem own_d_prog_34_method_10_9 : decode prog_34_method_10_code 9 = .ok (.aload_n 1, 1) := by decide +kernel
theorem own_d_prog_34_method_10_10 : decode prog_34_method_10_code 10 = .ok (.areturn, 1) := by decide +kernel
theorem own_d_prog_34_method_11_0 : decode prog_34_method_11_code 0 = .ok (.lconst 0, 1) := by decide +kernel
theorem own_d_prog_34_method_11_1 : decode prog_34_method_11_code 1 = .ok (.lstore_n 3, 1) := by decide +kernel
theorem own_d_prog_34_method_11_2 : decode prog_34_method_11_code 2 = .ok (.iload_n 1, 1) := by decide +kernel
theorem own_d_prog_34_method_11_3 : decode prog_34_method_11_code 3 = .ok (.istore 5, 2) := by decide +kernel
theorem own_d_prog_34_method_11_5 : decode prog_34_method_11_code 5 = .ok (.iload 5, 2) := by decide +kernel
theorem own_d_prog_34_method_11_7 : decode prog_34_method_11_code 7 = .ok (.iload_n 1, 1) := by decide +kernel
theorem own_d_prog_34_method_11_8 : decode prog_34_method_11_code 8 = .ok (.iload_n 2, 1) := by decide +kernel
theorem own_d_prog_34_method_11_9 : decode prog_34_method_11_code 9 = .ok (.iadd, 1) := by decide +kernel
theorem own_d_prog_34_method_11_10 : decode prog_34_method_11_code 10 = .ok (.if_icmp .ge 20, 3) := by decide +kernel
theorem own_d_prog_34_method_11_13 : decode prog_34_method_11_code 13 = .ok (.lload_n 3, 1) := by decide +kernel
theorem own_d_prog_34_method_11_14 : decode prog_34_method_11_code 14 = .ok (.aload_n 0, 1) := by decide +kernel
theorem own_d_prog_34_method_11_15 : decode prog_34_method_11_code 15 = .ok (.iload 5, 2) := by decide +kernel
theorem own_d_prog_34_method_11_17 : decode prog_34_method_11_code 17 = .ok (.laload, 1) := by decide +kernel
theorem own_d_prog_34_method_11_18 : decode prog_34_method_11_code 18 = .ok (.lxor, 1) := by decide +kernel
theorem own_d_prog_34_method_11_19 : decode prog_34_method_11_code 19 = .ok (.ldc2_w 126, 3) := by decide +kernel
theorem own_d_prog_34_method_11_22 : decode prog_34_method_11_code 22 = .ok (.lmul, 1) := by decide +kernel
theorem own_d_prog_34_method_11_23 : decode prog_34_method_11_code 23 = .ok (.lstore_n 3, 1) := by decide +kernel
theorem own_d_prog_34_method_11_24 : decode prog_34_method_11_code 24 = .ok (.iinc 5 1, 3) := by decide +kernel
theorem own_d_prog_34_method_11_27 : decode prog_34_method_11_code 27 = .ok (.goto (-22), 3) := by decide +kernel
theorem own_d_prog_34_method_11_30 : decode prog_34_method_11_code 30 = .ok (.lload_n 3, 1) := by decide +kernel
theorem own_d_prog_34_method_11_31 : decode prog_34_method_11_code 31 = .ok (.lload_n 3, 1) := by decide +kernel
theorem own_d_prog_34_method_11_32 : decode prog_34_method_11_code 32 = .ok (.bipush 32, 2) := by decide +kernel
theorem own_d_prog_34_method_11_34 : decode prog_34_method_11_code 34 = .ok (.lushr, 1) := by decide +kernel
theorem own_d_prog_34_method_11_35 : decode prog_34_method_11_code 35 = .ok (.lxor, 1) := by decide +kernel
theorem own_d_prog_34_method_11_36 : decode prog_34_method_11_code 36 = .ok (.ldc2_w 126, 3) := by decide +kernel
theorem own_d_prog_34_method_11_39 : decode prog_34_method_11_code 39 = .ok (.lmul, 1) := by decide +kernel
theorem own_d_prog_34_method_11_40 : decode prog_34_method_11_code 40 = .ok (.lreturn, 1) := by decide +kernel
theorem own_d_prog_34_method_12_0 : decode prog_34_method_12_code 0 = .ok (.lload_n 1, 1) := by decide +kernel
theorem own_d_prog_34_method_12_1 : decode prog_34_method_12_code 1 = .ok (.aload_n 0, 1) := by decide +kernel
theorem own_d_prog_34_method_12_2 : decode prog_34_method_12_code 2 = .ok (.getfield 21, 3) := by decide +kernel
theorem own_d_prog_34_method_12_5 : decode prog_34_method_12_code 5 = .ok (.arraylength, 1) := by decide +kernel
theorem own_d_prog_34_method_12_6 : decode prog_34_method_12_code 6 = .ok (.i2l, 1) := by decide +kernel
theorem own_d_prog_34_method_12_7 : decode prog_34_method_12_code 7 = .ok (.lconst 1, 1) := by decide +kernel
theorem own_d_prog_34_method_12_8 : decode prog_34_method_12_code 8 = .ok (.lsub, 1) := by decide +kernel
theorem own_d_prog_34_method_12_9 : decode prog_34_method_12_code 9 = .ok (.invokestatic 128, 3) := by decide +kernel
theorem own_d_prog_34_method_12_12 : decode prog_34_method_12_code 12 = .ok (.lushr, 1) := by decide +kernel
theorem own_d_prog_34_method_12_13 : decode prog_34_method_12_code 13 = .ok (.l2i, 1) := by decide +kernel
theorem own_d_prog_34_method_12_14 : decode prog_34_method_12_code 14 = .ok (.ireturn, 1) := by decide +kernel
theorem own_d_prog_34_method_13_0 : decode prog_34_method_13_code 0 = .ok (.lload_n 1, 1) := by decide +kernel
theorem own_d_prog_34_method_13_1 : decode prog_34_method_13_code 1 = .ok (.aload_n 0, 1) := by decide +kernel
theorem own_d_prog_34_method_13_2 : decode prog_34_method_13_code 2 = .ok (.getfield 21, 3) := by decide +kernel
theorem own_d_prog_34_method_13_5 : decode prog_34_method_13_code 5 = .ok (.arraylength, 1) := by decide +kernel
theorem own_d_prog_34_method_13_6 : decode prog_34_method_13_code 6 = .ok (.i2l, 1) := by decide +kernel
theorem own_d_prog_34_method_13_7 : decode prog_34_method_13_code 7 = .ok (.lconst 1, 1) := by decide +kernel
theorem own_d_prog_34_method_13_8 : decode prog_34_method_13_code 8 = .ok (.lsub, 1) := by decide +kernel
theorem own_d_prog_34_method_13_9 : decode prog_34_method_13_code 9 = .ok (.invokestatic 128, 3) := by decide +kernel
theorem own_d_prog_34_method_13_12 : decode prog_34_method_13_code 12 = .ok (.iconst 2, 1) := by decide +kernel
theorem own_d_prog_34_method_13_13 : decode prog_34_method_13_code 13 = .ok (.isub, 1) := by decide +kernel
theorem own_d_prog_34_method_13_14 : decode prog_34_method_13_code 14 = .ok (.lushr, 1) := by decide +kernel
theorem own_d_prog_34_method_13_15 : decode prog_34_method_13_code 15 = .ok (.l2i, 1) := by decide +kernel
theorem own_d_prog_34_method_13_16 : decode prog_34_method_13_code 16 = .ok (.iconst 3, 1) := by decide +kernel
theorem own_d_prog_34_method_13_17 : decode prog_34_method_13_code 17 = .ok (.iand, 1) := by decide +kernel
theorem own_d_prog_34_method_13_18 : decode prog_34_method_13_code 18 = .ok (.ireturn, 1) := by decide +kernel
theorem own_d_prog_34_method_1_0 : decode prog_34_method_1_code 0 = .ok (.aload_n 0, 1) := by decide +kernel
theorem own_d_prog_34_method_1_1 : decode prog_34_method_1_code 1 = .ok (.invokespecial 3, 3) := by decide +kernel
theorem own_d_prog_34_method_1_4 : decode prog_34_method_1_code 4 = .ok (.aload_n 0, 1) := by decide +kernel
theorem own_d_prog_34_method_1_5 : decode prog_34_method_1_code 5 = .ok (.iconst 0, 1) := by decide +kernel
theorem own_d_prog_34_method_1_6 : decode prog_34_method_1_code 6 = .ok (.newarray .long, 2) := by decide +kernel
theorem own_d_prog_34_method_1_8 : decode prog_34_method_1_code 8 = .ok (.putfield 9, 3) := by decide +kernel
theorem own_d_prog_34_method_1_11 : decode prog_34_method_1_code 11 = .ok (.aload_n 0, 1) := by decide +kernel
theorem own_d_prog_34_method_1_12 : decode prog_34_method_1_code 12 = .ok (.sipush 1024, 3) := by decide +kernel
theorem own_d_prog_34_method_1_15 : decode prog_34_method_1_code 15 = .ok (.newarray .int, 2) := by decide +kernel
theorem own_d_prog_34_method_1_17 : decode prog_34_method_1_code 17 = .ok (.putfield 13, 3) := by decide +kernel
theorem own_d_prog_34_method_1_20 : decode prog_34_method_1_code 20 = .ok (.aload_n 0, 1) := by decide +kernel
theorem own_d_prog_34_method_1_21 : decode prog_34_method_1_code 21 = .ok (.sipush 2048, 3) := by decide +kernel
theorem own_d_prog_34_method_1_24 : decode prog_34_method_1_code 24 = .ok (.invokestatic 17, 3) := by decide +kernel
theorem own_d_prog_34_method_1_27 : decode prog_34_method_1_code 27 = .ok (.putfield 21, 3) := by decide +kernel
theorem own_d_prog_34_method_1_30 : decode prog_34_method_1_code 30 = .ok (.aload_n 0, 1) := by decide +kernel
theorem own_d_prog_34_method_1_31 : decode prog_34_method_1_code 31 = .ok (.new 24, 3) := by decide +kernel
theorem own_d_prog_34_method_1_34 : decode prog_34_method_1_code 34 = .ok (.dup, 1) := by decide +kernel
theorem own_d_prog_34_method_1_35 : decode prog_34_method_1_code 35 = .ok (.invokespecial 26, 3) := by decide +kernel
theorem own_d_prog_34_method_1_38 : decode prog_34_method_1_code 38 = .ok (.putfield 27, 3) := by decide +kernel
theorem own_d_prog_34_method_1_41 : decode prog_34_method_1_code 41 = .ok (.return_, 1) := by decide +kernel
theorem own_d_prog_34_method_2_0 : decode prog_34_method_2_code 0 = .ok (.aload_n 0, 1) := by decide +kernel
theorem own_d_prog_34_method_2_1 : decode prog_34_method_2_code 1 = .ok (.getfield 21, 3) := by decide +kernel
theorem own_d_prog_34_method_2_4 : decode prog_34_method_2_code 4 = .ok (.arraylength, 1) := by decide +kernel
theorem own_d_prog_34_method_2_5 : decode prog_34_method_2_code 5 = .ok (.iconst 1, 1) := by decide +kernel
theorem own_d_prog_34_method_2_6 : decode prog_34_method_2_code 6 = .ok (.isub, 1) := by decide +kernel
theorem own_d_prog_34_method_2_7 : decode prog_34_method_2_code 7 = .ok (.istore 4, 2) := by decide +kernel
theorem own_d_prog_34_method_2_9 : decode prog_34_method_2_code 9 = .ok (.aload_n 1, 1) := by decide +kernel
theorem own_d_prog_34_method_2_10 : decode prog_34_method_2_code 10 = .ok (.iload_n 2, 1) := by decide +kernel
theorem own_d_prog_34_method_2_11 : decode prog_34_method_2_code 11 = .ok (.iload_n 3, 1) := by decide +kernel
theorem own_d_prog_34_method_2_12 : decode prog_34_method_2_code 12 = .ok (.invokestatic 31, 3) := by decide +kernel
theorem own_d_prog_34_method_2_15 : decode prog_34_method_2_code 15 = .ok (.lstore 5, 2) := by decide +kernel
theorem own_d_prog_34_method_2_17 : decode prog_34_method_2_code 17 = .ok (.aload_n 0, 1) := by decide +kernel
theorem own_d_prog_34_method_2_18 : decode prog_34_method_2_code 18 = .ok (.lload 5, 2) := by decide +kernel
theorem own_d_prog_34_method_2_20 : decode prog_34_method_2_code 20 = .ok (.invokevirtual 35, 3) := by decide +kernel
theorem own_d_prog_34_method_2_23 : decode prog_34_method_2_code 23 = .ok (.istore 7, 2) := by decide +kernel
theorem own_d_prog_34_method_2_25 : decode prog_34_method_2_code 25 = .ok (.aload_n 0, 1) := by decide +kernel
theorem own_d_prog_34_method_2_26 : decode prog_34_method_2_code 26 = .ok (.lload 5, 2) := by decide +kernel
theorem own_d_prog_34_method_2_28 : decode prog_34_method_2_code 28 = .ok (.invokevirtual 39, 3) := by decide +kernel
theorem own_d_prog_34_method_2_31 : decode prog_34_method_2_code 31 = .ok (.istore 8, 2) := by decide +kernel
theorem own_d_prog_34_method_2_33 : decode prog_34_method_2_code 33 = .ok (.aload_n 0, 1) := by decide +kernel
theorem own_d_prog_34_method_2_34 : decode prog_34_method_2_code 34 = .ok (.getfield 21, 3) := by decide +kernel
theorem own_d_prog_34_method_2_37 : decode prog_34_method_2_code 37 = .ok (.iload 8, 2) := by decide +kernel
theorem own_d_prog_34_method_2_39 : decode prog_34_method_2_code 39 = .ok (.iaload, 1) := by decide +kernel
theorem own_d_prog_34_method_2_40 : decode prog_34_method_2_code 40 = .ok (.iconst (-1), 1) := by decide +kernel
theorem own_d_prog_34_method_2_41 : decode prog_34_method_2_code 41 = .ok (.if_icmp .eq 55, 3) := by decide +kernel
theorem own_d_prog_34_method_2_44 : decode prog_34_method_2_code 44 = .ok (.aload_n 0, 1) := by decide +kernel
theorem own_d_prog_34_method_2_45 : decode prog_34_method_2_code 45 = .ok (.getfield 21, 3) := by decide +kernel
theorem own_d_prog_34_method_2_48 : decode prog_34_method_2_code 48 = .ok (.iload 8, 2) := by decide +kernel
theorem own_d_prog_34_method_2_50 : decode prog_34_method_2_code 50 = .ok (.iaload, 1) := by decide +kernel
theorem own_d_prog_34_method_2_51 : decode prog_34_method_2_code 51 = .ok (.istore 9, 2) := by decide +kernel
theorem own_d_prog_34_method_2_53 : decode prog_34_method_2_code 53 = .ok (.iload 9, 2) := by decide +kernel
theorem own_d_prog_34_method_2_55 : decode prog_34_method_2_code 55 = .ok (.bipush 29, 2) := by decide +kernel
theorem own_d_prog_34_method_2_57 : decode prog_34_method_2_code 57 = .ok (.iushr, 1) := by decide +kernel
theorem own_d_prog_34_method_2_58 : decode prog_34_method_2_code 58 = .ok (.iload 7, 2) := by decide +kernel
theorem own_d_prog_34_method_2_60 : decode prog_34_method_2_code 60 = .ok (.if_icmp .ne 24, 3) := by decide +kernel
theorem own_d_prog_34_method_2_63 : decode prog_34_method_2_code 63 = .ok (.aload_n 0, 1) := by decide +kernel
theorem own_d_prog_34_method_2_64 : decode prog_34_method_2_code 64 = .ok (.iload 9, 2) := by decide +kernel
theorem own_d_prog_34_method_2_66 : decode prog_34_method_2_code 66 = .ok (.ldc 42, 2) := by decide +kernel
theorem own_d_prog_34_method_2_68 : decode prog_34_method_2_code 68 = .ok (.iand, 1) := by decide +kernel
theorem own_d_prog_34_method_2_69 : decode prog_34_method_2_code 69 = .ok (.aload_n 1, 1) := by decide +kernel
theorem own_d_prog_34_method_2_70 : decode prog_34_method_2_code 70 = .ok (.iload_n 2, 1) := by decide +kernel
theorem own_d_prog_34_method_2_71 : decode prog_34_method_2_code 71 = .ok (.iload_n 3, 1) := by decide +kernel
theorem own_d_prog_34_method_2_72 : decode prog_34_method_2_code 72 = .ok (.invokevirtual 43, 3) := by decide +kernel
theorem own_d_prog_34_method_2_75 : decode prog_34_method_2_code 75 = .ok (.ifCond .eq 9, 3) := by decide +kernel
theorem own_d_prog_34_method_2_78 : decode prog_34_method_2_code 78 = .ok (.iload 9, 2) := by decide +kernel
theorem own_d_prog_34_method_2_80 : decode prog_34_method_2_code 80 = .ok (.ldc 42, 2) := by decide +kernel
theorem own_d_prog_34_method_2_82 : decode prog_34_method_2_code 82 = .ok (.iand, 1) := by decide +kernel
theorem own_d_prog_34_method_2_83 : decode prog_34_method_2_code 83 = .ok (.ireturn, 1) := by decide +kernel
theorem own_d_prog_34_method_2_84 : decode prog_34_method_2_code 84 = .ok (.iload 8, 2) := by decide +kernel
theorem own_d_prog_34_method_2_86 : decode prog_34_method_2_code 86 = .ok (.iconst 1, 1) := by decide +kernel
theorem own_d_prog_34_method_2_87 : decode prog_34_method_2_code 87 = .ok (.iadd, 1) := by decide +kernel
theorem own_d_prog_34_method_2_88 : decode prog_34_method_2_code 88 = .ok (.iload 4, 2) := by decide +kernel
theorem own_d_prog_34_method_2_90 : decode prog_34_method_2_code 90 = .ok (.iand, 1) := by decide +kernel
theorem own_d_prog_34_method_2_91 : decode prog_34_method_2_code 91 = .ok (.istore 8, 2) := by decide +kernel
theorem own_d_prog_34_method_2_93 : decode prog_34_method_2_code 93 = .ok (.goto (-60), 3) := by decide +kernel
theorem own_d_prog_34_method_2_96 : decode prog_34_method_2_code 96 = .ok (.aload_n 0, 1) := by decide +kernel
theorem own_d_prog_34_method_2_97 : decode prog_34_method_2_code 97 = .ok (.aload_n 1, 1) := by decide +kernel
theorem own_d_prog_34_method_2_98 : decode prog_34_method_2_code 98 = .ok (.iload_n 2, 1) := by decide +kernel
theorem own_d_prog_34_method_2_99 : decode prog_34_method_2_code 99 = .ok (.iload_n 3, 1) := by decide +kernel
theorem own_d_prog_34_method_2_100 : decode prog_34_method_2_code 100 = .ok (.invokevirtual 47, 3) := by decide +kernel
theorem own_d_prog_34_method_2_103 : decode prog_34_method_2_code 103 = .ok (.istore 9, 2) := by decide +kernel
theorem own_d_prog_34_method_2_105 : decode prog_34_method_2_code 105 = .ok (.aload_n 0, 1) := by decide +kernel
theorem own_d_prog_34_method_2_106 : decode prog_34_method_2_code 106 = .ok (.getfield 21, 3) := by decide +kernel
theorem own_d_prog_34_method_2_109 : decode prog_34_method_2_code 109 = .ok (.iload 8, 2) := by decide +kernel
theorem own_d_prog_34_method_2_111 : decode prog_34_method_2_code 111 = .ok (.iload 9, 2) := by decide +kernel
theorem own_d_prog_34_method_2_113 : decode prog_34_method_2_code 113 = .ok (.iload 7, 2) := by decide +kernel
theorem own_d_prog_34_method_2_115 : decode prog_34_method_2_code 115 = .ok (.bipush 29, 2) := by decide +kernel
theorem own_d_prog_34_method_2_117 : decode prog_34_method_2_code 117 = .ok (.ishl, 1) := by decide +kernel
theorem own_d_prog_34_method_2_118 : decode prog_34_method_2_code 118 = .ok (.ior, 1) := by decide +kernel
theorem own_d_prog_34_method_2_119 : decode prog_34_method_2_code 119 = .ok (.iastore, 1) := by decide +kernel
theorem own_d_prog_34_method_2_120 : decode prog_34_method_2_code 120 = .ok (.aload_n 0, 1) := by decide +kernel
theorem own_d_prog_34_method_2_121 : decode prog_34_method_2_code 121 = .ok (.dup, 1) := by decide +kernel
theorem own_d_prog_34_method_2_122 : decode prog_34_method_2_code 122 = .ok (.getfield 51, 3) := by decide +kernel
theorem own_d_prog_34_method_2_125 : decode prog_34_method_2_code 125 = .ok (.iconst 1, 1) := by decide +kernel
theorem own_d_prog_34_method_2_126 : decode prog_34_method_2_code 126 = .ok (.iadd, 1) := by decide +kernel
theorem own_d_prog_34_method_2_127 : decode prog_34_method_2_code 127 = .ok (.putfield 51, 3) := by decide +kernel
theorem own_d_prog_34_method_2_130 : decode prog_34_method_2_code 130 = .ok (.ldc2_w 55, 3) := by decide +kernel
theorem own_d_prog_34_method_2_133 : decode prog_34_method_2_code 133 = .ok (.aload_n 0, 1) := by decide +kernel
theorem own_d_prog_34_method_2_134 : decode prog_34_method_2_code 134 = .ok (.getfield 51, 3) := by decide +kernel
theorem own_d_prog_34_method_2_137 : decode prog_34_method_2_code 137 = .ok (.i2l, 1) := by decide +kernel
theorem own_d_prog_34_method_2_138 : decode prog_34_method_2_code 138 = .ok (.lmul, 1) := by decide +kernel
theorem own_d_prog_34_method_2_139 : decode prog_34_method_2_code 139 = .ok (.aload_n 0, 1) := by decide +kernel
theorem own_d_prog_34_method_2_140 : decode prog_34_method_2_code 140 = .ok (.getfield 21, 3) := by decide +kernel
theorem own_d_prog_34_method_2_143 : decode prog_34_method_2_code 143 = .ok (.arraylength, 1) := by decide +kernel
theorem own_d_prog_34_method_2_144 : decode prog_34_method_2_code 144 = .ok (.i2l, 1) := by decide +kernel
theorem own_d_prog_34_method_2_145 : decode prog_34_method_2_code 145 = .ok (.lcmp, 1) := by decide +kernel
theorem own_d_prog_34_method_2_146 : decode prog_34_method_2_code 146 = .ok (.ifCond .le 7, 3) := by decide +kernel
theorem own_d_prog_34_method_2_153 : decode prog_34_method_2_code 153 = .ok (.iload 9, 2) := by decide +kernel
theorem own_d_prog_34_method_2_155 : decode prog_34_method_2_code 155 = .ok (.ireturn, 1) := by decide +kernel
theorem own_d_prog_34_method_3_0 : decode prog_34_method_3_code 0 = .ok (.aload_n 0, 1) := by decide +kernel
theorem own_d_prog_34_method_3_1 : decode prog_34_method_3_code 1 = .ok (.aload_n 1, 1) := by decide +kernel
theorem own_d_prog_34_method_3_2 : decode prog_34_method_3_code 2 = .ok (.iload_n 2, 1) := by decide +kernel
theorem own_d_prog_34_method_3_3 : decode prog_34_method_3_code 3 = .ok (.iload_n 3, 1) := by decide +kernel
theorem own_d_prog_34_method_3_4 : decode prog_34_method_3_code 4 = .ok (.invokevirtual 47, 3) := by decide +kernel
theorem own_d_prog_34_method_3_7 : decode prog_34_method_3_code 7 = .ok (.istore 4, 2) := by decide +kernel
theorem own_d_prog_34_method_3_9 : decode prog_34_method_3_code 9 = .ok (.aload_n 0, 1) := by decide +kernel
theorem own_d_prog_34_method_3_10 : decode prog_34_method_3_code 10 = .ok (.getfield 27, 3) := by decide +kernel
theorem own_d_prog_34_method_3_13 : decode prog_34_method_3_code 13 = .ok (.iload 4, 2) := by decide +kernel
theorem own_d_prog_34_method_3_15 : decode prog_34_method_3_code 15 = .ok (.invokevirtual 60, 3) := by decide +kernel
theorem own_d_prog_34_method_3_18 : decode prog_34_method_3_code 18 = .ok (.iload 4, 2) := by decide +kernel
theorem own_d_prog_34_method_3_20 : decode prog_34_method_3_code 20 = .ok (.ireturn, 1) := by decide +kernel
theorem own_d_prog_34_method_4_0 : decode prog_34_method_4_code 0 = .ok (.aload_n 0, 1) := by decide +kernel
theorem own_d_prog_34_method_4_1 : decode prog_34_method_4_code 1 = .ok (.getfield 64, 3) := by decide +kernel
theorem own_d_prog_34_method_4_4 : decode prog_34_method_4_code 4 = .ok (.ldc 42, 2) := by decide +kernel
theorem own_d_prog_34_method_4_6 : decode prog_34_method_4_code 6 = .ok (.if_icmp .le 11, 3) := by decide +kernel
theorem own_d_prog_34_method_4_17 : decode prog_34_method_4_code 17 = .ok (.aload_n 0, 1) := by decide +kernel
theorem own_d_prog_34_method_4_18 : decode prog_34_method_4_code 18 = .ok (.getfield 13, 3) := by decide +kernel
theorem own_d_prog_34_method_4_21 : decode prog_34_method_4_code 21 = .ok (.aload_n 0, 1) := by decide +kernel
theorem own_d_prog_34_method_4_22 : decode prog_34_method_4_code 22 = .ok (.getfield 64, 3) := by decide +kernel
theorem own_d_prog_34_method_4_25 : decode prog_34_method_4_code 25 = .ok (.iaload, 1) := by decide +kernel
theorem own_d_prog_34_method_4_26 : decode prog_34_method_4_code 26 = .ok (.istore 4, 2) := by decide +kernel
theorem own_d_prog_34_method_4_28 : decode prog_34_method_4_code 28 = .ok (.iload 4, 2) := by decide +kernel
theorem own_d_prog_34_method_4_30 : decode prog_34_method_4_code 30 = .ok (.i2l, 1) := by decide +kernel
theorem own_d_prog_34_method_4_31 : decode prog_34_method_4_code 31 = .ok (.iload_n 3, 1) := by decide +kernel
theorem own_d_prog_34_method_4_32 : decode prog_34_method_4_code 32 = .ok (.i2l, 1) := by decide +kernel
theorem own_d_prog_34_method_4_33 : decode prog_34_method_4_code 33 = .ok (.ladd, 1) := by decide +kernel
theorem own_d_prog_34_method_4_34 : decode prog_34_method_4_code 34 = .ok (.lstore 5, 2) := by decide +kernel
theorem own_d_prog_34_method_4_36 : decode prog_34_method_4_code 36 = .ok (.lload 5, 2) := by decide +kernel
theorem own_d_prog_34_method_4_38 : decode prog_34_method_4_code 38 = .ok (.aload_n 0, 1) := by decide +kernel
theorem own_d_prog_34_method_4_39 : decode prog_34_method_4_code 39 = .ok (.getfield 9, 3) := by decide +kernel
theorem own_d_prog_34_method_4_42 : decode prog_34_method_4_code 42 = .ok (.arraylength, 1) := by decide +kernel
theorem own_d_prog_34_method_4_43 : decode prog_34_method_4_code 43 = .ok (.i2l, 1) := by decide +kernel
theorem own_d_prog_34_method_4_44 : decode prog_34_method_4_code 44 = .ok (.lcmp, 1) := by decide +kernel
theorem own_d_prog_34_method_4_45 : decode prog_34_method_4_code 45 = .ok (.ifCond .le 72, 3) := by decide +kernel
theorem own_d_prog_34_method_4_48 : decode prog_34_method_4_code 48 = .ok (.lload 5, 2) := by decide +kernel
theorem own_d_prog_34_method_4_50 : decode prog_34_method_4_code 50 = .ok (.ldc2_w 73, 3) := by decide +kernel
theorem own_d_prog_34_method_4_53 : decode prog_34_method_4_code 53 = .ok (.lcmp, 1) := by decide +kernel
theorem own_d_prog_34_method_4_54 : decode prog_34_method_4_code 54 = .ok (.ifCond .le 11, 3) := by decide +kernel
theorem own_d_prog_34_method_4_65 : decode prog_34_method_4_code 65 = .ok (.aload_n 0, 1) := by decide +kernel
theorem own_d_prog_34_method_4_66 : decode prog_34_method_4_code 66 = .ok (.getfield 64, 3) := by decide +kernel
theorem own_d_prog_34_method_4_69 : decode prog_34_method_4_code 69 = .ok (.ifCond .ne 18, 3) := by decide +kernel
theorem own_d_prog_34_method_4_72 : decode prog_34_method_4_code 72 = .ok (.ldc2_w 75, 3) := by decide +kernel
theorem own_d_prog_34_method_4_75 : decode prog_34_method_4_code 75 = .ok (.iload_n 3, 1) := by decide +kernel
theorem own_d_prog_34_method_4_76 : decode prog_34_method_4_code 76 = .ok (.i2l, 1) := by decide +kernel
theorem own_d_prog_34_method_4_77 : decode prog_34_method_4_code 77 = .ok (.lmul, 1) := by decide +kernel
theorem own_d_prog_34_method_4_78 : decode prog_34_method_4_code 78 = .ok (.ldc2_w 79, 3) := by decide +kernel
theorem own_d_prog_34_method_4_81 : decode prog_34_method_4_code 81 = .ok (.invokestatic 81, 3) := by decide +kernel
theorem own_d_prog_34_method_4_84 : decode prog_34_method_4_code 84 = .ok (.goto 4, 3) := by decide +kernel
theorem own_d_prog_34_method_4_88 : decode prog_34_method_4_code 88 = .ok (.lstore 7, 2) := by decide +kernel
theorem own_d_prog_34_method_4_90 : decode prog_34_method_4_code 90 = .ok (.aload_n 0, 1) := by decide +kernel
theorem own_d_prog_34_method_4_91 : decode prog_34_method_4_code 91 = .ok (.aload_n 0, 1) := by decide +kernel
theorem own_d_prog_34_method_4_92 : decode prog_34_method_4_code 92 = .ok (.getfield 9, 3) := by decide +kernel
theorem own_d_prog_34_method_4_95 : decode prog_34_method_4_code 95 = .ok (.aload_n 0, 1) := by decide +kernel
theorem own_d_prog_34_method_4_96 : decode prog_34_method_4_code 96 = .ok (.getfield 9, 3) := by decide +kernel
theorem own_d_prog_34_method_4_99 : decode prog_34_method_4_code 99 = .ok (.arraylength, 1) := by decide +kernel
theorem own_d_prog_34_method_4_100 : decode prog_34_method_4_code 100 = .ok (.lload 5, 2) := by decide +kernel
theorem own_d_prog_34_method_4_102 : decode prog_34_method_4_code 102 = .ok (.lload 7, 2) := by decide +kernel
theorem own_d_prog_34_method_4_104 : decode prog_34_method_4_code 104 = .ok (.invokestatic 87, 3) := by decide +kernel
theorem own_d_prog_34_method_4_107 : decode prog_34_method_4_code 107 = .ok (.l2i, 1) := by decide +kernel
theorem own_d_prog_34_method_4_108 : decode prog_34_method_4_code 108 = .ok (.invokestatic 90, 3) := by decide +kernel
theorem own_d_prog_34_method_4_111 : decode prog_34_method_4_code 111 = .ok (.invokestatic 94, 3) := by decide +kernel
theorem own_d_prog_34_method_4_114 : decode prog_34_method_4_code 114 = .ok (.putfield 9, 3) := by decide +kernel
theorem own_d_prog_34_method_4_117 : decode prog_34_method_4_code 117 = .ok (.aload_n 0, 1) := by decide +kernel
theorem own_d_prog_34_method_4_118 : decode prog_34_method_4_code 118 = .ok (.getfield 64, 3) := by decide +kernel
theorem own_d_prog_34_method_4_121 : decode prog_34_method_4_code 121 = .ok (.iconst 1, 1) := by decide +kernel
theorem own_d_prog_34_method_4_122 : decode prog_34_method_4_code 122 = .ok (.iadd, 1) := by decide +kernel
theorem own_d_prog_34_method_4_123 : decode prog_34_method_4_code 123 = .ok (.aload_n 0, 1) := by decide +kernel
theorem own_d_prog_34_method_4_124 : decode prog_34_method_4_code 124 = .ok (.getfield 13, 3) := by decide +kernel
theorem own_d_prog_34_method_4_127 : decode prog_34_method_4_code 127 = .ok (.arraylength, 1) := by decide +kernel
theorem own_d_prog_34_method_4_128 : decode prog_34_method_4_code 128 = .ok (.if_icmp .ne 28, 3) := by decide +kernel
theorem own_d_prog_34_method_4_156 : decode prog_34_method_4_code 156 = .ok (.aload_n 1, 1) := by decide +kernel
theorem own_d_prog_34_method_4_157 : decode prog_34_method_4_code 157 = .ok (.iload_n 2, 1) := by decide +kernel
theorem own_d_prog_34_method_4_158 : decode prog_34_method_4_code 158 = .ok (.aload_n 0, 1) := by decide +kernel
theorem own_d_prog_34_method_4_159 : decode prog_34_method_4_code 159 = .ok (.getfield 9, 3) := by decide +kernel
theorem own_d_prog_34_method_4_162 : decode prog_34_method_4_code 162 = .ok (.iload 4, 2) := by decide +kernel
theorem own_d_prog_34_method_4_164 : decode prog_34_method_4_code 164 = .ok (.iload_n 3, 1) := by decide +kernel
theorem own_d_prog_34_method_4_165 : decode prog_34_method_4_code 165 = .ok (.invokestatic 103, 3) := by decide +kernel
theorem own_d_prog_34_method_4_168 : decode prog_34_method_4_code 168 = .ok (.aload_n 0, 1) := by decide +kernel
theorem own_d_prog_34_method_4_169 : decode prog_34_method_4_code 169 = .ok (.getfield 13, 3) := by decide +kernel
theorem own_d_prog_34_method_4_172 : decode prog_34_method_4_code 172 = .ok (.aload_n 0, 1) := by decide +kernel
theorem own_d_prog_34_method_4_173 : decode prog_34_method_4_code 173 = .ok (.getfield 64, 3) := by decide +kernel
theorem own_d_prog_34_method_4_176 : decode prog_34_method_4_code 176 = .ok (.iconst 1, 1) := by decide +kernel
theorem own_d_prog_34_method_4_177 : decode prog_34_method_4_code 177 = .ok (.iadd, 1) := by decide +kernel
theorem own_d_prog_34_method_4_178 : decode prog_34_method_4_code 178 = .ok (.lload 5, 2) := by decide +kernel
theorem own_d_prog_34_method_4_180 : decode prog_34_method_4_code 180 = .ok (.l2i, 1) := by decide +kernel
theorem own_d_prog_34_method_4_181 : decode prog_34_method_4_code 181 = .ok (.iastore, 1) := by decide +kernel
theorem own_d_prog_34_method_4_182 : decode prog_34_method_4_code 182 = .ok (.aload_n 0, 1) := by decide +kernel
theorem own_d_prog_34_method_4_183 : decode prog_34_method_4_code 183 = .ok (.dup, 1) := by decide +kernel
theorem own_d_prog_34_method_4_184 : decode prog_34_method_4_code 184 = .ok (.getfield 64, 3) := by decide +kernel
theorem own_d_prog_34_method_4_187 : decode prog_34_method_4_code 187 = .ok (.iconst 1, 1) := by decide +kernel
theorem own_d_prog_34_method_4_188 : decode prog_34_method_4_code 188 = .ok (.iadd, 1) := by decide +kernel
theorem own_d_prog_34_method_4_189 : decode prog_34_method_4_code 189 = .ok (.putfield 64, 3) := by decide +kernel
theorem own_d_prog_34_method_4_192 : decode prog_34_method_4_code 192 = .ok (.aload_n 0, 1) := by decide +kernel
theorem own_d_prog_34_method_4_193 : decode prog_34_method_4_code 193 = .ok (.getfield 64, 3) := by decide +kernel
theorem own_d_prog_34_method_4_196 : decode prog_34_method_4_code 196 = .ok (.iconst 1, 1) := by decide +kernel
theorem own_d_prog_34_method_4_197 : decode prog_34_method_4_code 197 = .ok (.isub, 1) := by decide +kernel
theorem own_d_prog_34_method_4_198 : decode prog_34_method_4_code 198 = .ok (.ireturn, 1) := by decide +kernel
theorem own_d_prog_34_method_5_0 : decode prog_34_method_5_code 0 = .ok (.aload_n 0, 1) := by decide +kernel
theorem own_d_prog_34_method_5_1 : decode prog_34_method_5_code 1 = .ok (.getfield 13, 3) := by decide +kernel
theorem own_d_prog_34_method_5_4 : decode prog_34_method_5_code 4 = .ok (.iload_n 1, 1) := by decide +kernel
theorem own_d_prog_34_method_5_5 : decode prog_34_method_5_code 5 = .ok (.iaload, 1) := by decide +kernel
theorem own_d_prog_34_method_5_6 : decode prog_34_method_5_code 6 = .ok (.istore_n 3, 1) := by decide +kernel
theorem own_d_prog_34_method_5_7 : decode prog_34_method_5_code 7 = .ok (.aload_n 0, 1) := by decide +kernel
theorem own_d_prog_34_method_5_8 : decode prog_34_method_5_code 8 = .ok (.getfield 13, 3) := by decide +kernel
theorem own_d_prog_34_method_5_11 : decode prog_34_method_5_code 11 = .ok (.iload_n 1, 1) := by decide +kernel
theorem own_d_prog_34_method_5_12 : decode prog_34_method_5_code 12 = .ok (.iconst 1, 1) := by decide +kernel
theorem own_d_prog_34_method_5_13 : decode prog_34_method_5_code 13 = .ok (.iadd, 1) := by decide +kernel
theorem own_d_prog_34_method_5_14 : decode prog_34_method_5_code 14 = .ok (.iaload, 1) := by decide +kernel
theorem own_d_prog_34_method_5_15 : decode prog_34_method_5_code 15 = .ok (.iload_n 3, 1) := by decide +kernel
theorem own_d_prog_34_method_5_16 : decode prog_34_method_5_code 16 = .ok (.isub, 1) := by decide +kernel
theorem own_d_prog_34_method_5_17 : decode prog_34_method_5_code 17 = .ok (.istore 4, 2) := by decide +kernel
theorem own_d_prog_34_method_5_19 : decode prog_34_method_5_code 19 = .ok (.iconst 0, 1) := by decide +kernel
theorem own_d_prog_34_method_5_20 : decode prog_34_method_5_code 20 = .ok (.istore 5, 2) := by decide +kernel
theorem own_d_prog_34_method_5_22 : decode prog_34_method_5_code 22 = .ok (.iload 5, 2) := by decide +kernel
theorem own_d_prog_34_method_5_24 : decode prog_34_method_5_code 24 = .ok (.iload 4, 2) := by decide +kernel
theorem own_d_prog_34_method_5_26 : decode prog_34_method_5_code 26 = .ok (.if_icmp .ge 22, 3) := by decide +kernel
theorem own_d_prog_34_method_5_29 : decode prog_34_method_5_code 29 = .ok (.aload_n 2, 1) := by decide +kernel
theorem own_d_prog_34_method_5_30 : decode prog_34_method_5_code 30 = .ok (.iload 5, 2) := by decide +kernel
theorem own_d_prog_34_method_5_32 : decode prog_34_method_5_code 32 = .ok (.aload_n 0, 1) := by decide +kernel
theorem own_d_prog_34_method_5_33 : decode prog_34_method_5_code 33 = .ok (.getfield 9, 3) := by decide +kernel
theorem own_d_prog_34_method_5_36 : decode prog_34_method_5_code 36 = .ok (.iload_n 3, 1) := by decide +kernel
theorem own_d_prog_34_method_5_37 : decode prog_34_method_5_code 37 = .ok (.iload 5, 2) := by decide +kernel
theorem own_d_prog_34_method_5_39 : decode prog_34_method_5_code 39 = .ok (.iadd, 1) := by decide +kernel
theorem own_d_prog_34_method_5_40 : decode prog_34_method_5_code 40 = .ok (.laload, 1) := by decide +kernel
theorem own_d_prog_34_method_5_41 : decode prog_34_method_5_code 41 = .ok (.lastore, 1) := by decide +kernel
theorem own_d_prog_34_method_5_42 : decode prog_34_method_5_code 42 = .ok (.iinc 5 1, 3) := by decide +kernel
theorem own_d_prog_34_method_5_45 : decode prog_34_method_5_code 45 = .ok (.goto (-23), 3) := by decide +kernel
theorem own_d_prog_34_method_5_48 : decode prog_34_method_5_code 48 = .ok (.iload 4, 2) := by decide +kernel
theorem own_d_prog_34_method_5_50 : decode prog_34_method_5_code 50 = .ok (.ireturn, 1) := by decide +kernel
theorem own_d_prog_34_method_7_0 : decode prog_34_method_7_code 0 = .ok (.aload_n 0, 1) := by decide +kernel
theorem own_d_prog_34_method_7_1 : decode prog_34_method_7_code 1 = .ok (.getfield 13, 3) := by decide +kernel
theorem own_d_prog_34_method_7_4 : decode prog_34_method_7_code 4 = .ok (.iload_n 1, 1) := by decide +kernel
theorem own_d_prog_34_method_7_5 : decode prog_34_method_7_code 5 = .ok (.iaload, 1) := by decide +kernel
theorem own_d_prog_34_method_7_6 : decode prog_34_method_7_code 6 = .ok (.istore 5, 2) := by decide +kernel
theorem own_d_prog_34_method_7_8 : decode prog_34_method_7_code 8 = .ok (.aload_n 0, 1) := by decide +kernel
theorem own_d_prog_34_method_7_9 : decode prog_34_method_7_code 9 = .ok (.getfield 13, 3) := by decide +kernel
theorem own_d_prog_34_method_7_12 : decode prog_34_method_7_code 12 = .ok (.iload_n 1, 1) := by decide +kernel
theorem own_d_prog_34_method_7_13 : decode prog_34_method_7_code 13 = .ok (.iconst 1, 1) := by decide +kernel
theorem own_d_prog_34_method_7_14 : decode prog_34_method_7_code 14 = .ok (.iadd, 1) := by decide +kernel
theorem own_d_prog_34_method_7_15 : decode prog_34_method_7_code 15 = .ok (.iaload, 1) := by decide +kernel
theorem own_d_prog_34_method_7_16 : decode prog_34_method_7_code 16 = .ok (.iload 5, 2) := by decide +kernel
theorem own_d_prog_34_method_7_18 : decode prog_34_method_7_code 18 = .ok (.isub, 1) := by decide +kernel
theorem own_d_prog_34_method_7_19 : decode prog_34_method_7_code 19 = .ok (.iload 4, 2) := by decide +kernel
theorem own_d_prog_34_method_7_21 : decode prog_34_method_7_code 21 = .ok (.if_icmp .eq 5, 3) := by decide +kernel
theorem own_d_prog_34_method_7_24 : decode prog_34_method_7_code 24 = .ok (.iconst 0, 1) := by decide +kernel
theorem own_d_prog_34_method_7_25 : decode prog_34_method_7_code 25 = .ok (.ireturn, 1) := by decide +kernel
theorem own_d_prog_34_method_7_26 : decode prog_34_method_7_code 26 = .ok (.iconst 0, 1) := by decide +kernel
theorem own_d_prog_34_method_7_27 : decode prog_34_method_7_code 27 = .ok (.istore 6, 2) := by decide +kernel
theorem own_d_prog_34_method_7_29 : decode prog_34_method_7_code 29 = .ok (.iload 6, 2) := by decide +kernel
theorem own_d_prog_34_method_7_31 : decode prog_34_method_7_code 31 = .ok (.iload 4, 2) := by decide +kernel
theorem own_d_prog_34_method_7_33 : decode prog_34_method_7_code 33 = .ok (.if_icmp .ge 31, 3) := by decide +kernel
theorem own_d_prog_34_method_7_36 : decode prog_34_method_7_code 36 = .ok (.aload_n 0, 1) := by decide +kernel
theorem own_d_prog_34_method_7_37 : decode prog_34_method_7_code 37 = .ok (.getfield 9, 3) := by decide +kernel
theorem own_d_prog_34_method_7_40 : decode prog_34_method_7_code 40 = .ok (.iload 5, 2) := by decide +kernel
theorem own_d_prog_34_method_7_42 : decode prog_34_method_7_code 42 = .ok (.iload 6, 2) := by decide +kernel
theorem own_d_prog_34_method_7_44 : decode prog_34_method_7_code 44 = .ok (.iadd, 1) := by decide +kernel
theorem own_d_prog_34_method_7_45 : decode prog_34_method_7_code 45 = .ok (.laload, 1) := by decide +kernel
theorem own_d_prog_34_method_7_46 : decode prog_34_method_7_code 46 = .ok (.aload_n 2, 1) := by decide +kernel
theorem own_d_prog_34_method_7_47 : decode prog_34_method_7_code 47 = .ok (.iload_n 3, 1) := by decide +kernel
theorem own_d_prog_34_method_7_48 : decode prog_34_method_7_code 48 = .ok (.iload 6, 2) := by decide +kernel
theorem own_d_prog_34_method_7_50 : decode prog_34_method_7_code 50 = .ok (.iadd, 1) := by decide +kernel
theorem own_d_prog_34_method_7_51 : decode prog_34_method_7_code 51 = .ok (.laload, 1) := by decide +kernel
theorem own_d_prog_34_method_7_52 : decode prog_34_method_7_code 52 = .ok (.lcmp, 1) := by decide +kernel
theorem own_d_prog_34_method_7_53 : decode prog_34_method_7_code 53 = .ok (.ifCond .eq 5, 3) := by decide +kernel
theorem own_d_prog_34_method_7_56 : decode prog_34_method_7_code 56 = .ok (.iconst 0, 1) := by decide +kernel
theorem own_d_prog_34_method_7_57 : decode prog_34_method_7_code 57 = .ok (.ireturn, 1) := by decide +kernel
theorem own_d_prog_34_method_7_58 : decode prog_34_method_7_code 58 = .ok (.iinc 6 1, 3) := by decide +kernel
theorem own_d_prog_34_method_7_61 : decode prog_34_method_7_code 61 = .ok (.goto (-32), 3) := by decide +kernel
theorem own_d_prog_34_method_7_64 : decode prog_34_method_7_code 64 = .ok (.iconst 1, 1) := by decide +kernel
theorem own_d_prog_34_method_7_65 : decode prog_34_method_7_code 65 = .ok (.ireturn, 1) := by decide +kernel
theorem own_pn0 : plainName "java/lang/Integer" = true := by first | (simp [plainName, overriddenIn]; done) | decide +kernel
theorem own_pn1 : plainName "java/lang/Long" = true := by first | (simp [plainName, overriddenIn]; done) | decide +kernel
theorem own_pn2 : plainName "java/util/BitSet" = true := by first | (simp [plainName, overriddenIn]; done) | decide +kernel
theorem own_pn3 : plainName "java/util/Arrays" = true := by first | (simp [plainName, overriddenIn]; done) | decide +kernel
theorem own_pn4 : plainName "com/example/orbitfold/orbitfold/StateIndex" = true := by first | (simp [plainName, overriddenIn]; done) | decide +kernel
theorem own_pn5 : plainName "com/example/orbitfold/orbitfold/MarkovChain" = true := by first | (simp [plainName, overriddenIn]; done) | decide +kernel
theorem own_pn6 : plainName "com/example/orbitfold/orbitfold/StateIndexCopyPinLaw" = true := by first | (simp [plainName, overriddenIn]; done) | decide +kernel
theorem own_pd0 : parseMethodDescriptor "(I)I" = some ⟨[.int], some .int⟩ := by decide +kernel
theorem own_pd1 : parseMethodDescriptor "(I)V" = some ⟨[.int], none⟩ := by decide +kernel
theorem own_pd2 : parseMethodDescriptor "([II)V" = some ⟨[(.array .int), .int], none⟩ := by decide +kernel
theorem own_pd3 : parseMethodDescriptor "(I)[I" = some ⟨[.int], some (.array .int)⟩ := by decide +kernel
theorem own_pd4 : parseMethodDescriptor "()V" = some ⟨[], none⟩ := by decide +kernel
theorem own_pd5 : parseMethodDescriptor "(J)I" = some ⟨[.long], some .int⟩ := by decide +kernel
theorem own_pd6 : parseMethodDescriptor "(JJ)J" = some ⟨[.long, .long], some .long⟩ := by decide +kernel
theorem own_pd7 : parseMethodDescriptor "(II)I" = some ⟨[.int, .int], some .int⟩ := by decide +kernel
theorem own_pd8 : parseMethodDescriptor "([JI)[J" = some ⟨[(.array .long), .int], some (.array .long)⟩ := by decide +kernel
theorem own_pd9 : parseMethodDescriptor "([JII)I" = some ⟨[(.array .long), .int, .int], some .int⟩ := by decide +kernel
theorem own_pd10 : parseMethodDescriptor "([JII)J" = some ⟨[(.array .long), .int, .int], some .long⟩ := by decide +kernel
theorem own_pd11 : parseMethodDescriptor "(I[JII)Z" = some ⟨[.int, (.array .long), .int, .int], some .boolean⟩ := by decide +kernel
theorem own_pd12 : parseMethodDescriptor "(I[J)I" = some ⟨[.int, (.array .long)], some .int⟩ := by decide +kernel
theorem own_pd13 : parseMethodDescriptor "([JII[JIJ)Z" = some ⟨[(.array .long), .int, .int, (.array .long), .int, .long], some .boolean⟩ := by decide +kernel
section OwnKit4
variable {p : Program} {l : Launch} {e : Env} {R : Room} {s : State} {m : MethodId} {args : Array Value} {below : List Frame} {meth : Method} {c : Code} {T : State} {locs : List Loc} {cells slots : Nat} {Z : State} {a0 : Array Value} {h h' h0 : Heap} {a b : Addr} {sl : Nat} {v w : Value} {C n d : String}
theorem own_selp {y : MethodName} {k : Nat} (hZ : Z.Warmed39 s.vm) (wi : (Jvm.Cond.instantiable y.cls k).before a0 Z = true) (wp : (Jvm.Cond.privateMethod y).before a0 Z = true) (wm : (Jvm.Cond.instanceMethod y).before a0 Z = true) (hy : y.cls ≠ "java/lang/invoke/MethodHandle" ∧ y.cls ≠ "java/lang/invoke/VarHandle") :
    (Jvm.Cond.selects y.cls y y).before args s = true := by
  obtain ⟨c, kc, h1, h2, -, h4, -⟩ := Cond.instantiable_spec (mv (args := args) hZ wi)
  exact selects_self_of_private h1 h2 (by simp only [Bool.or_eq_false_iff] at h4; exact h4.1) (Cond.privateMethod_at (mvP hZ wp (args := #[]))) (mv hZ wm) hy
/-- n values of xs from sp on, laid into ks from dp on -/
def own_cp (ks xs : List Value) (sp dp : Nat) : Nat → List Value
  | 0 => ks
  | n + 1 => (own_cp ks xs sp dp n).set (dp + n) (xs.getD (sp + n) .null)
theorem own_pairs (c : Cell) (at_ : Nat) (L : List (Value × Nat)) (q : Value × Nat) : c.storePairs at_ (L ++ [q]) = (c.storePairs at_ L).setSlot (at_ + q.2) q.1 := by
  simp [Cell.storePairs, List.foldl_append]
theorem own_stretch (cs : Cell) (sp k : Nat) : (cs.stretch sp (k + 1)).zipIdx = (cs.stretch sp k).zipIdx ++ [(cs.slots.getD (sp + k) .null, k)] := by
  simp [Cell.stretch, List.range_succ, List.zipIdx_append]
theorem own_getD (A : Array Value) (i : Nat) : A.getD i .null = A.toList.getD i .null := by simp [List.getD, Array.getD_eq_getD_getElem?]
theorem own_cp_of (cs cd : Cell) (sp dp : Nat) : ∀ k, (cd.storePairs dp (cs.stretch sp k).zipIdx).slots.toList = own_cp cd.slots.toList cs.slots.toList sp dp k
  | 0 => by simp [Cell.stretch, Cell.storePairs, own_cp]
  | k + 1 => by
    rw [own_stretch, own_pairs]
    show ((cd.storePairs dp (cs.stretch sp k).zipIdx).slots.setIfInBounds (dp + k) _).toList = _
    rw [Array.toList_setIfInBounds, own_cp_of cs cd sp dp k, own_getD]
    rfl
theorem own_ac (X : Stand p l e R s m args below meth c T locs cells slots) (hx : p.tables.exec = Jvm.exec) (hZ : Z.Warmed39 s.vm) {own : String} {index : Nat} (hown : s.vm.findClass own = some m.cls)
    (w1 : (Jvm.Cond.methodLink own index acN).before a0 Z = true) (w2 : (Jvm.Cond.native acN).before a0 Z = true) (w3 : (Jvm.Cond.static acN).before a0 Z = true) (w4 : (Jvm.Cond.initialized "java/lang/System").before a0 Z = true)
    (eT : T.heap = h) {src dst : Addr} {k1 k2 : ClassId} {xs ys : List Value} (S : OwnLst Z h src .long k1 xs) (D : OwnLst Z h dst .long k2 ys) {sp dp n : Int32}
    (h1 : ¬ sp < 0) (h2 : ¬ dp < 0) (h3 : ¬ n < 0) (h4 : ¬ sp.toInt + n.toInt > xs.length) (h5 : ¬ dp.toInt + n.toInt > ys.length) (hl : ∀ i, i < n.toNatClampNeg → ∃ z, xs[sp.toNatClampNeg + i]? = some (.long z))
    {g : JFrame} (hg : g.method = m) (hsize : g.locals.size = c.maxLocals) {rest : List Value} (hstack : g.stack = .int n :: .int dp :: .ref dst :: .int sp :: .ref src :: rest) (hdg : decode c.code g.pc = .ok (.invokestatic index, 3))
    {W : Nat} (hW : 2 * g.monitorRoom + (rest.map fun v => v.category).sum ≤ W) (hfr : 1 ≤ R.frames) (hlo : W + 18 ≤ R.locals) :
    ∃ T' h', Stand p l e R s m args below meth c T' (locs ++ copyLocs dst dp.toNatClampNeg n.toNatClampNeg) cells slots ∧ T'.heap = h' ∧ Keep h h' [dst] ∧ OwnLst Z h' dst .long k2 (own_cp ys xs sp.toNatClampNeg dp.toNatClampNeg n.toNatClampNeg) ∧
      ∀ target, Steps p.tables e below (T'.setTop { g with pc := g.pc + 3, stack := rest }) target → Steps p.tables e below (T.setTop g) target := by
  obtain ⟨cs, As, q1, G1⟩ := S
  obtain ⟨cd, Ad, q2, G2⟩ := D
  obtain ⟨ob1, ks, hk1, c1, kd1⟩ := State.isArrayOf_alike (T := s) hZ.alike As.2.1
  obtain ⟨ob2, kd, hk2, c2, kd2⟩ := State.isArrayOf_alike (T := s) hZ.alike Ad.2.1
  have sz1 : cs.slots.size = xs.length := by rw [← G1]; simp
  have sz2 : cd.slots.size = ys.length := by rw [← G2]; simp
  obtain ⟨vm₁, -, X', st⟩ := X.arraycopyK hx hown (mv hZ w1) (mv hZ w2) (mv hZ w3) (mv hZ w4) (by rw [eT]; exact As.1) (by rw [eT]; exact Ad.1) ob1 ob2 As.2.2 Ad.2.2 hk1 hk2 kd1 kd2 (by decide) h1 h2 h3 (by rw [sz1]; exact h4) (by rw [sz2]; exact h5)
    (fun vmx hWx i hi => by
      obtain ⟨z, hzz⟩ := hl i hi
      have e : cs.slots.getD (sp.toNatClampNeg + i) .null = .long z := by
        rw [own_getD, G1, List.getD_eq_getElem?_getD, hzz]; rfl
      rw [e]; exact ⟨rfl, trivial⟩) hg hsize hstack hdg hfr (by
      have q : nativeFrameWords "java/lang/System" "arraycopy" 5 + 11 = 18 := by decide
      omega)
  subst eT
  obtain ⟨f1, f2, f3⟩ := SB.copied_facts cs cd sp dp n
  have hlt := (Array.getElem?_eq_some_iff.mp Ad.1).1
  have hN : (T.heap.setIfInBounds dst (copied cs cd sp dp n))[dst]? = some (copied cs cd sp dp n) := by simp [hlt]
  refine ⟨_, T.heap.setIfInBounds dst (copied cs cd sp dp n), X', rfl, ⟨by simp, fun x cx hx' hn => ?_, fun x cx hx' => ?_⟩, ⟨_, ⟨hN, ⟨fun k => by rw [f2]; exact Ad.2.1.1 k, ?_⟩, by rw [f2]; exact Ad.2.2⟩, f1.trans q2, ?_⟩, st⟩
  · rw [Array.getElem?_setIfInBounds_ne (fun r => hn (by simp [r]))]; exact hx'
  · by_cases r : dst = x
    · subst r
      cases Ad.1.symm.trans hx'
      exact ⟨_, hN, f1, f2, f3⟩
    · exact ⟨cx, by rw [Array.getElem?_setIfInBounds_ne r]; exact hx', rfl, rfl, rfl⟩
  · rw [f1]; exact Ad.2.1.2
  · rw [← G2, ← G1]; exact own_cp_of cs cd sp.toNatClampNeg dp.toNatClampNeg n.toNatClampNeg
theorem own_fr_copy {k : Nat} {L : List Loc} {dst dp n : Nat} (N : Fr k L) (q : k ≤ dst) : Fr k (L ++ copyLocs dst dp n) := N.app fun y hy => by rw [copyLocs_base hy]; exact q
theorem own_arg6 {args : Array Value} (h1 : (Jvm.Cond.count 6).value args s none s [] = some true) : ∃ w0 w1 w2 w3 w4 w5 : Value, args = #[w0, w1, w2, w3, w4, w5] := by
  have hs : args.size = 6 := by simpa [Cond.value] using h1
  obtain ⟨L⟩ := args
  match L, hs with
  | [w0, w1, w2, w3, w4, w5], _ => exact ⟨w0, w1, w2, w3, w4, w5, rfl⟩
end OwnKit4
def OwnIdx (Z : State) (h : Heap) (I kA sA tA bs wA : Addr) (ck cs ct cw : ClassId) (ks ss ts : List Value) (sz sea wiu : Int32) (ww : Int64) : Prop :=
  Exa Z h I "com/example/orbitfold/orbitfold/StateIndex" ∧ Fld Z h I "com/example/orbitfold/orbitfold/StateIndex" "keys" "[J" (.ref kA) ∧ Fld Z h I "com/example/orbitfold/orbitfold/StateIndex" "starts" "[I" (.ref sA) ∧ Fld Z h I "com/example/orbitfold/orbitfold/StateIndex" "slots" "[I" (.ref tA) ∧ Fld Z h I "com/example/orbitfold/orbitfold/StateIndex" "appended" "Ljava/util/BitSet;" (.ref bs) ∧ Fld Z h I "com/example/orbitfold/orbitfold/StateIndex" "size" "I" (.int sz) ∧ Fld Z h I "com/example/orbitfold/orbitfold/StateIndex" "searchable" "I" (.int sea) ∧ Exa Z h bs "java/util/BitSet" ∧ Fld Z h bs "java/util/BitSet" "wordsInUse" "I" (.int wiu) ∧ Fld Z h bs "java/util/BitSet" "sizeIsSticky" "Z" (.int (0 : Int32)) ∧ Fld Z h bs "java/util/BitSet" "words" "[J" (.ref wA) ∧ OwnLst Z h kA .long ck ks ∧ OwnLst Z h sA .int cs ss ∧ OwnLst Z h tA .int ct ts ∧ OwnLst Z h wA .long cw [.long ww]
def OwnNe (I kA sA tA bs wA : Addr) : Prop := I ≠ kA ∧ I ≠ sA ∧ I ≠ tA ∧ I ≠ bs ∧ I ≠ wA ∧ kA ≠ sA ∧ kA ≠ tA ∧ kA ≠ bs ∧ kA ≠ wA ∧ sA ≠ tA ∧ sA ≠ bs ∧ sA ≠ wA ∧ tA ≠ bs ∧ tA ≠ wA ∧ bs ≠ wA
def OwnGe (n0 : Nat) (I kA sA tA bs wA : Addr) : Prop := n0 ≤ I ∧ n0 ≤ kA ∧ n0 ≤ sA ∧ n0 ≤ tA ∧ n0 ≤ bs ∧ n0 ≤ wA
def OwnNs (x I kA sA tA bs wA : Addr) : Prop := x ≠ I ∧ x ≠ kA ∧ x ≠ sA ∧ x ≠ tA ∧ x ≠ bs ∧ x ≠ wA
theorem own_slot (hv : Int64) : 0 ≤ (((hv.toUInt64 >>> ((53 : Int32) &&& 0x3f).toInt64.toUInt64).toInt64).toInt32).toInt ∧ (((hv.toUInt64 >>> ((53 : Int32) &&& 0x3f).toInt64.toUInt64).toInt64).toInt32).toInt < 2048 := by
  have q := c_lushr hv (53 : Int32) 53 (by decide) (by decide)
  generalize (hv.toUInt64 >>> ((53 : Int32) &&& 0x3f).toInt64.toUInt64).toInt64 = y at q ⊢
  have q1 := c_l2i y
  have q2 := rng32 y.toInt32
  have q3 : 0 ≤ hv.toInt % 18446744073709551616 := Int.emod_nonneg _ (by decide)
  have q4 : hv.toInt % 18446744073709551616 < 18446744073709551616 := Int.emod_lt_of_pos _ (by decide)
  have q5 : ((2 ^ 53 : Nat) : Int) = 9007199254740992 := by decide
  rw [q5] at q
  omega
theorem own_nd1 {nd : Int32} (hnd : nd = (1024 : Int32) ∨ nd = (2048 : Int32) ∨ nd = (3072 : Int32)) : ¬ (nd < (0 : Int32)) := by rcases hnd with rfl | rfl | rfl <;> decide
theorem own_nd2 {nd : Int32} (hnd : nd = (1024 : Int32) ∨ nd = (2048 : Int32) ∨ nd = (3072 : Int32)) : ¬ ((2147483639 : Int32) < nd) := by rcases hnd with rfl | rfl | rfl <;> decide
theorem own_nd3 {nd : Int32} (hnd : nd = (1024 : Int32) ∨ nd = (2048 : Int32) ∨ nd = (3072 : Int32)) : ¬ (lcmpW nd.toInt64 ((0 : Int32).toInt64 + ((0 : Int32) >>> ((1 : Int32) &&& 31)).toInt64) < (0 : Int32)) := by rcases hnd with rfl | rfl | rfl <;> decide
theorem own_nd4 {nd : Int32} (hnd : nd = (1024 : Int32) ∨ nd = (2048 : Int32) ∨ nd = (3072 : Int32)) : (0 : Int32) < lcmpW (2147483639 : Int64) nd.toInt64 := by rcases hnd with rfl | rfl | rfl <;> decide
theorem own_nd5 {nd : Int32} (hnd : nd = (1024 : Int32) ∨ nd = (2048 : Int32) ∨ nd = (3072 : Int32)) : nd.toInt64.toInt32 = nd := by rcases hnd with rfl | rfl | rfl <;> decide
theorem own_nd6 {nd : Int32} (hnd : nd = (1024 : Int32) ∨ nd = (2048 : Int32) ∨ nd = (3072 : Int32)) : ¬ (nd = (0 : Int32)) := by rcases hnd with rfl | rfl | rfl <;> decide
theorem own_nd7 {nd : Int32} (hnd : nd = (1024 : Int32) ∨ nd = (2048 : Int32) ∨ nd = (3072 : Int32)) : nd.toNatClampNeg ≤ 3072 := by rcases hnd with rfl | rfl | rfl <;> decide
theorem own_nd8 {nd : Int32} (hnd : nd = (1024 : Int32) ∨ nd = (2048 : Int32) ∨ nd = (3072 : Int32)) : nd.toNatClampNeg = 1024 ∨ nd.toNatClampNeg = 2048 ∨ nd.toNatClampNeg = 3072 := by rcases hnd with rfl | rfl | rfl <;> decide
theorem own_k1a {l0 nd : Int32} (hln : (l0 = (1 : Int32) ∧ nd = (1024 : Int32)) ∨ (l0 = (2 : Int32) ∧ nd = (2048 : Int32)) ∨ (l0 = (3 : Int32) ∧ nd = (3072 : Int32))) : (0 : Int32) < lcmpW (((0 : Int32).toInt64) + (l0.toInt64)) ((0 : Int32).toInt64) := by rcases hln with ⟨rfl, rfl⟩ | ⟨rfl, rfl⟩ | ⟨rfl, rfl⟩ <;> decide
theorem own_k1b {l0 nd : Int32} (hln : (l0 = (1 : Int32) ∧ nd = (1024 : Int32)) ∨ (l0 = (2 : Int32) ∧ nd = (2048 : Int32)) ∨ (l0 = (3 : Int32) ∧ nd = (3072 : Int32))) : ¬ ((0 : Int32) < lcmpW (((0 : Int32).toInt64) + (l0.toInt64)) (2147483647 : Int64)) := by rcases hln with ⟨rfl, rfl⟩ | ⟨rfl, rfl⟩ | ⟨rfl, rfl⟩ <;> decide
theorem own_k1c {l0 nd : Int32} (hln : (l0 = (1 : Int32) ∧ nd = (1024 : Int32)) ∨ (l0 = (2 : Int32) ∧ nd = (2048 : Int32)) ∨ (l0 = (3 : Int32) ∧ nd = (3072 : Int32))) : ¬ ((0 : Int32) < lcmpW ((1024 : Int64) * (l0.toInt64)) (2147483639 : Int64)) := by rcases hln with ⟨rfl, rfl⟩ | ⟨rfl, rfl⟩ | ⟨rfl, rfl⟩ <;> decide
theorem own_k1d {l0 nd : Int32} (hln : (l0 = (1 : Int32) ∧ nd = (1024 : Int32)) ∨ (l0 = (2 : Int32) ∧ nd = (2048 : Int32)) ∨ (l0 = (3 : Int32) ∧ nd = (3072 : Int32))) : lcmpW (((0 : Int32).toInt64) + (l0.toInt64)) ((1024 : Int64) * (l0.toInt64)) < (0 : Int32) := by rcases hln with ⟨rfl, rfl⟩ | ⟨rfl, rfl⟩ | ⟨rfl, rfl⟩ <;> decide
theorem own_k1e {l0 nd : Int32} (hln : (l0 = (1 : Int32) ∧ nd = (1024 : Int32)) ∨ (l0 = (2 : Int32) ∧ nd = (2048 : Int32)) ∨ (l0 = (3 : Int32) ∧ nd = (3072 : Int32))) : (((1024 : Int64) * (l0.toInt64)).toInt32) = nd := by rcases hln with ⟨rfl, rfl⟩ | ⟨rfl, rfl⟩ | ⟨rfl, rfl⟩ <;> decide
theorem own_k1f {l0 nd : Int32} (hln : (l0 = (1 : Int32) ∧ nd = (1024 : Int32)) ∨ (l0 = (2 : Int32) ∧ nd = (2048 : Int32)) ∨ (l0 = (3 : Int32) ∧ nd = (3072 : Int32))) : ¬ ((0 : Int32).toInt + l0.toInt > ((4 : Nat) : Int)) := by rcases hln with ⟨rfl, rfl⟩ | ⟨rfl, rfl⟩ | ⟨rfl, rfl⟩ <;> decide
theorem own_k1g {l0 nd : Int32} (hln : (l0 = (1 : Int32) ∧ nd = (1024 : Int32)) ∨ (l0 = (2 : Int32) ∧ nd = (2048 : Int32)) ∨ (l0 = (3 : Int32) ∧ nd = (3072 : Int32))) : ¬ ((0 : Int32).toInt + l0.toInt > ((nd.toNatClampNeg : Nat) : Int)) := by rcases hln with ⟨rfl, rfl⟩ | ⟨rfl, rfl⟩ | ⟨rfl, rfl⟩ <;> decide
theorem own_k1h {l0 nd : Int32} (hln : (l0 = (1 : Int32) ∧ nd = (1024 : Int32)) ∨ (l0 = (2 : Int32) ∧ nd = (2048 : Int32)) ∨ (l0 = (3 : Int32) ∧ nd = (3072 : Int32))) : (0 : Int32).toNatClampNeg + l0.toNatClampNeg ≤ 4 := by rcases hln with ⟨rfl, rfl⟩ | ⟨rfl, rfl⟩ | ⟨rfl, rfl⟩ <;> decide
theorem own_k1i {l0 nd : Int32} (hln : (l0 = (1 : Int32) ∧ nd = (1024 : Int32)) ∨ (l0 = (2 : Int32) ∧ nd = (2048 : Int32)) ∨ (l0 = (3 : Int32) ∧ nd = (3072 : Int32))) : ((((0 : Int32).toInt64) + (l0.toInt64)).toInt32) = l0 := by rcases hln with ⟨rfl, rfl⟩ | ⟨rfl, rfl⟩ | ⟨rfl, rfl⟩ <;> decide
theorem own_k1j {l0 nd : Int32} (hln : (l0 = (1 : Int32) ∧ nd = (1024 : Int32)) ∨ (l0 = (2 : Int32) ∧ nd = (2048 : Int32)) ∨ (l0 = (3 : Int32) ∧ nd = (3072 : Int32))) : ¬ (l0 < 0) := by rcases hln with ⟨rfl, rfl⟩ | ⟨rfl, rfl⟩ | ⟨rfl, rfl⟩ <;> decide
theorem own_hnd {l0 nd : Int32} (hln : (l0 = (1 : Int32) ∧ nd = (1024 : Int32)) ∨ (l0 = (2 : Int32) ∧ nd = (2048 : Int32)) ∨ (l0 = (3 : Int32) ∧ nd = (3072 : Int32))) : nd = (1024 : Int32) ∨ nd = (2048 : Int32) ∨ nd = (3072 : Int32) := by 
  rcases hln with ⟨-, q⟩ | ⟨-, q⟩ | ⟨-, q⟩
  · exact Or.inl q
  · exact Or.inr (Or.inl q)
  · exact Or.inr (Or.inr q)
theorem own_rep {k i : Nat} {z : Value} (q : i < k) : (List.replicate k z)[i]? = some z := by rw [List.getElem?_replicate, if_pos q]
theorem own_xl (x0 x1 x2 x3 : Int64) : ∀ i, i < 4 → ∃ z, ([.long x0, .long x1, .long x2, .long x3] : List Value)[i]? = some (.long z)
  | 0, _ => ⟨_, rfl⟩
  | 1, _ => ⟨_, rfl⟩
  | 2, _ => ⟨_, rfl⟩
  | 3, _ => ⟨_, rfl⟩
  | k + 4, q => absurd q (by omega)
def own_x (x0 x1 x2 x3 : Int64) (i : Int32) : Int64 := if i = (0 : Int32) then x0 else if i = (1 : Int32) then x1 else if i = (2 : Int32) then x2 else x3
def OwnBase (ks ss : List Value) (l0 nd : Int32) (x0 x1 x2 : Int64) : Prop := ks.length = nd.toNatClampNeg ∧ ss.length = 1024 ∧ ss[0]? = some (.int (0 : Int32)) ∧ ss[1]? = some (.int l0) ∧ ks[0]? = some (.long x0) ∧ (l0 ≠ (1 : Int32) → ks[1]? = some (.long x1)) ∧ (l0 = (3 : Int32) → ks[2]? = some (.long x2))
def OwnHas (ks ss : List Value) (off len : Int32) (x0 x1 x2 x3 : Int64) (n1 st1 : Int32) : Prop := (n1 = (0 : Int32) ∨ n1 = (1 : Int32)) ∧ (st1 = (0 : Int32) ∨ st1 = (1 : Int32) ∨ st1 = (2 : Int32) ∨ st1 = (3 : Int32)) ∧ ss[n1.toNatClampNeg]? = some (.int st1) ∧ ss[(n1 + (1 : Int32)).toNatClampNeg]? = some (.int (st1 + len)) ∧ ks[st1.toNatClampNeg]? = some (.long (own_x x0 x1 x2 x3 off)) ∧ (len = (2 : Int32) → ks[(st1 + (1 : Int32)).toNatClampNeg]? = some (.long (own_x x0 x1 x2 x3 (off + (1 : Int32)))))
def OwnTs (ts : List Value) : Prop := ts = (List.replicate 2048 (.int (-1 : Int32))) ∨ ∃ s0 t0 : Int32, 0 ≤ s0.toInt ∧ s0.toInt < 2048 ∧ (t0 = 0 ∨ t0 = 1 ∨ t0 = 2 ∨ t0 = 3) ∧ ts = List.set (List.replicate 2048 (.int (-1 : Int32))) s0.toNatClampNeg (.int ((0 : Int32) ||| (t0 <<< ((29 : Int32) &&& 31))))
theorem OwnTs.len {ts : List Value} (q : OwnTs ts) : ts.length = 2048 := by
  rcases q with rfl | ⟨s0, t0, -, -, -, rfl⟩
  · rw [List.length_replicate]
  · rw [List.length_set, List.length_replicate]
theorem own_base1 {l0 nd : Int32} (hln : (l0 = (1 : Int32) ∧ nd = (1024 : Int32)) ∨ (l0 = (2 : Int32) ∧ nd = (2048 : Int32)) ∨ (l0 = (3 : Int32) ∧ nd = (3072 : Int32))) (x0 x1 x2 x3 : Int64) : OwnBase (own_cp (List.replicate nd.toNatClampNeg (.long (0 : Int64))) [.long x0, .long x1, .long x2, .long x3] (0 : Int32).toNatClampNeg (0 : Int32).toNatClampNeg l0.toNatClampNeg) (List.set (List.replicate 1024 (.int (0 : Int32))) ((0 : Int32) + (1 : Int32)).toNatClampNeg (.int l0)) l0 nd x0 x1 x2 := by
  have e0 : (0 : Int32).toNatClampNeg = 0 := by decide
  have e1 : ((0 : Int32) + (1 : Int32)).toNatClampNeg = 1 := by decide
  have e2 : (1 : Int32).toNatClampNeg = 1 := by decide
  have e3 : (2 : Int32).toNatClampNeg = 2 := by decide
  have e4 : (3 : Int32).toNatClampNeg = 3 := by decide
  have e5 : (1024 : Int32).toNatClampNeg = 1024 := by decide
  have e6 : (2048 : Int32).toNatClampNeg = 2048 := by decide
  have e7 : (3072 : Int32).toNatClampNeg = 3072 := by decide
  rcases hln with ⟨rfl, rfl⟩ | ⟨rfl, rfl⟩ | ⟨rfl, rfl⟩
  · rw [e0, e1, e2, e5]
    refine ⟨?_, ?_, ?_, ?_, ?_, ?_, ?_⟩
    · rw [e5]; simp only [own_cp, List.length_set, List.length_replicate]
    · simp only [List.length_set, List.length_replicate]
    · rw [List.getElem?_set_ne (by decide)]; exact own_rep (by decide)
    · rw [List.getElem?_set_self (by rw [List.length_replicate]; decide)]
    · simp only [own_cp]; rw [List.getElem?_set_self (by rw [List.length_replicate]; decide)]; rfl
    · intro q; exact absurd rfl q
    · intro q; exact absurd q (by decide)
  · rw [e0, e1, e3, e6]
    refine ⟨?_, ?_, ?_, ?_, ?_, ?_, ?_⟩
    · rw [e6]; simp only [own_cp, List.length_set, List.length_replicate]
    · simp only [List.length_set, List.length_replicate]
    · rw [List.getElem?_set_ne (by decide)]; exact own_rep (by decide)
    · rw [List.getElem?_set_self (by rw [List.length_replicate]; decide)]
    · simp only [own_cp]; rw [List.getElem?_set_ne (by decide), List.getElem?_set_self (by rw [List.length_replicate]; decide)]; rfl
    · intro q; simp only [own_cp]; rw [List.getElem?_set_self (by rw [List.length_set, List.length_replicate]; decide)]; rfl
    · intro q; exact absurd q (by decide)
  · rw [e0, e1, e4, e7]
    refine ⟨?_, ?_, ?_, ?_, ?_, ?_, ?_⟩
    · rw [e7]; simp only [own_cp, List.length_set, List.length_replicate]
    · simp only [List.length_set, List.length_replicate]
    · rw [List.getElem?_set_ne (by decide)]; exact own_rep (by decide)
    · rw [List.getElem?_set_self (by rw [List.length_replicate]; decide)]
    · simp only [own_cp]; rw [List.getElem?_set_ne (by decide), List.getElem?_set_ne (by decide), List.getElem?_set_self (by rw [List.length_replicate]; decide)]; rfl
    · intro q; simp only [own_cp]; rw [List.getElem?_set_ne (by decide), List.getElem?_set_self (by rw [List.length_set, List.length_replicate]; decide)]; rfl
    · intro q; simp only [own_cp]; rw [List.getElem?_set_self (by rw [List.length_set, List.length_set, List.length_replicate]; decide)]; rfl
theorem own_k2a {l0 nd off len : Int32} (hln : (l0 = (1 : Int32) ∧ nd = (1024 : Int32)) ∨ (l0 = (2 : Int32) ∧ nd = (2048 : Int32)) ∨ (l0 = (3 : Int32) ∧ nd = (3072 : Int32))) (hol : (off = (0 : Int32) ∧ len = (1 : Int32)) ∨ (off = (0 : Int32) ∧ len = (2 : Int32)) ∨ (off = (1 : Int32) ∧ len = (1 : Int32)) ∨ (off = (1 : Int32) ∧ len = (2 : Int32))) : ¬ ((0 : Int32) < lcmpW ((l0.toInt64) + (len.toInt64)) (nd.toInt64)) := by rcases hln with ⟨rfl, rfl⟩ | ⟨rfl, rfl⟩ | ⟨rfl, rfl⟩ <;> rcases hol with ⟨rfl, rfl⟩ | ⟨rfl, rfl⟩ | ⟨rfl, rfl⟩ | ⟨rfl, rfl⟩ <;> decide
theorem own_k2b {l0 nd off len : Int32} (hln : (l0 = (1 : Int32) ∧ nd = (1024 : Int32)) ∨ (l0 = (2 : Int32) ∧ nd = (2048 : Int32)) ∨ (l0 = (3 : Int32) ∧ nd = (3072 : Int32))) (hol : (off = (0 : Int32) ∧ len = (1 : Int32)) ∨ (off = (0 : Int32) ∧ len = (2 : Int32)) ∨ (off = (1 : Int32) ∧ len = (1 : Int32)) ∨ (off = (1 : Int32) ∧ len = (2 : Int32))) : ¬ (off < 0) ∧ ¬ (l0 < 0) ∧ ¬ (len < 0) := by rcases hln with ⟨rfl, rfl⟩ | ⟨rfl, rfl⟩ | ⟨rfl, rfl⟩ <;> rcases hol with ⟨rfl, rfl⟩ | ⟨rfl, rfl⟩ | ⟨rfl, rfl⟩ | ⟨rfl, rfl⟩ <;> decide
theorem own_k2c {l0 nd off len : Int32} (hln : (l0 = (1 : Int32) ∧ nd = (1024 : Int32)) ∨ (l0 = (2 : Int32) ∧ nd = (2048 : Int32)) ∨ (l0 = (3 : Int32) ∧ nd = (3072 : Int32))) (hol : (off = (0 : Int32) ∧ len = (1 : Int32)) ∨ (off = (0 : Int32) ∧ len = (2 : Int32)) ∨ (off = (1 : Int32) ∧ len = (1 : Int32)) ∨ (off = (1 : Int32) ∧ len = (2 : Int32))) : ¬ (off.toInt + len.toInt > ((4 : Nat) : Int)) ∧ ¬ (l0.toInt + len.toInt > ((nd.toNatClampNeg : Nat) : Int)) := by rcases hln with ⟨rfl, rfl⟩ | ⟨rfl, rfl⟩ | ⟨rfl, rfl⟩ <;> rcases hol with ⟨rfl, rfl⟩ | ⟨rfl, rfl⟩ | ⟨rfl, rfl⟩ | ⟨rfl, rfl⟩ <;> decide
theorem own_k2d {l0 nd off len : Int32} (hln : (l0 = (1 : Int32) ∧ nd = (1024 : Int32)) ∨ (l0 = (2 : Int32) ∧ nd = (2048 : Int32)) ∨ (l0 = (3 : Int32) ∧ nd = (3072 : Int32))) (hol : (off = (0 : Int32) ∧ len = (1 : Int32)) ∨ (off = (0 : Int32) ∧ len = (2 : Int32)) ∨ (off = (1 : Int32) ∧ len = (1 : Int32)) ∨ (off = (1 : Int32) ∧ len = (2 : Int32))) : off.toNatClampNeg + len.toNatClampNeg ≤ 4 := by rcases hln with ⟨rfl, rfl⟩ | ⟨rfl, rfl⟩ | ⟨rfl, rfl⟩ <;> rcases hol with ⟨rfl, rfl⟩ | ⟨rfl, rfl⟩ | ⟨rfl, rfl⟩ | ⟨rfl, rfl⟩ <;> decide
theorem own_k2e {l0 nd off len : Int32} (hln : (l0 = (1 : Int32) ∧ nd = (1024 : Int32)) ∨ (l0 = (2 : Int32) ∧ nd = (2048 : Int32)) ∨ (l0 = (3 : Int32) ∧ nd = (3072 : Int32))) (hol : (off = (0 : Int32) ∧ len = (1 : Int32)) ∨ (off = (0 : Int32) ∧ len = (2 : Int32)) ∨ (off = (1 : Int32) ∧ len = (1 : Int32)) ∨ (off = (1 : Int32) ∧ len = (2 : Int32))) : (((l0.toInt64) + (len.toInt64)).toInt32) = (l0 + len) := by rcases hln with ⟨rfl, rfl⟩ | ⟨rfl, rfl⟩ | ⟨rfl, rfl⟩ <;> rcases hol with ⟨rfl, rfl⟩ | ⟨rfl, rfl⟩ | ⟨rfl, rfl⟩ | ⟨rfl, rfl⟩ <;> decide
theorem own_has2 {ks ss : List Value} {l0 nd off len : Int32} (hln : (l0 = (1 : Int32) ∧ nd = (1024 : Int32)) ∨ (l0 = (2 : Int32) ∧ nd = (2048 : Int32)) ∨ (l0 = (3 : Int32) ∧ nd = (3072 : Int32))) (hol : (off = (0 : Int32) ∧ len = (1 : Int32)) ∨ (off = (0 : Int32) ∧ len = (2 : Int32)) ∨ (off = (1 : Int32) ∧ len = (1 : Int32)) ∨ (off = (1 : Int32) ∧ len = (2 : Int32))) (x0 x1 x2 x3 : Int64) (BA : OwnBase ks ss l0 nd x0 x1 x2) : OwnBase (own_cp ks [.long x0, .long x1, .long x2, .long x3] off.toNatClampNeg l0.toNatClampNeg len.toNatClampNeg) (List.set ss ((1 : Int32) + (1 : Int32)).toNatClampNeg (.int (l0 + len))) l0 nd x0 x1 x2 ∧ OwnHas (own_cp ks [.long x0, .long x1, .long x2, .long x3] off.toNatClampNeg l0.toNatClampNeg len.toNatClampNeg) (List.set ss ((1 : Int32) + (1 : Int32)).toNatClampNeg (.int (l0 + len))) off len x0 x1 x2 x3 (1 : Int32) l0 := by
  obtain ⟨b1, b2, b3, b4, b5, b6, b7⟩ := BA
  have e0 : (0 : Int32).toNatClampNeg = 0 := by decide
  have e1 : (1 : Int32).toNatClampNeg = 1 := by decide
  have e2 : (2 : Int32).toNatClampNeg = 2 := by decide
  have e3 : (3 : Int32).toNatClampNeg = 3 := by decide
  have f1 : ((1 : Int32) + (1 : Int32)).toNatClampNeg = 2 := by decide
  have f2 : ((2 : Int32) + (1 : Int32)).toNatClampNeg = 3 := by decide
  have f3 : ((3 : Int32) + (1 : Int32)).toNatClampNeg = 4 := by decide
  have nb : 1024 ≤ nd.toNatClampNeg := by rcases own_nd8 (own_hnd hln) with q | q | q <;> omega
  rw [f1]
  have sA2 : (List.set ss 2 (.int (l0 + len)))[2]? = some (.int (l0 + len)) := List.getElem?_set_self (by omega)
  have sA1 : (List.set ss 2 (.int (l0 + len)))[1]? = some (.int l0) := by rw [List.getElem?_set_ne (by decide)]; exact b4
  have sA0 : (List.set ss 2 (.int (l0 + len)))[0]? = some (.int (0 : Int32)) := by rw [List.getElem?_set_ne (by decide)]; exact b3
  have cl0 : l0.toNatClampNeg = 1 ∨ l0.toNatClampNeg = 2 ∨ l0.toNatClampNeg = 3 := by rcases hln with ⟨rfl, -⟩ | ⟨rfl, -⟩ | ⟨rfl, -⟩ <;> decide
  have cl1 : (l0 + (1 : Int32)).toNatClampNeg = l0.toNatClampNeg + 1 := by rcases hln with ⟨rfl, -⟩ | ⟨rfl, -⟩ | ⟨rfl, -⟩ <;> decide
  have c1 : l0 = (3 : Int32) → l0.toNatClampNeg = 3 := by intro q; rw [q]; exact e3
  have c2 : l0 ≠ (1 : Int32) → 2 ≤ l0.toNatClampNeg := by rcases hln with ⟨rfl, -⟩ | ⟨rfl, -⟩ | ⟨rfl, -⟩ <;> decide
  have key : ∀ (len' off' : Nat), (∀ j, j < l0.toNatClampNeg → (own_cp ks [.long x0, .long x1, .long x2, .long x3] off' l0.toNatClampNeg len')[j]? = ks[j]?) := by
    intro len' off' j hj
    induction len' with
    | zero => rfl
    | succ k ih => simp only [own_cp]; rw [List.getElem?_set_ne (by omega)]; exact ih
  have lenk : ∀ (len' off' : Nat), (own_cp ks [.long x0, .long x1, .long x2, .long x3] off' l0.toNatClampNeg len').length = ks.length := by
    intro len' off'
    induction len' with
    | zero => rfl
    | succ k ih => simp only [own_cp]; rw [List.length_set]; exact ih
  have key' := fun j hj => key len.toNatClampNeg off.toNatClampNeg j hj
  refine ⟨⟨?_, ?_, sA0, sA1, ?_, ?_, ?_⟩, Or.inr rfl, ?_, ?_, ?_, ?_, ?_⟩
  · rw [lenk]; exact b1
  · rw [List.length_set]; exact b2
  · rw [key' 0 (by omega)]; exact b5
  · intro q; rw [key' 1 (by have := c2 q; omega)]; exact b6 q
  · intro q; rw [key' 2 (by have := c1 q; omega)]; exact b7 q
  · rcases hln with ⟨q, -⟩ | ⟨q, -⟩ | ⟨q, -⟩
    · exact Or.inr (Or.inl q)
    · exact Or.inr (Or.inr (Or.inl q))
    · exact Or.inr (Or.inr (Or.inr q))
  · rw [e1]; exact sA1
  · rw [f1]; exact sA2
  · rcases hol with ⟨rfl, rfl⟩ | ⟨rfl, rfl⟩ | ⟨rfl, rfl⟩ | ⟨rfl, rfl⟩
    · rw [e0, e1]; simp only [own_cp]; rw [Nat.add_zero, List.getElem?_set_self (by omega)]; rfl
    · rw [e0, e2]; simp only [own_cp]; rw [Nat.add_zero, List.getElem?_set_ne (by omega), List.getElem?_set_self (by omega)]; rfl
    · rw [e1]; simp only [own_cp]; rw [Nat.add_zero, List.getElem?_set_self (by omega)]; rfl
    · rw [e1, e2]; simp only [own_cp]; rw [Nat.add_zero, List.getElem?_set_ne (by omega), List.getElem?_set_self (by omega)]; rfl
  · intro q
    rw [cl1]
    rcases hol with ⟨rfl, rfl⟩ | ⟨rfl, rfl⟩ | ⟨rfl, rfl⟩ | ⟨rfl, rfl⟩
    · exact absurd q (by decide)
    · rw [e0, e2]; simp only [own_cp]; rw [List.getElem?_set_self (by rw [List.length_set]; omega)]; rfl
    · exact absurd q (by decide)
    · rw [e1, e2]; simp only [own_cp]; rw [List.getElem?_set_self (by rw [List.length_set]; omega)]; rfl
theorem own_sub0 (z : Int32) : z - (0 : Int32) = z := by
  apply Int32.toInt_inj.mp
  have q1 := c_isub z (0 : Int32)
  have q2 := rng32 z
  have q3 := rng32 (z - (0 : Int32))
  have q4 : (0 : Int32).toInt = 0 := by decide
  omega
theorem own_nb1 {l0 nd : Int32} (hln : (l0 = (1 : Int32) ∧ nd = (1024 : Int32)) ∨ (l0 = (2 : Int32) ∧ nd = (2048 : Int32)) ∨ (l0 = (3 : Int32) ∧ nd = (3072 : Int32))) {i : Nat} (q : i < 1024) : i < nd.toNatClampNeg := by rcases own_nd8 (own_hnd hln) with r | r | r <;> omega
theorem own_nin {j : Int32} {i N : Nat} (h0 : ¬ j < 0) (h1 : j.toNatClampNeg = i) (h2 : i < N) : ¬ (j < 0 ∨ N ≤ j.toNatClampNeg) := fun q => q.elim h0 (fun r => by omega)
theorem own_svin {sv : Int32} (h1 : 0 ≤ sv.toInt) (h2 : sv.toInt < 2048) : ¬ (sv < 0 ∨ 2048 ≤ sv.toNatClampNeg) := by
  have q : sv.toNatClampNeg = sv.toInt.toNat := rfl
  rw [Int32.lt_iff_toInt_lt, Int32.toInt_zero, q]
  omega
theorem own_next {sv : Int32} (h1 : 0 ≤ sv.toInt) (h2 : sv.toInt < 2048) : 0 ≤ ((sv + (1 : Int32)) &&& ((2048 : Int32) - (1 : Int32))).toInt ∧ ((sv + (1 : Int32)) &&& ((2048 : Int32) - (1 : Int32))).toInt < 2048 ∧ ((sv + (1 : Int32)) &&& ((2048 : Int32) - (1 : Int32))).toInt ≠ sv.toInt := by
  have q := c_mask (sv + (1 : Int32)) ((2048 : Int32) - (1 : Int32)) 11 (by decide) (by decide)
  have q1 := c_iadd sv (1 : Int32)
  have q2 := rng32 (sv + (1 : Int32))
  have q3 : (1 : Int32).toInt = 1 := by decide
  have q4 : ((2 ^ 11 : Nat) : Int) = 2048 := by decide
  rw [q4] at q
  omega
theorem own_probe {ts : List Value} (hT : OwnTs ts) {sv : Int32} (h1 : 0 ≤ sv.toInt) (h2 : sv.toInt < 2048) : ts[sv.toNatClampNeg]? = some (.int (-1 : Int32)) ∨ ∃ t0 : Int32, (t0 = 0 ∨ t0 = 1 ∨ t0 = 2 ∨ t0 = 3) ∧ ts[sv.toNatClampNeg]? = some (.int ((0 : Int32) ||| (t0 <<< ((29 : Int32) &&& 31)))) ∧ ts[((sv + (1 : Int32)) &&& ((2048 : Int32) - (1 : Int32))).toNatClampNeg]? = some (.int (-1 : Int32)) := by
  have e1 : sv.toNatClampNeg = sv.toInt.toNat := rfl
  have e2 : ((sv + (1 : Int32)) &&& ((2048 : Int32) - (1 : Int32))).toNatClampNeg = ((sv + (1 : Int32)) &&& ((2048 : Int32) - (1 : Int32))).toInt.toNat := rfl
  obtain ⟨n1, n2, n3⟩ := own_next h1 h2
  rcases hT with rfl | ⟨s0, t0, a1, a2, a3, rfl⟩
  · exact Or.inl (own_rep (by omega))
  · have e3 : s0.toNatClampNeg = s0.toInt.toNat := rfl
    by_cases q : s0.toNatClampNeg = sv.toNatClampNeg
    · refine Or.inr ⟨t0, a3, ?_, ?_⟩
      · rw [q, List.getElem?_set_self (by rw [List.length_replicate]; omega)]
      · rw [List.getElem?_set_ne (by omega)]; exact own_rep (by omega)
    · left
      rw [List.getElem?_set_ne q]; exact own_rep (by omega)
theorem own_e0 {t0 : Int32} (h : t0 = 0 ∨ t0 = 1 ∨ t0 = 2 ∨ t0 = 3) : ¬ (((0 : Int32) ||| (t0 <<< ((29 : Int32) &&& 31))) = (-1 : Int32)) ∧ (((0 : Int32) ||| (t0 <<< ((29 : Int32) &&& 31))) &&& (536870911 : Int32)) = (0 : Int32) := by rcases h with rfl | rfl | rfl | rfl <;> decide
theorem own_add0 (z : Int32) : (0 : Int32) + z = z := by
  apply Int32.toInt_inj.mp
  have q1 := c_iadd (0 : Int32) z
  have q2 := rng32 z
  have q3 := rng32 ((0 : Int32) + z)
  have q4 : (0 : Int32).toInt = 0 := by decide
  omega
theorem own_addsub (y z : Int32) : (y + z) - y = z := by
  apply Int32.toInt_inj.mp
  have q1 := c_iadd y z
  have q2 := c_isub (y + z) y
  have q3 := rng32 z
  have q4 := rng32 ((y + z) - y)
  omega
theorem own_has1 {ks ss : List Value} {l0 nd off len : Int32} (hln : (l0 = (1 : Int32) ∧ nd = (1024 : Int32)) ∨ (l0 = (2 : Int32) ∧ nd = (2048 : Int32)) ∨ (l0 = (3 : Int32) ∧ nd = (3072 : Int32))) (hol : (off = (0 : Int32) ∧ len = (1 : Int32)) ∨ (off = (0 : Int32) ∧ len = (2 : Int32)) ∨ (off = (1 : Int32) ∧ len = (1 : Int32)) ∨ (off = (1 : Int32) ∧ len = (2 : Int32))) (x0 x1 x2 x3 : Int64) (BA : OwnBase ks ss l0 nd x0 x1 x2) (hl : l0 = len) (hm : (off = (0 : Int32) ∨ (x1 = x0 ∧ (len = (1 : Int32) ∨ x2 = x1)))) : OwnHas ks ss off len x0 x1 x2 x3 (0 : Int32) (0 : Int32) := by
  obtain ⟨b1, b2, b3, b4, b5, b6, b7⟩ := BA
  have e0 : (0 : Int32).toNatClampNeg = 0 := by decide
  have e1 : ((0 : Int32) + (1 : Int32)).toNatClampNeg = 1 := by decide
  refine ⟨Or.inl rfl, Or.inl rfl, ?_, ?_, ?_, ?_⟩
  · rw [e0]; exact b3
  · rw [e1, own_add0, ← hl]; exact b4
  · rw [e0, b5]
    rcases hol with ⟨rfl, rfl⟩ | ⟨rfl, rfl⟩ | ⟨rfl, rfl⟩ | ⟨rfl, rfl⟩
    · rfl
    · rfl
    · rcases hm with q | ⟨q, -⟩
      · exact absurd q (by decide)
      · rw [← q]; rfl
    · rcases hm with q | ⟨q, -⟩
      · exact absurd q (by decide)
      · rw [← q]; rfl
  · intro q
    rw [e1, b6 (by rw [hl, q]; decide)]
    rcases hol with ⟨rfl, rfl⟩ | ⟨rfl, rfl⟩ | ⟨rfl, rfl⟩ | ⟨rfl, rfl⟩
    · exact absurd q (by decide)
    · rfl
    · exact absurd q (by decide)
    · rcases hm with r | ⟨-, r | r⟩
      · exact absurd r (by decide)
      · exact absurd r (by decide)
      · rw [← r]; rfl
theorem own_hol5 {l0 nd : Int32} (hln : (l0 = (1 : Int32) ∧ nd = (1024 : Int32)) ∨ (l0 = (2 : Int32) ∧ nd = (2048 : Int32)) ∨ (l0 = (3 : Int32) ∧ nd = (3072 : Int32))) : ((0 : Int32) = (0 : Int32) ∧ l0 = (1 : Int32)) ∨ ((0 : Int32) = (0 : Int32) ∧ l0 = (2 : Int32)) ∨ ((0 : Int32) = (0 : Int32) ∧ l0 = (3 : Int32)) ∨ ((0 : Int32) = (1 : Int32) ∧ l0 = (1 : Int32)) ∨ ((0 : Int32) = (1 : Int32) ∧ l0 = (2 : Int32)) := by 
  rcases hln with ⟨rfl, -⟩ | ⟨rfl, -⟩ | ⟨rfl, -⟩
  · exact Or.inl ⟨rfl, rfl⟩
  · exact Or.inr (Or.inl ⟨rfl, rfl⟩)
  · exact Or.inr (Or.inr (Or.inl ⟨rfl, rfl⟩))
theorem own_hol45 {off len : Int32} (hol : (off = (0 : Int32) ∧ len = (1 : Int32)) ∨ (off = (0 : Int32) ∧ len = (2 : Int32)) ∨ (off = (1 : Int32) ∧ len = (1 : Int32)) ∨ (off = (1 : Int32) ∧ len = (2 : Int32))) : (off = (0 : Int32) ∧ len = (1 : Int32)) ∨ (off = (0 : Int32) ∧ len = (2 : Int32)) ∨ (off = (0 : Int32) ∧ len = (3 : Int32)) ∨ (off = (1 : Int32) ∧ len = (1 : Int32)) ∨ (off = (1 : Int32) ∧ len = (2 : Int32)) := by 
  rcases hol with q | q | q | q
  · exact Or.inl q
  · exact Or.inr (Or.inl q)
  · exact Or.inr (Or.inr (Or.inr (Or.inl q)))
  · exact Or.inr (Or.inr (Or.inr (Or.inr q)))
def own_out (e k0 k1 k2 : Int64) (ln : Int32) : List Value := if ln = (1 : Int32) then [.long k0, .long e, .long e, .long e] else if ln = (2 : Int32) then [.long k0, .long k1, .long e, .long e] else [.long k0, .long k1, .long k2, .long e]
theorem own_out1 (e k0 k1 k2 : Int64) : own_out e k0 k1 k2 (1 : Int32) = [.long k0, .long e, .long e, .long e] := rfl
theorem own_out2 (e k0 k1 k2 : Int64) : own_out e k0 k1 k2 (2 : Int32) = [.long k0, .long k1, .long e, .long e] := rfl
theorem own_out3 (e k0 k1 k2 : Int64) : own_out e k0 k1 k2 (3 : Int32) = [.long k0, .long k1, .long k2, .long e] := rfl
theorem own_cpb {nd sv : Int32} (hnd : nd = (1024 : Int32) ∨ nd = (2048 : Int32) ∨ nd = (3072 : Int32)) (h : sv = (0 : Int32) ∨ sv = (1 : Int32) ∨ sv = (2 : Int32) ∨ sv = (3 : Int32)) : ¬ ((sv + (0 : Int32)) < 0 ∨ nd.toNatClampNeg ≤ (sv + (0 : Int32)).toNatClampNeg) ∧ ¬ ((sv + ((0 : Int32) + (1 : Int32))) < 0 ∨ nd.toNatClampNeg ≤ (sv + ((0 : Int32) + (1 : Int32))).toNatClampNeg) ∧ ¬ ((sv + (((0 : Int32) + (1 : Int32)) + (1 : Int32))) < 0 ∨ nd.toNatClampNeg ≤ (sv + (((0 : Int32) + (1 : Int32)) + (1 : Int32))).toNatClampNeg) := by rcases hnd with rfl | rfl | rfl <;> rcases h with rfl | rfl | rfl | rfl <;> decide
theorem own_l0c (x : Int32) : ((1 : Int32) + ((x &&& (3 : Int32)) % (3 : Int32))) = (1 : Int32) ∨ ((1 : Int32) + ((x &&& (3 : Int32)) % (3 : Int32))) = (2 : Int32) ∨ ((1 : Int32) + ((x &&& (3 : Int32)) % (3 : Int32))) = (3 : Int32) := by rcases own_and3 x with q | q | q | q <;> rw [q] <;> decide
theorem own_l1c (x : Int32) : ((1 : Int32) + (x &&& (1 : Int32))) = (1 : Int32) ∨ ((1 : Int32) + (x &&& (1 : Int32))) = (2 : Int32) := by rcases and_one x with q | q <;> rw [q] <;> decide
theorem own_addz (z : Int32) : z + (0 : Int32) = z := by
  apply Int32.toInt_inj.mp
  have q1 := c_iadd z (0 : Int32)
  have q2 := rng32 z
  have q3 := rng32 (z + (0 : Int32))
  have q4 : (0 : Int32).toInt = 0 := by decide
  omega
theorem own_sI {args : Array Value} {s : State} {C n d : String} {k : Int32} (q : (Jvm.Cond.eq (Term.static C n d) (Term.int k)).value args s none s [] = some true) : (Term.static C n d).eval args s none [] s = some (.int k) := by
  obtain ⟨x, y, e1, e2, -, e4⟩ := cmp_v (Or.inl q)
  cases (Term.int_eval k).symm.trans e2
  obtain ⟨z, rfl⟩ := e4
  have r := gotT (Cond.eq_ints e1 (Term.int_eval k)) q
  subst r
  exact e1
theorem own_l123 {l0 nd : Int32} (hln : (l0 = (1 : Int32) ∧ nd = (1024 : Int32)) ∨ (l0 = (2 : Int32) ∧ nd = (2048 : Int32)) ∨ (l0 = (3 : Int32) ∧ nd = (3072 : Int32))) : l0 = (1 : Int32) ∨ l0 = (2 : Int32) ∨ l0 = (3 : Int32) := by 
  rcases hln with ⟨q, -⟩ | ⟨q, -⟩ | ⟨q, -⟩
  · exact Or.inl q
  · exact Or.inr (Or.inl q)
  · exact Or.inr (Or.inr q)
theorem own_len12 {off len : Int32} (hol : (off = (0 : Int32) ∧ len = (1 : Int32)) ∨ (off = (0 : Int32) ∧ len = (2 : Int32)) ∨ (off = (1 : Int32) ∧ len = (1 : Int32)) ∨ (off = (1 : Int32) ∧ len = (2 : Int32))) : len = (1 : Int32) ∨ len = (2 : Int32) := by 
  rcases hol with ⟨-, q⟩ | ⟨-, q⟩ | ⟨-, q⟩ | ⟨-, q⟩
  · exact Or.inl q
  · exact Or.inr q
  · exact Or.inl q
  · exact Or.inr q
theorem rm_nlzI_ef (m : MethodId) (x0 : Int32) : entryFrame m #[(.int x0)] 2 = mkF m 0 #[.val (.int x0), .unset] [] := by first | (simp [entryFrame, mkF, argsToLocals, Value.category]; done) | rfl
def rm_nlzI_Q (Z : State) (xv : Int32) (h0 : Heap) (n0 : Nat) (v : Option Value) (h : Heap) (L : List Loc) : Prop := v = some (.int (21 : Int32)) ∧ Fr n0 L ∧ h = h0
set_option maxRecDepth 65536 in
set_option maxHeartbeats 40000000 in
theorem rm_nlzI (l : Launch) (Z : State) (a0 : Array Value) (hw : ∀ d ∈ tables_1, d.before a0 Z = true) (ws : List Jvm.Cond) (xv : Int32) (h0 : Heap) (n0 : Nat) (Z0 : n0 ≤ h0.size) (hxv : xv = (2047 : Int32)) :
    MetFree l (⟨"java/lang/Integer", "numberOfLeadingZeros", "(I)I"⟩ : MethodName) (head1 (Jvm.Cond.code (⟨"java/lang/Integer", "numberOfLeadingZeros", "(I)I"⟩ : MethodName) jdk_33_method_47_code 2 (some .int) :: ws) ({ frames := 0, cells := 0, slots := 0, locals := 0 } : Room)) (fun a₀ U₀ => a₀ = #[(.int xv)] ∧ Z.Warmed39 U₀.vm ∧ U₀.heap = h0) (fun _ _ _ _ _ => True) (fun _ U₀ o₀ U₁ => ∃ v₀ L₀, o₀ = .returned v₀ ∧ rm_nlzI_Q Z xv h0 n0 v₀ U₁.heap L₀ ∧ FrameEnd U₀ o₀ U₁ L₀ ({ frames := 0, cells := 0, slots := 0, locals := 0 } : Room).cells ({ frames := 0, cells := 0, slots := 0, locals := 0 } : Room).slots) := by
  refine MetFree.of_bodySF (plainFor_of_name own_pn0) hisR ?_
  intro p e s m args below meth c s₁ Bd hml0 hP hK
  obtain ⟨rfl, hZ, hh⟩ := hP
  have hx := Bd.exec
  have hby := Bd.bytes
  have hml : c.maxLocals = 2 := hml0
  have hown : s.vm.findClass "java/lang/Integer" = some m.cls := findClass_of_methodNamed Bd.named
  have hnm := (name_of_methodNamed Bd.named Bd.method).1
  have X0 : Stand p l e ({ frames := 0, cells := 0, slots := 0, locals := 0 } : Room) s m #[(.int xv)] below meth c s₁ [] 0 0 := Stand.of_body Bd
  have e0 : s₁.heap = h0 := by rw [← hh, Bd.state]; rfl
  have N0 := Fr.nil n0
  have pre0 : ∀ t, Steps p.tables e below (s₁.setTop (mkF m 0 #[.val (.int xv), .unset] [])) t → Steps p.tables e below (s₁.setTop (entryFrame m #[(.int xv)] 2)) t := fun t kk₀ => castTop (rm_nlzI_ef m xv) kk₀
  obtain ⟨fs, hr, hrun, hended, hW, hsame⟩ := X0.leave (v := some (.int ((((31 : Int32) + (-8 : Int32)) + (-2 : Int32)) - ((((((xv.toUInt32 >>> ((8 : Int32) &&& 31).toUInt32).toInt32).toUInt32 >>> ((2 : Int32) &&& 31).toUInt32).toInt32).toUInt32 >>> ((1 : Int32) &&& 31).toUInt32).toInt32)))) (fun h => by rw [Bd.returns] at h; cases h)
  refine ⟨_, _, pre0 _ ?_, hrun, hended, _, _, rfl, ?_, ⟨_, rfl⟩, hW, hsame.mono (by decide) (by decide)⟩
  · show Steps p.tables e below (s₁.setTop (mkF m 0 #[.val (.int xv), .unset] [])) _
    refine XS.iloadN X0.here hx rfl (hb hby own_d_jdk_33_method_47_0) rfl ?_
    refine XS.ifYes X0.here hx rfl (pc0 := 1) (pc' := 15) rfl (hb hby own_d_jdk_33_method_47_1) rfl ((if0 _ _).trans (tlt (show (0 : Int32) < xv by rw [hxv]; decide)).2.2.1) (by decide) (by decide) ?_
    refine XS.bipush X0.here hx rfl (hb hby own_d_jdk_33_method_47_15) ?_
    refine XS.istoreN X0.here hx rfl (hb hby own_d_jdk_33_method_47_17) rfl (l' := #[.val (.int xv), .val (.int (31 : Int32))]) rfl ?_
    show Steps p.tables e below (s₁.setTop (mkF m 18 #[.val (.int xv), .val (.int (31 : Int32))] [])) _
    refine XS.iloadN X0.here hx rfl (hb hby own_d_jdk_33_method_47_18) rfl ?_
    refine X0.ldcWI hx hown (mvT hZ (own_at hw 68 rfl)) (g := (mkF m 19 #[.val (.int xv), .val (.int (31 : Int32))] [(.int xv)])) rfl (hb hby own_d_jdk_33_method_47_19) ?_
    refine XS.icmpYes X0.here hx rfl (pc0 := 22) (pc' := 33) rfl (hb hby own_d_jdk_33_method_47_22) rfl (tlt (show xv < (65536 : Int32) by rw [hxv]; decide)).1 (by decide) (by decide) ?_
    refine XS.iloadN X0.here hx rfl (hb hby own_d_jdk_33_method_47_33) rfl ?_
    show Steps p.tables e below (s₁.setTop (mkF m 34 #[.val (.int xv), .val (.int (31 : Int32))] [(.int xv)])) _
    refine XS.sipush X0.here hx rfl (hb hby own_d_jdk_33_method_47_34) ?_
    refine XS.icmpNo X0.here hx rfl (hb hby own_d_jdk_33_method_47_37) rfl (flt (show ¬ (xv < (256 : Int32)) by rw [hxv]; decide)).1 ?_
    refine XS.iinc X0.here hx rfl (hb hby own_d_jdk_33_method_47_40) rfl (l' := #[.val (.int xv), .val (.int ((31 : Int32) + (-8 : Int32)))]) rfl ?_
    refine XS.iloadN X0.here hx rfl (hb hby own_d_jdk_33_method_47_43) rfl ?_
    show Steps p.tables e below (s₁.setTop (mkF m 44 #[.val (.int xv), .val (.int ((31 : Int32) + (-8 : Int32)))] [(.int xv)])) _
    refine XS.bipush X0.here hx rfl (hb hby own_d_jdk_33_method_47_44) ?_
    refine XS.iushr X0.here hx rfl (hb hby own_d_jdk_33_method_47_46) rfl ?_
    refine XS.istoreN X0.here hx rfl (hb hby own_d_jdk_33_method_47_47) rfl (l' := #[.val (.int ((xv.toUInt32 >>> ((8 : Int32) &&& 31).toUInt32).toInt32)), .val (.int ((31 : Int32) + (-8 : Int32)))]) rfl ?_
    refine XS.iloadN X0.here hx rfl (hb hby own_d_jdk_33_method_47_48) rfl ?_
    show Steps p.tables e below (s₁.setTop (mkF m 49 #[.val (.int ((xv.toUInt32 >>> ((8 : Int32) &&& 31).toUInt32).toInt32)), .val (.int ((31 : Int32) + (-8 : Int32)))] [(.int ((xv.toUInt32 >>> ((8 : Int32) &&& 31).toUInt32).toInt32))])) _
    refine XS.bipush X0.here hx rfl (hb hby own_d_jdk_33_method_47_49) ?_
    refine XS.icmpYes X0.here hx rfl (pc0 := 51) (pc' := 61) rfl (hb hby own_d_jdk_33_method_47_51) rfl (tlt (show ((xv.toUInt32 >>> ((8 : Int32) &&& 31).toUInt32).toInt32) < (16 : Int32) by rw [hxv]; decide)).1 (by decide) (by decide) ?_
    refine XS.iloadN X0.here hx rfl (hb hby own_d_jdk_33_method_47_61) rfl ?_
    refine XS.iconst X0.here hx rfl (hb hby own_d_jdk_33_method_47_62) ?_
    show Steps p.tables e below (s₁.setTop (mkF m 63 #[.val (.int ((xv.toUInt32 >>> ((8 : Int32) &&& 31).toUInt32).toInt32)), .val (.int ((31 : Int32) + (-8 : Int32)))] [(.int (4 : Int32)), (.int ((xv.toUInt32 >>> ((8 : Int32) &&& 31).toUInt32).toInt32))])) _
    refine XS.icmpNo X0.here hx rfl (hb hby own_d_jdk_33_method_47_63) rfl (flt (show ¬ (((xv.toUInt32 >>> ((8 : Int32) &&& 31).toUInt32).toInt32) < (4 : Int32)) by rw [hxv]; decide)).1 ?_
    refine XS.iinc X0.here hx rfl (hb hby own_d_jdk_33_method_47_66) rfl (l' := #[.val (.int ((xv.toUInt32 >>> ((8 : Int32) &&& 31).toUInt32).toInt32)), .val (.int (((31 : Int32) + (-8 : Int32)) + (-2 : Int32)))]) rfl ?_
    refine XS.iloadN X0.here hx rfl (hb hby own_d_jdk_33_method_47_69) rfl ?_
    refine XS.iconst X0.here hx rfl (hb hby own_d_jdk_33_method_47_70) ?_
    show Steps p.tables e below (s₁.setTop (mkF m 71 #[.val (.int ((xv.toUInt32 >>> ((8 : Int32) &&& 31).toUInt32).toInt32)), .val (.int (((31 : Int32) + (-8 : Int32)) + (-2 : Int32)))] [(.int (2 : Int32)), (.int ((xv.toUInt32 >>> ((8 : Int32) &&& 31).toUInt32).toInt32))])) _
    refine XS.iushr X0.here hx rfl (hb hby own_d_jdk_33_method_47_71) rfl ?_
    refine XS.istoreN X0.here hx rfl (hb hby own_d_jdk_33_method_47_72) rfl (l' := #[.val (.int ((((xv.toUInt32 >>> ((8 : Int32) &&& 31).toUInt32).toInt32).toUInt32 >>> ((2 : Int32) &&& 31).toUInt32).toInt32)), .val (.int (((31 : Int32) + (-8 : Int32)) + (-2 : Int32)))]) rfl ?_
    refine XS.iloadN X0.here hx rfl (hb hby own_d_jdk_33_method_47_73) rfl ?_
    refine XS.iloadN X0.here hx rfl (hb hby own_d_jdk_33_method_47_74) rfl ?_
    show Steps p.tables e below (s₁.setTop (mkF m 75 #[.val (.int ((((xv.toUInt32 >>> ((8 : Int32) &&& 31).toUInt32).toInt32).toUInt32 >>> ((2 : Int32) &&& 31).toUInt32).toInt32)), .val (.int (((31 : Int32) + (-8 : Int32)) + (-2 : Int32)))] [(.int ((((xv.toUInt32 >>> ((8 : Int32) &&& 31).toUInt32).toInt32).toUInt32 >>> ((2 : Int32) &&& 31).toUInt32).toInt32)), (.int (((31 : Int32) + (-8 : Int32)) + (-2 : Int32)))])) _
    refine XS.iconst X0.here hx rfl (hb hby own_d_jdk_33_method_47_75) ?_
    refine XS.iushr X0.here hx rfl (hb hby own_d_jdk_33_method_47_76) rfl ?_
    refine XS.isub X0.here hx rfl (hb hby own_d_jdk_33_method_47_77) rfl ?_
    exact own_retI X0 hx Bd.returns (hb hby own_d_jdk_33_method_47_78) hr
  · show rm_nlzI_Q Z xv h0 n0 _ s₁.heap _
    rw [e0]
    exact ⟨by rw [show ((((31 : Int32) + (-8 : Int32)) + (-2 : Int32)) - ((((((xv.toUInt32 >>> ((8 : Int32) &&& 31).toUInt32).toInt32).toUInt32 >>> ((2 : Int32) &&& 31).toUInt32).toInt32).toUInt32 >>> ((1 : Int32) &&& 31).toUInt32).toInt32)) = (21 : Int32) by rw [hxv]; decide], N0, rfl⟩
theorem rm_nlzJ_ef (m : MethodId) (x0 : Int64) : entryFrame m #[(.long x0)] 3 = mkF m 0 #[.val (.long x0), .second, .unset] [] := by first | (simp [entryFrame, mkF, argsToLocals, Value.category]; done) | rfl
def rm_nlzJ_Q (Z : State) (xv : Int64) (h0 : Heap) (n0 : Nat) (v : Option Value) (h : Heap) (L : List Loc) : Prop := v = some (.int (53 : Int32)) ∧ Fr n0 L ∧ h = h0
set_option maxRecDepth 65536 in
set_option maxHeartbeats 40000000 in
theorem rm_nlzJ (l : Launch) (Z : State) (a0 : Array Value) (hw : ∀ d ∈ tables_1, d.before a0 Z = true) (ws : List Jvm.Cond) (xv : Int64) (h0 : Heap) (n0 : Nat) (Z0 : n0 ≤ h0.size) (hxv : xv = (2047 : Int64)) :
    MetFree l (⟨"java/lang/Long", "numberOfLeadingZeros", "(J)I"⟩ : MethodName) (head1 (Jvm.Cond.code (⟨"java/lang/Long", "numberOfLeadingZeros", "(J)I"⟩ : MethodName) jdk_35_method_48_code 3 (some .int) :: ws) ({ frames := 1, cells := 0, slots := 0, locals := 14 } : Room)) (fun a₀ U₀ => a₀ = #[(.long xv)] ∧ Z.Warmed39 U₀.vm ∧ U₀.heap = h0) (fun _ _ _ _ _ => True) (fun _ U₀ o₀ U₁ => ∃ v₀ L₀, o₀ = .returned v₀ ∧ rm_nlzJ_Q Z xv h0 n0 v₀ U₁.heap L₀ ∧ FrameEnd U₀ o₀ U₁ L₀ ({ frames := 1, cells := 0, slots := 0, locals := 14 } : Room).cells ({ frames := 1, cells := 0, slots := 0, locals := 14 } : Room).slots) := by
  refine MetFree.of_bodySF (plainFor_of_name own_pn1) hisR ?_
  intro p e s m args below meth c s₁ Bd hml0 hP hK
  obtain ⟨rfl, hZ, hh⟩ := hP
  have hx := Bd.exec
  have hby := Bd.bytes
  have hml : c.maxLocals = 3 := hml0
  have hown : s.vm.findClass "java/lang/Long" = some m.cls := findClass_of_methodNamed Bd.named
  have hnm := (name_of_methodNamed Bd.named Bd.method).1
  have X0 : Stand p l e ({ frames := 1, cells := 0, slots := 0, locals := 14 } : Room) s m #[(.long xv)] below meth c s₁ [] 0 0 := Stand.of_body Bd
  have e0 : s₁.heap = h0 := by rw [← hh, Bd.state]; rfl
  have N0 := Fr.nil n0
  have pre0 : ∀ t, Steps p.tables e below (s₁.setTop (mkF m 0 #[.val (.long xv), .second, .unset] [])) t → Steps p.tables e below (s₁.setTop (entryFrame m #[(.long xv)] 3)) t := fun t kk₀ => castTop (rm_nlzJ_ef m xv) kk₀
  obtain ⟨_, _, ⟨T1, L1, k1, n1⟩, -, X1, ⟨Lc1, hQ1, l1, y1, z1⟩, st1⟩ := Jvm.LawKit.callS X0 hx (y := (⟨"java/lang/Integer", "numberOfLeadingZeros", "(I)I"⟩ : MethodName)) hown (mvT hZ (own_at hw 64 rfl)) (mvT hZ (own_at hw 65 rfl)) (mvT hZ (own_at hw 66 rfl)) (mvT hZ (own_at hw 67 rfl)) (by decide) (backOf (W := 1) (rm_nlzI l Z a0 hw [] (xv.toInt32) h0 n0 Z0 (by rw [hxv]; decide)) hZ (own_at hw 67 rfl) (own_at hw 66 rfl) (by decide) (by decide)) (g := (mkF m 14 #[.val (.long xv), .second, .val (.int (((xv.toUInt64 >>> ((32 : Int32) &&& 0x3f).toInt64.toUInt64).toInt64).toInt32))] [(.int (xv.toInt32)), (.int (32 : Int32))])) rfl (by rw [hml]; rfl) (argsL := [(.int (xv.toInt32))]) (rest := [(.int (32 : Int32))]) (lenOf own_pd0 rfl) rfl (by show 2 * 0 + _ ≤ _; exact Nat.le_of_eq rfl) (hb hby own_d_jdk_35_method_48_14) (fun _ _ => ⟨rfl, e0, (by decide : 0 + 0 ≤ _), (by decide : 0 + 0 ≤ _)⟩)
  dsimp only [Pt.U, Pt.locs, Pt.cells, Pt.slots] at X1 l1 y1 z1 st1 hQ1
  subst l1 y1 z1
  obtain ⟨rfl, Nq1, eh1⟩ := hQ1
  have N1 := Fr.app N0 Nq1
  obtain ⟨fs, hr, hrun, hended, hW, hsame⟩ := X1.leave (v := some (.int ((32 : Int32) + (21 : Int32)))) (fun h => by rw [Bd.returns] at h; cases h)
  refine ⟨_, _, pre0 _ ?_, hrun, hended, _, _, rfl, ?_, ⟨_, rfl⟩, hW, hsame.mono (by decide) (by decide)⟩
  · show Steps p.tables e below (s₁.setTop (mkF m 0 #[.val (.long xv), .second, .unset] [])) _
    refine XS.lloadN X0.here hx rfl (hb hby own_d_jdk_35_method_48_0) rfl ?_
    refine XS.bipush X0.here hx rfl (hb hby own_d_jdk_35_method_48_1) ?_
    refine XS.lushr X0.here hx rfl (hb hby own_d_jdk_35_method_48_3) rfl ?_
    refine XS.l2i X0.here hx rfl (hb hby own_d_jdk_35_method_48_4) rfl ?_
    show Steps p.tables e below (s₁.setTop (mkF m 5 #[.val (.long xv), .second, .unset] [(.int (((xv.toUInt64 >>> ((32 : Int32) &&& 0x3f).toInt64.toUInt64).toInt64).toInt32))])) _
    refine XS.istoreN X0.here hx rfl (hb hby own_d_jdk_35_method_48_5) rfl (l' := #[.val (.long xv), .second, .val (.int (((xv.toUInt64 >>> ((32 : Int32) &&& 0x3f).toInt64.toUInt64).toInt64).toInt32))]) rfl ?_
    refine XS.iloadN X0.here hx rfl (hb hby own_d_jdk_35_method_48_6) rfl ?_
    refine XS.ifNo X0.here hx rfl (hb hby own_d_jdk_35_method_48_7) rfl ((if0 _ _).trans (teq (show (((xv.toUInt64 >>> ((32 : Int32) &&& 0x3f).toInt64.toUInt64).toInt64).toInt32) = (0 : Int32) by rw [hxv]; decide)).2) ?_
    refine XS.bipush X0.here hx rfl (hb hby own_d_jdk_35_method_48_10) ?_
    show Steps p.tables e below (s₁.setTop (mkF m 12 #[.val (.long xv), .second, .val (.int (((xv.toUInt64 >>> ((32 : Int32) &&& 0x3f).toInt64.toUInt64).toInt64).toInt32))] [(.int (32 : Int32))])) _
    refine XS.lloadN X0.here hx rfl (hb hby own_d_jdk_35_method_48_12) rfl ?_
    refine XS.l2i X0.here hx rfl (hb hby own_d_jdk_35_method_48_13) rfl ?_
    refine st1 _ ?_
    refine XS.iadd X1.here hx rfl (hb hby own_d_jdk_35_method_48_17) rfl ?_
    show Steps p.tables e below (T1.setTop (mkF m 18 #[.val (.long xv), .second, .val (.int (((xv.toUInt64 >>> ((32 : Int32) &&& 0x3f).toInt64.toUInt64).toInt64).toInt32))] [(.int ((32 : Int32) + (21 : Int32)))])) _
    refine XS.goto X1.here hx rfl (pc0 := 18) (pc' := 25) rfl (hb hby own_d_jdk_35_method_48_18) (by decide) (by decide) ?_
    exact own_retI X1 hx Bd.returns (hb hby own_d_jdk_35_method_48_25) hr
  · show rm_nlzJ_Q Z xv h0 n0 _ T1.heap _
    rw [eh1]
    exact ⟨rfl, N1, rfl⟩
theorem rm_wi_ef (m : MethodId) (x0 : Int32) : entryFrame m #[(.int x0)] 1 = mkF m 0 #[.val (.int x0)] [] := by first | (simp [entryFrame, mkF, argsToLocals, Value.category]; done) | rfl
def rm_wi_Q (Z : State) (iv : Int32) (h0 : Heap) (n0 : Nat) (v : Option Value) (h : Heap) (L : List Loc) : Prop := v = some (.int (iv >>> ((6 : Int32) &&& 31))) ∧ Fr n0 L ∧ h = h0
set_option maxRecDepth 65536 in
set_option maxHeartbeats 40000000 in
theorem rm_wi (l : Launch) (Z : State) (a0 : Array Value) (hw : ∀ d ∈ tables_1, d.before a0 Z = true) (ws : List Jvm.Cond) (iv : Int32) (h0 : Heap) (n0 : Nat) (Z0 : n0 ≤ h0.size)  :
    MetFree l (⟨"java/util/BitSet", "wordIndex", "(I)I"⟩ : MethodName) (head1 (Jvm.Cond.code (⟨"java/util/BitSet", "wordIndex", "(I)I"⟩ : MethodName) jdk_92_method_1_code 1 (some .int) :: ws) ({ frames := 0, cells := 0, slots := 0, locals := 0 } : Room)) (fun a₀ U₀ => a₀ = #[(.int iv)] ∧ Z.Warmed39 U₀.vm ∧ U₀.heap = h0) (fun _ _ _ _ _ => True) (fun _ U₀ o₀ U₁ => ∃ v₀ L₀, o₀ = .returned v₀ ∧ rm_wi_Q Z iv h0 n0 v₀ U₁.heap L₀ ∧ FrameEnd U₀ o₀ U₁ L₀ ({ frames := 0, cells := 0, slots := 0, locals := 0 } : Room).cells ({ frames := 0, cells := 0, slots := 0, locals := 0 } : Room).slots) := by
  refine MetFree.of_bodySF (plainFor_of_name own_pn2) hisR ?_
  intro p e s m args below meth c s₁ Bd hml0 hP hK
  obtain ⟨rfl, hZ, hh⟩ := hP
  have hx := Bd.exec
  have hby := Bd.bytes
  have hml : c.maxLocals = 1 := hml0
  have hown : s.vm.findClass "java/util/BitSet" = some m.cls := findClass_of_methodNamed Bd.named
  have hnm := (name_of_methodNamed Bd.named Bd.method).1
  have X0 : Stand p l e ({ frames := 0, cells := 0, slots := 0, locals := 0 } : Room) s m #[(.int iv)] below meth c s₁ [] 0 0 := Stand.of_body Bd
  have e0 : s₁.heap = h0 := by rw [← hh, Bd.state]; rfl
  have N0 := Fr.nil n0
  have pre0 : ∀ t, Steps p.tables e below (s₁.setTop (mkF m 0 #[.val (.int iv)] [])) t → Steps p.tables e below (s₁.setTop (entryFrame m #[(.int iv)] 1)) t := fun t kk₀ => castTop (rm_wi_ef m iv) kk₀
  obtain ⟨fs, hr, hrun, hended, hW, hsame⟩ := X0.leave (v := some (.int (iv >>> ((6 : Int32) &&& 31)))) (fun h => by rw [Bd.returns] at h; cases h)
  refine ⟨_, _, pre0 _ ?_, hrun, hended, _, _, rfl, ?_, ⟨_, rfl⟩, hW, hsame.mono (by decide) (by decide)⟩
  · show Steps p.tables e below (s₁.setTop (mkF m 0 #[.val (.int iv)] [])) _
    refine XS.iloadN X0.here hx rfl (hb hby own_d_jdk_92_method_1_0) rfl ?_
    refine XS.bipush X0.here hx rfl (hb hby own_d_jdk_92_method_1_1) ?_
    refine XS.ishr X0.here hx rfl (hb hby own_d_jdk_92_method_1_3) rfl ?_
    exact own_retI X0 hx Bd.returns (hb hby own_d_jdk_92_method_1_4) hr
  · show rm_wi_Q Z iv h0 n0 _ s₁.heap _
    rw [e0]
    exact ⟨rfl, N0, rfl⟩
theorem rm_iw_ef (m : MethodId) (x0 : Addr) (x1 : Int32) : entryFrame m #[(.ref x0), (.int x1)] 2 = mkF m 0 #[.val (.ref x0), .val (.int x1)] [] := by first | (simp [entryFrame, mkF, argsToLocals, Value.category]; done) | rfl
def rm_iw_Q (Z : State) (a : Addr) (h0 : Heap) (n0 : Nat) (v : Option Value) (h : Heap) (L : List Loc) : Prop := ∃ (wd : Addr) (k : ClassId), v = none ∧ Fr n0 L ∧ Keep h0 h [a] ∧ h0.size ≤ wd ∧ Exa Z h a "java/util/BitSet" ∧ Fld Z h a "java/util/BitSet" "wordsInUse" "I" (.int (0 : Int32)) ∧ Fld Z h a "java/util/BitSet" "sizeIsSticky" "Z" (.int (0 : Int32)) ∧ Fld Z h a "java/util/BitSet" "words" "[J" (.ref wd) ∧ OwnLst Z h wd .long k [.long (0 : Int64)]
set_option maxRecDepth 65536 in
set_option maxHeartbeats 40000000 in
theorem rm_iw (l : Launch) (Z : State) (a0 : Array Value) (hw : ∀ d ∈ tables_1, d.before a0 Z = true) (ws : List Jvm.Cond) (a : Addr) (h0 : Heap) (n0 : Nat) (Z0 : n0 ≤ h0.size) (OL : Old Z n0 h0) (E_a : Exa Z h0 a "java/util/BitSet") (F_wiu : Fld Z h0 a "java/util/BitSet" "wordsInUse" "I" (.int (0 : Int32))) (F_st : Fld Z h0 a "java/util/BitSet" "sizeIsSticky" "Z" (.int (0 : Int32))) (F_wo : Fld Z h0 a "java/util/BitSet" "words" "[J" .null) (g_a : n0 ≤ a) :
    MetFree l (⟨"java/util/BitSet", "initWords", "(I)V"⟩ : MethodName) (head1 (Jvm.Cond.code (⟨"java/util/BitSet", "initWords", "(I)V"⟩ : MethodName) jdk_92_method_6_code 2 none :: ws) ({ frames := 1, cells := 1, slots := 1, locals := 13 } : Room)) (fun a₀ U₀ => a₀ = #[(.ref a), (.int (64 : Int32))] ∧ Z.Warmed39 U₀.vm ∧ U₀.heap = h0) (fun _ _ _ _ _ => True) (fun _ U₀ o₀ U₁ => ∃ v₀ L₀, o₀ = .returned v₀ ∧ rm_iw_Q Z a h0 n0 v₀ U₁.heap L₀ ∧ FrameEnd U₀ o₀ U₁ L₀ ({ frames := 1, cells := 1, slots := 1, locals := 13 } : Room).cells ({ frames := 1, cells := 1, slots := 1, locals := 13 } : Room).slots) := by
  refine MetFree.of_bodySF (plainFor_of_name own_pn2) hisR ?_
  intro p e s m args below meth c s₁ Bd hml0 hP hK
  obtain ⟨rfl, hZ, hh⟩ := hP
  have hx := Bd.exec
  have hby := Bd.bytes
  have hml : c.maxLocals = 2 := hml0
  have hown : s.vm.findClass "java/util/BitSet" = some m.cls := findClass_of_methodNamed Bd.named
  have hnm := (name_of_methodNamed Bd.named Bd.method).1
  have X0 : Stand p l e ({ frames := 1, cells := 1, slots := 1, locals := 13 } : Room) s m #[(.ref a), (.int (64 : Int32))] below meth c s₁ [] 0 0 := Stand.of_body Bd
  have e0 : s₁.heap = h0 := by rw [← hh, Bd.state]; rfl
  have N0 := Fr.nil n0
  have pre0 : ∀ t, Steps p.tables e below (s₁.setTop (mkF m 0 #[.val (.ref a), .val (.int (64 : Int32))] [])) t → Steps p.tables e below (s₁.setTop (entryFrame m #[(.ref a), (.int (64 : Int32))] 2)) t := fun t kk₀ => castTop (rm_iw_ef m a (64 : Int32)) kk₀
  obtain ⟨_, _, ⟨T2, L2, k2, n2⟩, -, X2, ⟨Lc2, hQ2, l2, y2, z2⟩, st2⟩ := Jvm.LawKit.callS X0 hx (y := (⟨"java/util/BitSet", "wordIndex", "(I)I"⟩ : MethodName)) hown (mvT hZ (own_at hw 40 rfl)) (mvT hZ (own_at hw 41 rfl)) (mvT hZ (own_at hw 26 rfl)) (mvT hZ (own_at hw 42 rfl)) (by decide) (backOf (W := 1) (rm_wi l Z a0 hw [] ((64 : Int32) - (1 : Int32)) h0 n0 Z0) hZ (own_at hw 42 rfl) (own_at hw 26 rfl) (by decide) (by decide)) (g := (mkF m 4 #[.val (.ref a), .val (.int (64 : Int32))] [(.int ((64 : Int32) - (1 : Int32))), (.ref a)])) rfl (by rw [hml]; rfl) (argsL := [(.int ((64 : Int32) - (1 : Int32)))]) (rest := [(.ref a)]) (lenOf own_pd0 rfl) rfl (by show 2 * 0 + _ ≤ _; exact Nat.le_of_eq rfl) (hb hby own_d_jdk_92_method_6_4) (fun _ _ => ⟨rfl, e0, (by decide : 0 + 0 ≤ _), (by decide : 0 + 0 ≤ _)⟩)
  dsimp only [Pt.U, Pt.locs, Pt.cells, Pt.slots] at X2 l2 y2 z2 st2 hQ2
  subst l2 y2 z2
  obtain ⟨rfl, Nq2, eh2⟩ := hQ2
  have N2 := Fr.app N0 Nq2
  obtain ⟨T3, h3, k3, X3, e3, E3, A3, st3⟩ := newP X2 hx hZ (own_at hw 0 rfl) eh2 (g := (mkF m 9 #[.val (.ref a), .val (.int (64 : Int32))] [(.int ((((64 : Int32) - (1 : Int32)) >>> ((6 : Int32) &&& 31)) + (1 : Int32))), (.ref a)])) rfl (hb hby own_d_jdk_92_method_6_9) rfl (by decide) (cap := 1) (by decide) (by decide) (by decide) (by decide)
  obtain ⟨b3, g3⟩ : ∃ z, z = h0.size := ⟨_, rfl⟩
  rw [← g3] at A3 st3
  have ne_a_b3 : a ≠ b3 := own_ne_lt E_a.lt g3
  have sz3 : h0.size ≤ b3 := Nat.le_trans (Nat.le_refl _) (Nat.le_of_eq g3.symm)
  have gn3 : n0 ≤ b3 := Nat.le_trans Z0 sz3
  have f4 := E_a.ext E3
  have f5 := F_wiu.ext E3
  have f6 := F_st.ext E3
  have f7 := F_wo.ext E3
  have OL3 := own_old_ext OL E3
  have KP3 : Keep h0 h3 [a] := (Keep.refl _ _).ext E3
  have f8 : OwnLst Z h3 b3 .long k3 [.long (0 : Int64)] := own_lst_new A3
  obtain ⟨T9, h9, X9, e9, W9, st9⟩ := putF X3 hx hZ hown (host := "") (Or.inl (own_at hw 43 rfl)) Via.refl e3 f7 f4 (Or.inl (own_at hw 44 rfl)) (own_at hw 25 rfl) (ty := (.array .long)) (by decide) rfl rfl (g := (mkF m 11 #[.val (.ref a), .val (.int (64 : Int32))] [(.ref b3), (.ref a)])) rfl rfl (hb hby own_d_jdk_92_method_6_11)
  have N9 := Fr.snoc X9 N2 g_a
  have f10 := f4.wr W9
  have f11 := f5.other W9 (Or.inr (slot_ne (Or.inl (own_at hw 32 rfl)) (Or.inl (own_at hw 44 rfl)) (by decide) (t := .int) (t' := (.array .long)) (by decide) (by decide)))
  have f12 := f6.other W9 (Or.inr (slot_ne (Or.inl (own_at hw 34 rfl)) (Or.inl (own_at hw 44 rfl)) (by decide) (t := .boolean) (t' := (.array .long)) (by decide) (by decide)))
  have f13 : Fld Z h9 a "java/util/BitSet" "words" "[J" (.ref b3) := f7.same W9
  have f14 := f8.other W9 (Ne.symm ne_a_b3)
  have OL9 := OL3.wr W9 g_a
  have KP9 : Keep h0 h9 [a] := KP3.wr W9 (Or.inl (by simp))
  obtain ⟨fs, hr, hrun, hended, hW, hsame⟩ := X9.leave (v := none) (fun _ => rfl)
  refine ⟨_, _, pre0 _ ?_, hrun, hended, _, _, rfl, ?_, ⟨_, rfl⟩, hW, hsame.mono (by decide) (by decide)⟩
  · show Steps p.tables e below (s₁.setTop (mkF m 0 #[.val (.ref a), .val (.int (64 : Int32))] [])) _
    refine XS.aloadN X0.here hx rfl (hb hby own_d_jdk_92_method_6_0) rfl rfl ?_
    refine XS.iloadN X0.here hx rfl (hb hby own_d_jdk_92_method_6_1) rfl ?_
    refine XS.iconst X0.here hx rfl (hb hby own_d_jdk_92_method_6_2) ?_
    refine XS.isub X0.here hx rfl (hb hby own_d_jdk_92_method_6_3) rfl ?_
    show Steps p.tables e below (s₁.setTop (mkF m 4 #[.val (.ref a), .val (.int (64 : Int32))] [(.int ((64 : Int32) - (1 : Int32))), (.ref a)])) _
    refine st2 _ ?_
    refine XS.iconst X2.here hx rfl (hb hby own_d_jdk_92_method_6_7) ?_
    refine XS.iadd X2.here hx rfl (hb hby own_d_jdk_92_method_6_8) rfl ?_
    refine st3 _ ?_
    show Steps p.tables e below (T3.setTop (mkF m 11 #[.val (.ref a), .val (.int (64 : Int32))] [(.ref b3), (.ref a)])) _
    refine st9 _ ?_
    exact X9.returnOut hx Bd.returns (hb hby own_d_jdk_92_method_6_14) hr
  · show rm_iw_Q Z a h0 n0 _ T9.heap _
    rw [e9]
    exact ⟨b3, k3, rfl, N9, KP9, sz3, f10, f11, f12, f13, f14⟩
theorem rm_bsi_ef (m : MethodId) (x0 : Addr) : entryFrame m #[(.ref x0)] 1 = mkF m 0 #[.val (.ref x0)] [] := by first | (simp [entryFrame, mkF, argsToLocals, Value.category]; done) | rfl
def rm_bsi_Q (Z : State) (a : Addr) (h0 : Heap) (n0 : Nat) (v : Option Value) (h : Heap) (L : List Loc) : Prop := ∃ (wd : Addr) (k : ClassId), v = none ∧ Fr n0 L ∧ Keep h0 h [a] ∧ h0.size ≤ wd ∧ Exa Z h a "java/util/BitSet" ∧ Fld Z h a "java/util/BitSet" "wordsInUse" "I" (.int (0 : Int32)) ∧ Fld Z h a "java/util/BitSet" "sizeIsSticky" "Z" (.int (0 : Int32)) ∧ Fld Z h a "java/util/BitSet" "words" "[J" (.ref wd) ∧ OwnLst Z h wd .long k [.long (0 : Int64)]
set_option maxRecDepth 65536 in
set_option maxHeartbeats 40000000 in
theorem rm_bsi (l : Launch) (Z : State) (a0 : Array Value) (hw : ∀ d ∈ tables_1, d.before a0 Z = true) (ws : List Jvm.Cond) (a : Addr) (h0 : Heap) (n0 : Nat) (Z0 : n0 ≤ h0.size) (OL : Old Z n0 h0) (E_a : Exa Z h0 a "java/util/BitSet") (F_wiu : Fld Z h0 a "java/util/BitSet" "wordsInUse" "I" (.int (0 : Int32))) (F_st : Fld Z h0 a "java/util/BitSet" "sizeIsSticky" "Z" (.int (0 : Int32))) (F_wo : Fld Z h0 a "java/util/BitSet" "words" "[J" .null) (g_a : n0 ≤ a) :
    MetFree l (⟨"java/util/BitSet", "<init>", "()V"⟩ : MethodName) (head1 (Jvm.Cond.code (⟨"java/util/BitSet", "<init>", "()V"⟩ : MethodName) jdk_92_method_4_code 1 none :: ws) ({ frames := 2, cells := 1, slots := 1, locals := 26 } : Room)) (fun a₀ U₀ => a₀ = #[(.ref a)] ∧ Z.Warmed39 U₀.vm ∧ U₀.heap = h0) (fun _ _ _ _ _ => True) (fun _ U₀ o₀ U₁ => ∃ v₀ L₀, o₀ = .returned v₀ ∧ rm_bsi_Q Z a h0 n0 v₀ U₁.heap L₀ ∧ FrameEnd U₀ o₀ U₁ L₀ ({ frames := 2, cells := 1, slots := 1, locals := 26 } : Room).cells ({ frames := 2, cells := 1, slots := 1, locals := 26 } : Room).slots) := by
  refine MetFree.of_bodySF (plainFor_of_name own_pn2) hisR ?_
  intro p e s m args below meth c s₁ Bd hml0 hP hK
  obtain ⟨rfl, hZ, hh⟩ := hP
  have hx := Bd.exec
  have hby := Bd.bytes
  have hml : c.maxLocals = 1 := hml0
  have hown : s.vm.findClass "java/util/BitSet" = some m.cls := findClass_of_methodNamed Bd.named
  have hnm := (name_of_methodNamed Bd.named Bd.method).1
  have X0 : Stand p l e ({ frames := 2, cells := 1, slots := 1, locals := 26 } : Room) s m #[(.ref a)] below meth c s₁ [] 0 0 := Stand.of_body Bd
  have e0 : s₁.heap = h0 := by rw [← hh, Bd.state]; rfl
  have N0 := Fr.nil n0
  have pre0 : ∀ t, Steps p.tables e below (s₁.setTop (mkF m 0 #[.val (.ref a)] [])) t → Steps p.tables e below (s₁.setTop (entryFrame m #[(.ref a)] 1)) t := fun t kk₀ => castTop (rm_bsi_ef m a) kk₀
  obtain ⟨T15, X15, e15, st15⟩ := initO X0 hx hZ hown (own_at hw 30 rfl) (own_at hw 8 rfl) (own_at hw 9 rfl) e0 (g := (mkF m 1 #[.val (.ref a)] [(.ref a)])) rfl (by rw [hml]; rfl) rfl (hb hby own_d_jdk_92_method_4_1) (by decide) (W := 0) (by show 2 * 0 + _ ≤ _; exact Nat.le_of_eq rfl) (by decide)
  obtain ⟨T16, h16, X16, e16, W16, st16⟩ := putF X15 hx hZ hown (host := "") (Or.inl (own_at hw 31 rfl)) Via.refl e15 F_wiu E_a (Or.inl (own_at hw 32 rfl)) (own_at hw 25 rfl) (ty := .int) (by decide) rfl rfl (g := (mkF m 6 #[.val (.ref a)] [(.int (0 : Int32)), (.ref a)])) rfl rfl (hb hby own_d_jdk_92_method_4_6)
  have N16 := Fr.snoc X16 N0 g_a
  have f17 := E_a.wr W16
  have f18 : Fld Z h16 a "java/util/BitSet" "wordsInUse" "I" (.int (0 : Int32)) := F_wiu.same W16
  have f19 := F_st.other W16 (Or.inr (slot_ne (Or.inl (own_at hw 34 rfl)) (Or.inl (own_at hw 32 rfl)) (by decide) (t := .boolean) (t' := .int) (by decide) (by decide)))
  have f20 := F_wo.other W16 (Or.inr (slot_ne (Or.inl (own_at hw 44 rfl)) (Or.inl (own_at hw 32 rfl)) (by decide) (t := (.array .long)) (t' := .int) (by decide) (by decide)))
  have OL16 := OL.wr W16 g_a
  have KP16 : Keep h0 h16 [a] := (Keep.refl _ _).wr W16 (Or.inl (by simp))
  obtain ⟨T21, h21, X21, e21, W21, st21⟩ := putFN X16 hx hZ hown (own_at hw 33 rfl) Via.refl e16 f19 f17 (Or.inl (own_at hw 34 rfl)) (own_at hw 25 rfl) (ty := .boolean) (v' := (.int (nar .boolean (0 : Int32)))) (by decide) rfl (fits_nar_bool _) (g := (mkF m 11 #[.val (.ref a)] [(.int (0 : Int32)), (.ref a)])) rfl rfl (hb hby own_d_jdk_92_method_4_11)
  have N21 := Fr.snoc X21 N16 g_a
  have f22 := f17.wr W21
  have f23 := f18.other W21 (Or.inr (slot_ne (Or.inl (own_at hw 32 rfl)) (Or.inl (own_at hw 34 rfl)) (by decide) (t := .int) (t' := .boolean) (by decide) (by decide)))
  have f24 : Fld Z h21 a "java/util/BitSet" "sizeIsSticky" "Z" (.int (0 : Int32)) := f19.same W21
  have f25 := f20.other W21 (Or.inr (slot_ne (Or.inl (own_at hw 44 rfl)) (Or.inl (own_at hw 34 rfl)) (by decide) (t := (.array .long)) (t' := .boolean) (by decide) (by decide)))
  have OL21 := OL16.wr W21 g_a
  have KP21 : Keep h0 h21 [a] := KP16.wr W21 (Or.inl (by simp))
  obtain ⟨cq26, q26, q26'⟩ := f22.cell
  obtain ⟨_, _, ⟨T26, L26, k26, n26⟩, -, X26, ⟨Lc26, hQ26, l26, y26, z26⟩, st26⟩ := X21.privateBack hx (y := (⟨"java/util/BitSet", "initWords", "(I)V"⟩ : MethodName)) hown (mvT hZ (own_at hw 35 rfl)) (mvT hZ (own_at hw 36 rfl)) (mvT hZ (own_at hw 38 rfl)) (Cond.privateMethod_at (mvP hZ (own_at hw 37 rfl) (args := #[]))) (mvT hZ (own_at hw 39 rfl)) (by decide) (backOf (W := 0) (rm_iw l Z a0 hw [] a h21 n0 (Nat.le_trans Z0 KP21.1) OL21 f22 f23 f24 f25 g_a) hZ (own_at hw 39 rfl) (own_at hw 26 rfl) (by decide) (by decide)) (g := (mkF m 17 #[.val (.ref a)] [(.int (64 : Int32)), (.ref a)])) rfl (by rw [hml]; rfl) (Steps.refl _) (a := a) (by rw [e21]; exact q26) q26' (argsL := [(.int (64 : Int32))]) (rest := []) (lenOf own_pd1 rfl) rfl (by show 2 * 0 + _ ≤ _; exact Nat.le_of_eq rfl) (hb hby own_d_jdk_92_method_4_17) (fun _ _ => ⟨rfl, e21, (by decide : 0 + 1 ≤ _), (by decide : 0 + 1 ≤ _)⟩)
  dsimp only [Pt.U, Pt.locs, Pt.cells, Pt.slots] at X26 l26 y26 z26 st26 hQ26
  subst l26 y26 z26
  obtain ⟨d26, kd26, rfl, Nq26, K26, le26, c26_0, c26_1, c26_2, c26_3, c26_4⟩ := hQ26
  have N26 := Fr.app N21 Nq26
  have ne_a_d26 : a ≠ d26 := own_ne_le f22.lt le26
  have sz_d26 : h0.size ≤ d26 := Nat.le_trans KP21.1 le26
  have gn_d26 : n0 ≤ d26 := Nat.le_trans Z0 sz_d26
  have OL26 := OL21.keep K26 (fun x hx => by
    simp only [List.mem_cons, List.not_mem_nil, or_false] at hx
    rcases hx with rfl
    · exact g_a)
  have KP26 : Keep h0 T26.heap [a] := KP21.trans K26 (fun x hx => by
    simp only [List.mem_cons, List.not_mem_nil, or_false] at hx
    rcases hx with rfl
    · exact Or.inl (by simp))
  obtain ⟨T27, h27, X27, e27, W27, st27⟩ := putFN X26 hx hZ hown (own_at hw 33 rfl) Via.refl rfl c26_2 c26_0 (Or.inl (own_at hw 34 rfl)) (own_at hw 25 rfl) (ty := .boolean) (v' := (.int (nar .boolean (0 : Int32)))) (by decide) rfl (fits_nar_bool _) (g := (mkF m 22 #[.val (.ref a)] [(.int (0 : Int32)), (.ref a)])) rfl rfl (hb hby own_d_jdk_92_method_4_22)
  have N27 := Fr.snoc X27 N26 g_a
  have f28 := c26_0.wr W27
  have f29 := c26_1.other W27 (Or.inr (slot_ne (Or.inl (own_at hw 32 rfl)) (Or.inl (own_at hw 34 rfl)) (by decide) (t := .int) (t' := .boolean) (by decide) (by decide)))
  have f30 : Fld Z h27 a "java/util/BitSet" "sizeIsSticky" "Z" (.int (0 : Int32)) := c26_2.same W27
  have f31 := c26_3.other W27 (Or.inr (slot_ne (Or.inl (own_at hw 44 rfl)) (Or.inl (own_at hw 34 rfl)) (by decide) (t := (.array .long)) (t' := .boolean) (by decide) (by decide)))
  have f32 := c26_4.other W27 (Ne.symm ne_a_d26)
  have OL27 := OL26.wr W27 g_a
  have KP27 : Keep h0 h27 [a] := KP26.wr W27 (Or.inl (by simp))
  obtain ⟨fs, hr, hrun, hended, hW, hsame⟩ := X27.leave (v := none) (fun _ => rfl)
  refine ⟨_, _, pre0 _ ?_, hrun, hended, _, _, rfl, ?_, ⟨_, rfl⟩, hW, hsame.mono (by decide) (by decide)⟩
  · show Steps p.tables e below (s₁.setTop (mkF m 0 #[.val (.ref a)] [])) _
    refine XS.aloadN X0.here hx rfl (hb hby own_d_jdk_92_method_4_0) rfl rfl ?_
    refine st15 _ ?_
    refine XS.aloadN X15.here hx rfl (hb hby own_d_jdk_92_method_4_4) rfl rfl ?_
    refine XS.iconst X15.here hx rfl (hb hby own_d_jdk_92_method_4_5) ?_
    show Steps p.tables e below (T15.setTop (mkF m 6 #[.val (.ref a)] [(.int (0 : Int32)), (.ref a)])) _
    refine st16 _ ?_
    refine XS.aloadN X16.here hx rfl (hb hby own_d_jdk_92_method_4_9) rfl rfl ?_
    refine XS.iconst X16.here hx rfl (hb hby own_d_jdk_92_method_4_10) ?_
    refine st21 _ ?_
    show Steps p.tables e below (T21.setTop (mkF m 14 #[.val (.ref a)] [])) _
    refine XS.aloadN X21.here hx rfl (hb hby own_d_jdk_92_method_4_14) rfl rfl ?_
    refine XS.bipush X21.here hx rfl (hb hby own_d_jdk_92_method_4_15) ?_
    refine st26.trans ?_
    refine XS.aloadN X26.here hx rfl (hb hby own_d_jdk_92_method_4_20) rfl rfl ?_
    show Steps p.tables e below (T26.setTop (mkF m 21 #[.val (.ref a)] [(.ref a)])) _
    refine XS.iconst X26.here hx rfl (hb hby own_d_jdk_92_method_4_21) ?_
    refine st27 _ ?_
    exact X27.returnOut hx Bd.returns (hb hby own_d_jdk_92_method_4_25) hr
  · show rm_bsi_Q Z a h0 n0 _ T27.heap _
    rw [e27]
    exact ⟨d26, kd26, rfl, N27, KP27, sz_d26, f28, f29, f30, f31, f32⟩
set_option maxRecDepth 65536 in
theorem own_fill_turn {p : Program} {l : Launch} {e : Env} {R : Room} {s : State} {m : MethodId} {args : Array Value} {below : List Frame} {meth : Method} {c : Code} {T0 : State} {locs : List Loc} {cells slots : Nat} {Z : State} {h0 : Heap} {n0 : Nat} (o0 : Addr) (xv iv Nv : Int32) (kd : ClassId) (ys : List Value) (X0 : Stand p l e R s m args below meth c T0 locs cells slots) (hx : p.tables.exec = Jvm.exec) (hZ : Z.Warmed39 s.vm) (hby : c.code = jdk_65_method_103_code) (hml : c.maxLocals = 4) (e0 : T0.heap = h0) (N0 : Fr n0 locs) (V : OwnLst Z h0 o0 .int kd ys) (hin : ∀ cl : Cell, cl.slots.toList = ys → ¬ (iv < 0 ∨ cl.slots.size ≤ iv.toNatClampNeg)) (g_o : n0 ≤ o0) (hlt : iv < Nv) :
    ∃ (T' : State) (h' : Heap) (locs' : List Loc), Stand p l e R s m args below meth c T' locs' cells slots ∧ T'.heap = h' ∧ Fr n0 locs' ∧ Keep h0 h' [o0] ∧ OwnLst Z h' o0 .int kd (ys.set iv.toNatClampNeg (.int xv)) ∧
      ∀ target, Steps p.tables e below (T'.setTop (mkF m 5 #[.val (.ref o0), .val (.int xv), .val (.int (iv + (1 : Int32))), .val (.int Nv)] [])) target → Steps p.tables e below (T0.setTop (mkF m 5 #[.val (.ref o0), .val (.int xv), .val (.int iv), .val (.int Nv)] [])) target := by
  obtain ⟨cl33, Ar33, q33, G33⟩ := id V
  obtain ⟨T33, h33, X33, e33, W33, st33⟩ := stI X0 hx hZ e0 Ar33 (j := iv) (hin cl33 G33) (g := (mkF m 13 #[.val (.ref o0), .val (.int xv), .val (.int iv), .val (.int Nv)] [(.int xv), (.int iv), (.ref o0)])) rfl rfl (hb hby own_d_jdk_65_method_103_13)
  have N33 := Fr.snoc X33 N0 g_o
  have V1 := own_lst_set Ar33 q33 G33 W33
  refine ⟨T33, _, _, X33, e33, N33, Keep.of_wr W33, V1, fun target kt => ?_⟩
  show Steps p.tables e below (T0.setTop (mkF m 5 #[.val (.ref o0), .val (.int xv), .val (.int iv), .val (.int Nv)] [])) _
  refine XS.iloadN X0.here hx rfl (hb hby own_d_jdk_65_method_103_5) rfl ?_
  refine XS.iloadN X0.here hx rfl (hb hby own_d_jdk_65_method_103_6) rfl ?_
  refine XS.icmpNo X0.here hx rfl (hb hby own_d_jdk_65_method_103_7) rfl (tlt hlt).2.1 ?_
  refine XS.aloadN X0.here hx rfl (hb hby own_d_jdk_65_method_103_10) rfl rfl ?_
  show Steps p.tables e below (T0.setTop (mkF m 11 #[.val (.ref o0), .val (.int xv), .val (.int iv), .val (.int Nv)] [(.ref o0)])) _
  refine XS.iloadN X0.here hx rfl (hb hby own_d_jdk_65_method_103_11) rfl ?_
  refine XS.iloadN X0.here hx rfl (hb hby own_d_jdk_65_method_103_12) rfl ?_
  refine st33 _ ?_
  refine XS.iinc X33.here hx rfl (hb hby own_d_jdk_65_method_103_14) rfl (l' := #[.val (.ref o0), .val (.int xv), .val (.int (iv + (1 : Int32))), .val (.int Nv)]) rfl ?_
  show Steps p.tables e below (T33.setTop (mkF m 17 #[.val (.ref o0), .val (.int xv), .val (.int (iv + (1 : Int32))), .val (.int Nv)] [])) _
  refine XS.goto X33.here hx rfl (pc0 := 17) (pc' := 5) rfl (hb hby own_d_jdk_65_method_103_17) (by decide) (by decide) ?_
  exact kt
theorem own_fill_out {p : Program} {l : Launch} {e : Env} {R : Room} {s : State} {m : MethodId} {args : Array Value} {below : List Frame} {meth : Method} {c : Code} {T0 : State} {locs : List Loc} {cells slots : Nat} {Z : State} {h0 : Heap} {n0 : Nat} (o0 : Addr) (xv iv Nv : Int32) (X0 : Stand p l e R s m args below meth c T0 locs cells slots) (hx : p.tables.exec = Jvm.exec) (hZ : Z.Warmed39 s.vm) (hby : c.code = jdk_65_method_103_code) (hml : c.maxLocals = 4) (e0 : T0.heap = h0) (N0 : Fr n0 locs) (hge : ¬ (iv < Nv)) : ∀ target, Steps p.tables e below (T0.setTop (mkF m 20 #[.val (.ref o0), .val (.int xv), .val (.int iv), .val (.int Nv)] [])) target → Steps p.tables e below (T0.setTop (mkF m 5 #[.val (.ref o0), .val (.int xv), .val (.int iv), .val (.int Nv)] [])) target := by
  intro target kt
  show Steps p.tables e below (T0.setTop (mkF m 5 #[.val (.ref o0), .val (.int xv), .val (.int iv), .val (.int Nv)] [])) _
  refine XS.iloadN X0.here hx rfl (hb hby own_d_jdk_65_method_103_5) rfl ?_
  refine XS.iloadN X0.here hx rfl (hb hby own_d_jdk_65_method_103_6) rfl ?_
  refine XS.icmpYes X0.here hx rfl (pc0 := 7) (pc' := 20) rfl (hb hby own_d_jdk_65_method_103_7) rfl (flt hge).2.1 (by decide) (by decide) ?_
  exact kt
theorem own_fill_loop {p : Program} {l : Launch} {e : Env} {R : Room} {s : State} {m : MethodId} {args : Array Value} {below : List Frame} {meth : Method} {c : Code} {cells slots : Nat} {Z : State} {n0 : Nat} (o0 : Addr) (xv Nv : Int32) (kd : ClassId) (N : Nat) (hN : Nv.toInt = (N : Int)) (hx : p.tables.exec = Jvm.exec) (hZ : Z.Warmed39 s.vm) (hby : c.code = jdk_65_method_103_code) (hml : c.maxLocals = 4) (g_o : n0 ≤ o0) :
    ∀ (k i : Nat) (iv : Int32) (T0 : State) (locs : List Loc) (h0 : Heap) (ys : List Value) (X0 : Stand p l e R s m args below meth c T0 locs cells slots) (e0 : T0.heap = h0) (N0 : Fr n0 locs) (V : OwnLst Z h0 o0 .int kd ys) (hlen : ys.length = N) (hi : iv.toInt = (i : Int)) (hk : i + k = N) (hys : ∀ j, j < i → ys[j]? = some (.int xv)),
    ∃ (T' : State) (h' : Heap) (locs' : List Loc) (jv : Int32) (zs : List Value), Stand p l e R s m args below meth c T' locs' cells slots ∧ T'.heap = h' ∧ Fr n0 locs' ∧ Keep h0 h' [o0] ∧ OwnLst Z h' o0 .int kd zs ∧ zs.length = N ∧ (∀ j, j < N → zs[j]? = some (.int xv)) ∧
      ∀ target, Steps p.tables e below (T'.setTop (mkF m 20 #[.val (.ref o0), .val (.int xv), .val (.int jv), .val (.int Nv)] [])) target → Steps p.tables e below (T0.setTop (mkF m 5 #[.val (.ref o0), .val (.int xv), .val (.int iv), .val (.int Nv)] [])) target := by
  intro k
  induction k with
  | zero =>
    intro i iv T0 locs h0 ys X0 e0 N0 V hlen hi hk hys
    have hge : ¬ (iv < Nv) := by rw [Int32.lt_iff_toInt_lt]; omega
    exact ⟨T0, h0, locs, iv, ys, X0, e0, N0, Keep.refl _ _, V, hlen, fun j hj => hys j (by omega), own_fill_out o0 xv iv Nv X0 hx hZ hby hml e0 N0 hge⟩
  | succ k ih =>
    intro i iv T0 locs h0 ys X0 e0 N0 V hlen hi hk hys
    have hlt : iv < Nv := by rw [Int32.lt_iff_toInt_lt]; omega
    have hr := rng32 Nv
    have hcl : iv.toNatClampNeg = i := by show iv.toInt.toNat = i; omega
    have hn0 : ¬ iv < 0 := by rw [Int32.lt_iff_toInt_lt, Int32.toInt_zero]; omega
    obtain ⟨T1, h1, locs1, X1, e1, N1, K1, V1, st1⟩ := own_fill_turn o0 xv iv Nv kd ys X0 hx hZ hby hml e0 N0 V (fun cl G q => by
      rcases q with q | q
      · exact hn0 q
      · have r : cl.slots.size = N := by rw [← hlen, ← G]; simp
        omega) g_o hlt
    rw [hcl] at V1
    have hi' : (iv + (1 : Int32)).toInt = ((i + 1 : Nat) : Int) := by
      have q1 := c_iadd iv (1 : Int32)
      have q2 := rng32 (iv + (1 : Int32))
      have q3 : (1 : Int32).toInt = 1 := by decide
      omega
    obtain ⟨T2, h2, locs2, jv, zs, X2, e2, N2, K2, V2, l2, a2, st2⟩ := ih (i + 1) (iv + (1 : Int32)) T1 locs1 h1 (ys.set i (.int xv)) X1 e1 N1 V1 (by simp [hlen]) hi' (by omega) (fun j hj => by
      by_cases q : j = i
      · rw [q, List.getElem?_set_self (by omega)]
      · rw [List.getElem?_set_ne (Ne.symm q)]; exact hys j (by omega))
    exact ⟨T2, h2, locs2, jv, zs, X2, e2, N2, K1.trans K2 (fun x hx' => Or.inl hx'), V2, l2, a2, fun target kt => st1 _ (st2 _ kt)⟩
theorem own_all_rep {zs : List Value} {N : Nat} {z : Value} (h1 : zs.length = N) (h2 : ∀ j, j < N → zs[j]? = some z) : zs = List.replicate N z := by
  apply List.ext_getElem?
  intro j
  by_cases q : j < N
  · rw [h2 j q, List.getElem?_replicate, if_pos q]
  · rw [List.getElem?_eq_none (by omega), List.getElem?_replicate, if_neg q]
theorem rm_fill_ef (m : MethodId) (x0 : Addr) (x1 : Int32) : entryFrame m #[(.ref x0), (.int x1)] 4 = mkF m 0 #[.val (.ref x0), .val (.int x1), .unset, .unset] [] := by first | (simp [entryFrame, mkF, argsToLocals, Value.category]; done) | rfl
def rm_fill_Q (Z : State) (da : Addr) (xv : Int32) (kd : ClassId) (xs : List Value) (h0 : Heap) (n0 : Nat) (v : Option Value) (h : Heap) (L : List Loc) : Prop := v = none ∧ Fr n0 L ∧ Keep h0 h [da] ∧ OwnLst Z h da .int kd (List.replicate 2048 (.int xv))
set_option maxRecDepth 65536 in
set_option maxHeartbeats 40000000 in
theorem rm_fill (l : Launch) (Z : State) (a0 : Array Value) (hw : ∀ d ∈ tables_1, d.before a0 Z = true) (ws : List Jvm.Cond) (da : Addr) (xv : Int32) (kd : ClassId) (xs : List Value) (h0 : Heap) (n0 : Nat) (Z0 : n0 ≤ h0.size) (Ld : OwnLst Z h0 da .int kd xs) (hlen : xs.length = 2048) (g_d : n0 ≤ da) :
    MetFree l (⟨"java/util/Arrays", "fill", "([II)V"⟩ : MethodName) (head1 (Jvm.Cond.code (⟨"java/util/Arrays", "fill", "([II)V"⟩ : MethodName) jdk_65_method_103_code 4 none :: ws) ({ frames := 0, cells := 0, slots := 0, locals := 0 } : Room)) (fun a₀ U₀ => a₀ = #[(.ref da), (.int xv)] ∧ Z.Warmed39 U₀.vm ∧ U₀.heap = h0) (fun _ _ _ _ _ => True) (fun _ U₀ o₀ U₁ => ∃ v₀ L₀, o₀ = .returned v₀ ∧ rm_fill_Q Z da xv kd xs h0 n0 v₀ U₁.heap L₀ ∧ FrameEnd U₀ o₀ U₁ L₀ ({ frames := 0, cells := 0, slots := 0, locals := 0 } : Room).cells ({ frames := 0, cells := 0, slots := 0, locals := 0 } : Room).slots) := by
  refine MetFree.of_bodySF (plainFor_of_name own_pn3) hisR ?_
  intro p e s m args below meth c s₁ Bd hml0 hP hK
  obtain ⟨rfl, hZ, hh⟩ := hP
  have hx := Bd.exec
  have hby := Bd.bytes
  have hml : c.maxLocals = 4 := hml0
  have hown : s.vm.findClass "java/util/Arrays" = some m.cls := findClass_of_methodNamed Bd.named
  have hnm := (name_of_methodNamed Bd.named Bd.method).1
  have X0 : Stand p l e ({ frames := 0, cells := 0, slots := 0, locals := 0 } : Room) s m #[(.ref da), (.int xv)] below meth c s₁ [] 0 0 := Stand.of_body Bd
  have e0 : s₁.heap = h0 := by rw [← hh, Bd.state]; rfl
  have N0 := Fr.nil n0
  have pre0 : ∀ t, Steps p.tables e below (s₁.setTop (mkF m 0 #[.val (.ref da), .val (.int xv), .unset, .unset] [])) t → Steps p.tables e below (s₁.setTop (entryFrame m #[(.ref da), (.int xv)] 4)) t := fun t kk₀ => castTop (rm_fill_ef m da xv) kk₀
  obtain ⟨cl34, Ar34, q34, G34⟩ := id Ld
  obtain ⟨TL, hL, locsL, jv, zs, XL, eL, NL, KL, VL, lenL, allL, stL⟩ := own_fill_loop da xv (2048 : Int32) kd 2048 (by decide) hx hZ hby hml g_d 2048 0 (0 : Int32) s₁ _ h0 xs X0 e0 N0 Ld hlen (by decide) rfl (fun j hj => absurd hj (Nat.not_lt_zero _))
  rw [own_all_rep lenL allL] at VL
  obtain ⟨fs, hr, hrun, hended, hW, hsame⟩ := XL.leave (v := none) (fun _ => rfl)
  refine ⟨_, _, pre0 _ ?_, hrun, hended, _, _, rfl, ?_, ⟨_, rfl⟩, hW, hsame.mono (by decide) (by decide)⟩
  · show Steps p.tables e below (s₁.setTop (mkF m 0 #[.val (.ref da), .val (.int xv), .unset, .unset] [])) _
    refine XS.iconst X0.here hx rfl (hb hby own_d_jdk_65_method_103_0) ?_
    refine XS.istoreN X0.here hx rfl (hb hby own_d_jdk_65_method_103_1) rfl (l' := #[.val (.ref da), .val (.int xv), .val (.int (0 : Int32)), .unset]) rfl ?_
    refine XS.aloadN X0.here hx rfl (hb hby own_d_jdk_65_method_103_2) rfl rfl ?_
    refine X0.arraylength hx (cell := cl34) (by rw [e0]; exact Ar34.1) (State.isArrayOf_alike hZ.alike Ar34.2.1) (g := (mkF m 3 #[.val (.ref da), .val (.int xv), .val (.int (0 : Int32)), .unset] [(.ref da)])) rfl (rest := []) rfl (hb hby own_d_jdk_65_method_103_3) _ ?_
    rw [own_len (z := (2048 : Int32)) G34 (by rw [hlen]; decide)]
    show Steps p.tables e below (s₁.setTop (mkF m 4 #[.val (.ref da), .val (.int xv), .val (.int (0 : Int32)), .unset] [(.int (2048 : Int32))])) _
    refine XS.istoreN X0.here hx rfl (hb hby own_d_jdk_65_method_103_4) rfl (l' := #[.val (.ref da), .val (.int xv), .val (.int (0 : Int32)), .val (.int (2048 : Int32))]) rfl ?_
    refine stL _ ?_
    exact XL.returnOut hx Bd.returns (hb hby own_d_jdk_65_method_103_20) hr
  · show rm_fill_Q Z da xv kd xs h0 n0 _ TL.heap _
    rw [eL]
    exact ⟨rfl, NL, KL, VL⟩
theorem rm_es_ef (m : MethodId) (x0 : Int32) : entryFrame m #[(.int x0)] 2 = mkF m 0 #[.val (.int x0), .unset] [] := by first | (simp [entryFrame, mkF, argsToLocals, Value.category]; done) | rfl
def rm_es_Q (Z : State)  (h0 : Heap) (n0 : Nat) (v : Option Value) (h : Heap) (L : List Loc) : Prop := ∃ (da : Addr) (k : ClassId), v = some (.ref da) ∧ Fr n0 L ∧ Keep h0 h [] ∧ h0.size ≤ da ∧ OwnLst Z h da .int k (List.replicate 2048 (.int (-1 : Int32)))
set_option maxRecDepth 65536 in
set_option maxHeartbeats 40000000 in
theorem rm_es (l : Launch) (Z : State) (a0 : Array Value) (hw : ∀ d ∈ tables_1, d.before a0 Z = true) (ws : List Jvm.Cond)  (h0 : Heap) (n0 : Nat) (Z0 : n0 ≤ h0.size) (OL : Old Z n0 h0) :
    MetFree l (⟨"com/example/orbitfold/orbitfold/StateIndex", "emptySlots", "(I)[I"⟩ : MethodName) (head1 (Jvm.Cond.code (⟨"com/example/orbitfold/orbitfold/StateIndex", "emptySlots", "(I)[I"⟩ : MethodName) prog_34_method_10_code 2 (some (.array .int)) :: ws) ({ frames := 1, cells := 1, slots := 2048, locals := 15 } : Room)) (fun a₀ U₀ => a₀ = #[(.int (2048 : Int32))] ∧ Z.Warmed39 U₀.vm ∧ U₀.heap = h0) (fun _ _ _ _ _ => True) (fun _ U₀ o₀ U₁ => ∃ v₀ L₀, o₀ = .returned v₀ ∧ rm_es_Q Z  h0 n0 v₀ U₁.heap L₀ ∧ FrameEnd U₀ o₀ U₁ L₀ ({ frames := 1, cells := 1, slots := 2048, locals := 15 } : Room).cells ({ frames := 1, cells := 1, slots := 2048, locals := 15 } : Room).slots) := by
  refine MetFree.of_bodySF (plainFor_of_name own_pn4) hisR ?_
  intro p e s m args below meth c s₁ Bd hml0 hP hK
  obtain ⟨rfl, hZ, hh⟩ := hP
  have hx := Bd.exec
  have hby := Bd.bytes
  have hml : c.maxLocals = 2 := hml0
  have hown : s.vm.findClass "com/example/orbitfold/orbitfold/StateIndex" = some m.cls := findClass_of_methodNamed Bd.named
  have hnm := (name_of_methodNamed Bd.named Bd.method).1
  have X0 : Stand p l e ({ frames := 1, cells := 1, slots := 2048, locals := 15 } : Room) s m #[(.int (2048 : Int32))] below meth c s₁ [] 0 0 := Stand.of_body Bd
  have e0 : s₁.heap = h0 := by rw [← hh, Bd.state]; rfl
  have N0 := Fr.nil n0
  have pre0 : ∀ t, Steps p.tables e below (s₁.setTop (mkF m 0 #[.val (.int (2048 : Int32)), .unset] [])) t → Steps p.tables e below (s₁.setTop (entryFrame m #[(.int (2048 : Int32))] 2)) t := fun t kk₀ => castTop (rm_es_ef m (2048 : Int32)) kk₀
  obtain ⟨T35, h35, k35, X35, e35, E35, A35, st35⟩ := newP X0 hx hZ (own_at hw 12 rfl) e0 (g := (mkF m 1 #[.val (.int (2048 : Int32)), .unset] [(.int (2048 : Int32))])) rfl (hb hby own_d_prog_34_method_10_1) rfl (by decide) (cap := 2048) (by decide) (by decide) (by decide) (by decide)
  obtain ⟨b35, g35⟩ : ∃ z, z = h0.size := ⟨_, rfl⟩
  rw [← g35] at A35 st35
  have sz35 : h0.size ≤ b35 := Nat.le_trans (Nat.le_refl _) (Nat.le_of_eq g35.symm)
  have gn35 : n0 ≤ b35 := Nat.le_trans Z0 sz35
  have OL35 := own_old_ext OL E35
  have KP35 : Keep h0 h35 [] := (Keep.refl _ _).ext E35
  have f36 : OwnLst Z h35 b35 .int k35 (List.replicate 2048 (.int (0 : Int32))) := own_lst_new A35
  obtain ⟨_, _, ⟨T37, L37, k37, n37⟩, -, X37, ⟨Lc37, hQ37, l37, y37, z37⟩, st37⟩ := Jvm.LawKit.callS X35 hx (y := (⟨"java/util/Arrays", "fill", "([II)V"⟩ : MethodName)) hown (mvT hZ (own_at hw 18 rfl)) (mvT hZ (own_at hw 19 rfl)) (mvT hZ (own_at hw 20 rfl)) (mvT hZ (own_at hw 21 rfl)) (by decide) (backOf (W := 0) (rm_fill l Z a0 hw [] b35 (-1 : Int32) k35 (List.replicate 2048 (.int (0 : Int32))) h35 n0 (Nat.le_trans Z0 KP35.1) f36 (by rw [List.length_replicate]) gn35) hZ (own_at hw 21 rfl) (own_at hw 20 rfl) (by decide) (by decide)) (g := (mkF m 6 #[.val (.int (2048 : Int32)), .val (.ref b35)] [(.int (-1 : Int32)), (.ref b35)])) rfl (by rw [hml]; rfl) (argsL := [(.ref b35), (.int (-1 : Int32))]) (rest := []) (lenOf own_pd2 rfl) rfl (by show 2 * 0 + _ ≤ _; exact Nat.le_of_eq rfl) (hb hby own_d_prog_34_method_10_6) (fun _ _ => ⟨rfl, e35, (by decide : 1 + 0 ≤ _), (by decide : 2048 + 0 ≤ _)⟩)
  dsimp only [Pt.U, Pt.locs, Pt.cells, Pt.slots] at X37 l37 y37 z37 st37 hQ37
  subst l37 y37 z37
  obtain ⟨rfl, Nq37, K37, c37_0⟩ := hQ37
  have N37 := Fr.app N0 Nq37
  have OL37 := OL35.keep K37 (fun x hx => by
    simp only [List.mem_cons, List.not_mem_nil, or_false] at hx
    rcases hx with rfl
    · exact gn35)
  have KP37 : Keep h0 T37.heap [] := KP35.trans K37 (fun x hx => by
    simp only [List.mem_cons, List.not_mem_nil, or_false] at hx
    rcases hx with rfl
    · exact Or.inr sz35)
  obtain ⟨fs, hr, hrun, hended, hW, hsame⟩ := X37.leave (v := some (.ref b35)) (fun h => by rw [Bd.returns] at h; cases h)
  refine ⟨_, _, pre0 _ ?_, hrun, hended, _, _, rfl, ?_, ⟨_, rfl⟩, hW, hsame.mono (by decide) (by decide)⟩
  · show Steps p.tables e below (s₁.setTop (mkF m 0 #[.val (.int (2048 : Int32)), .unset] [])) _
    refine XS.iloadN X0.here hx rfl (hb hby own_d_prog_34_method_10_0) rfl ?_
    refine st35 _ ?_
    refine XS.astoreN X35.here hx rfl (hb hby own_d_prog_34_method_10_3) rfl rfl (l' := #[.val (.int (2048 : Int32)), .val (.ref b35)]) rfl ?_
    refine XS.aloadN X35.here hx rfl (hb hby own_d_prog_34_method_10_4) rfl rfl ?_
    show Steps p.tables e below (T35.setTop (mkF m 5 #[.val (.int (2048 : Int32)), .val (.ref b35)] [(.ref b35)])) _
    refine XS.iconst X35.here hx rfl (hb hby own_d_prog_34_method_10_5) ?_
    refine st37 _ ?_
    refine XS.aloadN X37.here hx rfl (hb hby own_d_prog_34_method_10_9) rfl rfl ?_
    exact own_retA X37 hx (by first | rfl | decide) rfl Bd.returns (hb hby own_d_prog_34_method_10_10) hr
  · show rm_es_Q Z  h0 n0 _ T37.heap _
    exact ⟨b35, k35, rfl, N37, KP37, sz35, c37_0⟩
theorem rm_si_ef (m : MethodId) (x0 : Addr) : entryFrame m #[(.ref x0)] 1 = mkF m 0 #[.val (.ref x0)] [] := by first | (simp [entryFrame, mkF, argsToLocals, Value.category]; done) | rfl
def rm_si_Q (Z : State) (a : Addr) (h0 : Heap) (n0 : Nat) (v : Option Value) (h : Heap) (L : List Loc) : Prop := ∃ (kA sA tA bs wA : Addr) (ck cs ct cw : ClassId), v = none ∧ Fr n0 L ∧ Keep h0 h [a] ∧ (h0.size ≤ kA ∧ h0.size ≤ sA ∧ h0.size ≤ tA ∧ h0.size ≤ bs ∧ h0.size ≤ wA) ∧ OwnIdx Z h a kA sA tA bs wA ck cs ct cw [] (List.replicate 1024 (.int (0 : Int32))) (List.replicate 2048 (.int (-1 : Int32))) (0 : Int32) (0 : Int32) (0 : Int32) (0 : Int64) ∧ OwnNe a kA sA tA bs wA
set_option maxRecDepth 65536 in
set_option maxHeartbeats 40000000 in
theorem rm_si (l : Launch) (Z : State) (a0 : Array Value) (hw : ∀ d ∈ tables_1, d.before a0 Z = true) (ws : List Jvm.Cond) (a : Addr) (h0 : Heap) (n0 : Nat) (Z0 : n0 ≤ h0.size) (OL : Old Z n0 h0) (E_a : Exa Z h0 a "com/example/orbitfold/orbitfold/StateIndex") (F_keys : Fld Z h0 a "com/example/orbitfold/orbitfold/StateIndex" "keys" "[J" .null) (F_starts : Fld Z h0 a "com/example/orbitfold/orbitfold/StateIndex" "starts" "[I" .null) (F_slots : Fld Z h0 a "com/example/orbitfold/orbitfold/StateIndex" "slots" "[I" .null) (F_appended : Fld Z h0 a "com/example/orbitfold/orbitfold/StateIndex" "appended" "Ljava/util/BitSet;" .null) (F_size : Fld Z h0 a "com/example/orbitfold/orbitfold/StateIndex" "size" "I" (.int (0 : Int32))) (F_searchable : Fld Z h0 a "com/example/orbitfold/orbitfold/StateIndex" "searchable" "I" (.int (0 : Int32))) (g_a : n0 ≤ a) :
    MetFree l (⟨"com/example/orbitfold/orbitfold/StateIndex", "<init>", "()V"⟩ : MethodName) (head1 (Jvm.Cond.code (⟨"com/example/orbitfold/orbitfold/StateIndex", "<init>", "()V"⟩ : MethodName) prog_34_method_1_code 1 none :: ws) ({ frames := 3, cells := 5, slots := 3076, locals := 40 } : Room)) (fun a₀ U₀ => a₀ = #[(.ref a)] ∧ Z.Warmed39 U₀.vm ∧ U₀.heap = h0) (fun _ _ _ _ _ => True) (fun _ U₀ o₀ U₁ => ∃ v₀ L₀, o₀ = .returned v₀ ∧ rm_si_Q Z a h0 n0 v₀ U₁.heap L₀ ∧ FrameEnd U₀ o₀ U₁ L₀ ({ frames := 3, cells := 5, slots := 3076, locals := 40 } : Room).cells ({ frames := 3, cells := 5, slots := 3076, locals := 40 } : Room).slots) := by
  refine MetFree.of_bodySF (plainFor_of_name own_pn4) hisR ?_
  intro p e s m args below meth c s₁ Bd hml0 hP hK
  obtain ⟨rfl, hZ, hh⟩ := hP
  have hx := Bd.exec
  have hby := Bd.bytes
  have hml : c.maxLocals = 1 := hml0
  have hown : s.vm.findClass "com/example/orbitfold/orbitfold/StateIndex" = some m.cls := findClass_of_methodNamed Bd.named
  have hnm := (name_of_methodNamed Bd.named Bd.method).1
  have X0 : Stand p l e ({ frames := 3, cells := 5, slots := 3076, locals := 40 } : Room) s m #[(.ref a)] below meth c s₁ [] 0 0 := Stand.of_body Bd
  have e0 : s₁.heap = h0 := by rw [← hh, Bd.state]; rfl
  have N0 := Fr.nil n0
  have pre0 : ∀ t, Steps p.tables e below (s₁.setTop (mkF m 0 #[.val (.ref a)] [])) t → Steps p.tables e below (s₁.setTop (entryFrame m #[(.ref a)] 1)) t := fun t kk₀ => castTop (rm_si_ef m a) kk₀
  obtain ⟨T38, X38, e38, st38⟩ := initO X0 hx hZ hown (own_at hw 7 rfl) (own_at hw 8 rfl) (own_at hw 9 rfl) e0 (g := (mkF m 1 #[.val (.ref a)] [(.ref a)])) rfl (by rw [hml]; rfl) rfl (hb hby own_d_prog_34_method_1_1) (by decide) (W := 0) (by show 2 * 0 + _ ≤ _; exact Nat.le_of_eq rfl) (by decide)
  obtain ⟨T39, h39, k39, X39, e39, E39, A39, st39⟩ := newP X38 hx hZ (own_at hw 0 rfl) e38 (g := (mkF m 6 #[.val (.ref a)] [(.int (0 : Int32)), (.ref a)])) rfl (hb hby own_d_prog_34_method_1_6) rfl (by decide) (cap := 0) (by decide) (by decide) (by decide) (by decide)
  obtain ⟨b39, g39⟩ : ∃ z, z = h0.size := ⟨_, rfl⟩
  rw [← g39] at A39 st39
  have ne_a_b39 : a ≠ b39 := own_ne_lt E_a.lt g39
  have sz39 : h0.size ≤ b39 := Nat.le_trans (Nat.le_refl _) (Nat.le_of_eq g39.symm)
  have gn39 : n0 ≤ b39 := Nat.le_trans Z0 sz39
  have f40 := E_a.ext E39
  have f41 := F_keys.ext E39
  have f42 := F_starts.ext E39
  have f43 := F_slots.ext E39
  have f44 := F_appended.ext E39
  have f45 := F_size.ext E39
  have f46 := F_searchable.ext E39
  have OL39 := own_old_ext OL E39
  have KP39 : Keep h0 h39 [a] := (Keep.refl _ _).ext E39
  have f47 : OwnLst Z h39 b39 .long k39 [] := own_lst_new A39
  obtain ⟨T48, h48, X48, e48, W48, st48⟩ := putF X39 hx hZ hown (host := "") (Or.inl (own_at hw 10 rfl)) Via.refl e39 f41 f40 (Or.inl (own_at hw 11 rfl)) (own_at hw 2 rfl) (ty := (.array .long)) (by decide) rfl rfl (g := (mkF m 8 #[.val (.ref a)] [(.ref b39), (.ref a)])) rfl rfl (hb hby own_d_prog_34_method_1_8)
  have N48 := Fr.snoc X48 N0 g_a
  have f49 := f40.wr W48
  have f50 : Fld Z h48 a "com/example/orbitfold/orbitfold/StateIndex" "keys" "[J" (.ref b39) := f41.same W48
  have f51 := f42.other W48 (Or.inr (slot_ne (Or.inl (own_at hw 14 rfl)) (Or.inl (own_at hw 11 rfl)) (by decide) (t := (.array .int)) (t' := (.array .long)) (by decide) (by decide)))
  have f52 := f43.other W48 (Or.inr (slot_ne (Or.inl (own_at hw 23 rfl)) (Or.inl (own_at hw 11 rfl)) (by decide) (t := (.array .int)) (t' := (.array .long)) (by decide) (by decide)))
  have f53 := f44.other W48 (Or.inr (slot_ne (Or.inr (own_at hw 46 rfl)) (Or.inl (own_at hw 11 rfl)) (by decide) (t := (.object "java/util/BitSet")) (t' := (.array .long)) (by decide) (by decide)))
  have f54 := f45.other W48 (Or.inr (slot_ne (Or.inl (own_at hw 78 rfl)) (Or.inl (own_at hw 11 rfl)) (by decide) (t := .int) (t' := (.array .long)) (by decide) (by decide)))
  have f55 := f46.other W48 (Or.inr (slot_ne (Or.inl (own_at hw 110 rfl)) (Or.inl (own_at hw 11 rfl)) (by decide) (t := .int) (t' := (.array .long)) (by decide) (by decide)))
  have f56 := f47.other W48 (Ne.symm ne_a_b39)
  have OL48 := OL39.wr W48 g_a
  have KP48 : Keep h0 h48 [a] := KP39.wr W48 (Or.inl (by simp))
  obtain ⟨T57, h57, k57, X57, e57, E57, A57, st57⟩ := newP X48 hx hZ (own_at hw 12 rfl) e48 (g := (mkF m 15 #[.val (.ref a)] [(.int (1024 : Int32)), (.ref a)])) rfl (hb hby own_d_prog_34_method_1_15) rfl (by decide) (cap := 1024) (by decide) (by decide) (by decide) (by decide)
  obtain ⟨b57, g57⟩ : ∃ z, z = h48.size := ⟨_, rfl⟩
  rw [← g57] at A57 st57
  have ne_a_b57 : a ≠ b57 := own_ne_lt f49.lt g57
  have ne_b39_b57 : b39 ≠ b57 := own_ne_lt f56.lt g57
  have sz57 : h0.size ≤ b57 := Nat.le_trans KP48.1 (Nat.le_of_eq g57.symm)
  have gn57 : n0 ≤ b57 := Nat.le_trans Z0 sz57
  have f58 := f49.ext E57
  have f59 := f50.ext E57
  have f60 := f51.ext E57
  have f61 := f52.ext E57
  have f62 := f53.ext E57
  have f63 := f54.ext E57
  have f64 := f55.ext E57
  have f65 := f56.ext E57
  have OL57 := own_old_ext OL48 E57
  have KP57 : Keep h0 h57 [a] := KP48.ext E57
  have f66 : OwnLst Z h57 b57 .int k57 (List.replicate 1024 (.int (0 : Int32))) := own_lst_new A57
  obtain ⟨T67, h67, X67, e67, W67, st67⟩ := putF X57 hx hZ hown (host := "") (Or.inl (own_at hw 13 rfl)) Via.refl e57 f60 f58 (Or.inl (own_at hw 14 rfl)) (own_at hw 2 rfl) (ty := (.array .int)) (by decide) rfl rfl (g := (mkF m 17 #[.val (.ref a)] [(.ref b57), (.ref a)])) rfl rfl (hb hby own_d_prog_34_method_1_17)
  have N67 := Fr.snoc X67 N48 g_a
  have f68 := f58.wr W67
  have f69 := f59.other W67 (Or.inr (slot_ne (Or.inl (own_at hw 11 rfl)) (Or.inl (own_at hw 14 rfl)) (by decide) (t := (.array .long)) (t' := (.array .int)) (by decide) (by decide)))
  have f70 : Fld Z h67 a "com/example/orbitfold/orbitfold/StateIndex" "starts" "[I" (.ref b57) := f60.same W67
  have f71 := f61.other W67 (Or.inr (slot_ne (Or.inl (own_at hw 23 rfl)) (Or.inl (own_at hw 14 rfl)) (by decide) (t := (.array .int)) (t' := (.array .int)) (by decide) (by decide)))
  have f72 := f62.other W67 (Or.inr (slot_ne (Or.inr (own_at hw 46 rfl)) (Or.inl (own_at hw 14 rfl)) (by decide) (t := (.object "java/util/BitSet")) (t' := (.array .int)) (by decide) (by decide)))
  have f73 := f63.other W67 (Or.inr (slot_ne (Or.inl (own_at hw 78 rfl)) (Or.inl (own_at hw 14 rfl)) (by decide) (t := .int) (t' := (.array .int)) (by decide) (by decide)))
  have f74 := f64.other W67 (Or.inr (slot_ne (Or.inl (own_at hw 110 rfl)) (Or.inl (own_at hw 14 rfl)) (by decide) (t := .int) (t' := (.array .int)) (by decide) (by decide)))
  have f75 := f65.other W67 (Ne.symm ne_a_b39)
  have f76 := f66.other W67 (Ne.symm ne_a_b57)
  have OL67 := OL57.wr W67 g_a
  have KP67 : Keep h0 h67 [a] := KP57.wr W67 (Or.inl (by simp))
  obtain ⟨_, _, ⟨T77, L77, k77, n77⟩, -, X77, ⟨Lc77, hQ77, l77, y77, z77⟩, st77⟩ := Jvm.LawKit.callS X67 hx (y := (⟨"com/example/orbitfold/orbitfold/StateIndex", "emptySlots", "(I)[I"⟩ : MethodName)) hown (mvT hZ (own_at hw 15 rfl)) (mvT hZ (own_at hw 16 rfl)) (mvT hZ (own_at hw 3 rfl)) (mvT hZ (own_at hw 17 rfl)) (by decide) (backOf (W := 1) (rm_es l Z a0 hw [] h67 n0 (Nat.le_trans Z0 KP67.1) OL67) hZ (own_at hw 17 rfl) (own_at hw 3 rfl) (by decide) (by decide)) (g := (mkF m 24 #[.val (.ref a)] [(.int (2048 : Int32)), (.ref a)])) rfl (by rw [hml]; rfl) (argsL := [(.int (2048 : Int32))]) (rest := [(.ref a)]) (lenOf own_pd3 rfl) rfl (by show 2 * 0 + _ ≤ _; exact Nat.le_of_eq rfl) (hb hby own_d_prog_34_method_1_24) (fun _ _ => ⟨rfl, e67, (by decide : 2 + 1 ≤ _), (by decide : 1024 + 2048 ≤ _)⟩)
  dsimp only [Pt.U, Pt.locs, Pt.cells, Pt.slots] at X77 l77 y77 z77 st77 hQ77
  subst l77 y77 z77
  obtain ⟨d77, kd77, rfl, Nq77, K77, le77, c77_0⟩ := hQ77
  have N77 := Fr.app N67 Nq77
  have ne_a_d77 : a ≠ d77 := own_ne_le f68.lt le77
  have ne_b39_d77 : b39 ≠ d77 := own_ne_le f75.lt le77
  have ne_b57_d77 : b57 ≠ d77 := own_ne_le f76.lt le77
  have sz_d77 : h0.size ≤ d77 := Nat.le_trans KP67.1 le77
  have gn_d77 : n0 ≤ d77 := Nat.le_trans Z0 sz_d77
  have f78 := f68.keep K77
  have f79 := f69.keep K77 (by simp)
  have f80 := f70.keep K77 (by simp)
  have f81 := f71.keep K77 (by simp)
  have f82 := f72.keep K77 (by simp)
  have f83 := f73.keep K77 (by simp)
  have f84 := f74.keep K77 (by simp)
  have f85 := f75.keep K77 (by simp)
  have f86 := f76.keep K77 (by simp)
  have OL77 := OL67.keep K77 (fun x hx => by simp at hx)
  have KP77 : Keep h0 T77.heap [a] := KP67.trans K77 (fun x hx => by simp at hx)
  obtain ⟨T87, h87, X87, e87, W87, st87⟩ := putF X77 hx hZ hown (host := "") (Or.inl (own_at hw 22 rfl)) Via.refl rfl f81 f78 (Or.inl (own_at hw 23 rfl)) (own_at hw 2 rfl) (ty := (.array .int)) (by decide) rfl rfl (g := (mkF m 27 #[.val (.ref a)] [(.ref d77), (.ref a)])) rfl rfl (hb hby own_d_prog_34_method_1_27)
  have N87 := Fr.snoc X87 N77 g_a
  have f88 := f78.wr W87
  have f89 := f79.other W87 (Or.inr (slot_ne (Or.inl (own_at hw 11 rfl)) (Or.inl (own_at hw 23 rfl)) (by decide) (t := (.array .long)) (t' := (.array .int)) (by decide) (by decide)))
  have f90 := f80.other W87 (Or.inr (slot_ne (Or.inl (own_at hw 14 rfl)) (Or.inl (own_at hw 23 rfl)) (by decide) (t := (.array .int)) (t' := (.array .int)) (by decide) (by decide)))
  have f91 : Fld Z h87 a "com/example/orbitfold/orbitfold/StateIndex" "slots" "[I" (.ref d77) := f81.same W87
  have f92 := f82.other W87 (Or.inr (slot_ne (Or.inr (own_at hw 46 rfl)) (Or.inl (own_at hw 23 rfl)) (by decide) (t := (.object "java/util/BitSet")) (t' := (.array .int)) (by decide) (by decide)))
  have f93 := f83.other W87 (Or.inr (slot_ne (Or.inl (own_at hw 78 rfl)) (Or.inl (own_at hw 23 rfl)) (by decide) (t := .int) (t' := (.array .int)) (by decide) (by decide)))
  have f94 := f84.other W87 (Or.inr (slot_ne (Or.inl (own_at hw 110 rfl)) (Or.inl (own_at hw 23 rfl)) (by decide) (t := .int) (t' := (.array .int)) (by decide) (by decide)))
  have f95 := f85.other W87 (Ne.symm ne_a_b39)
  have f96 := f86.other W87 (Ne.symm ne_a_b57)
  have f97 := c77_0.other W87 (Ne.symm ne_a_d77)
  have OL87 := OL77.wr W87 g_a
  have KP87 : Keep h0 h87 [a] := KP77.wr W87 (Or.inl (by simp))
  obtain ⟨T98, h98, X98, e98, E98, A98, D98, -, st98⟩ := newO X87 hx hZ hown (own_at hw 24 rfl) (own_at hw 25 rfl) (own_at hw 26 rfl) e87 (g := (mkF m 31 #[.val (.ref a)] [(.ref a)])) rfl (hb hby own_d_prog_34_method_1_31) (by decide) (by decide)
  obtain ⟨b98, g98⟩ : ∃ z, z = h87.size := ⟨_, rfl⟩
  rw [← g98] at A98 D98 st98
  have ne_a_b98 : a ≠ b98 := own_ne_lt f88.lt g98
  have ne_b39_b98 : b39 ≠ b98 := own_ne_lt f95.lt g98
  have ne_b57_b98 : b57 ≠ b98 := own_ne_lt f96.lt g98
  have ne_d77_b98 : d77 ≠ b98 := own_ne_lt f97.lt g98
  have sz98 : h0.size ≤ b98 := Nat.le_trans KP87.1 (Nat.le_of_eq g98.symm)
  have gn98 : n0 ≤ b98 := Nat.le_trans Z0 sz98
  have f99 := f88.ext E98
  have f100 := f89.ext E98
  have f101 := f90.ext E98
  have f102 := f91.ext E98
  have f103 := f92.ext E98
  have f104 := f93.ext E98
  have f105 := f94.ext E98
  have f106 := f95.ext E98
  have f107 := f96.ext E98
  have f108 := f97.ext E98
  have OL98 := own_old_ext OL87 E98
  have KP98 : Keep h0 h98 [a] := KP87.ext E98
  have F_wordsInUse_b98 : Fld Z h98 b98 "java/util/BitSet" "wordsInUse" "I" (.int (0 : Int32)) := D98 (Or.inl (own_at hw 32 rfl)) (ty := .int) (by decide)
  have F_sizeIsSticky_b98 : Fld Z h98 b98 "java/util/BitSet" "sizeIsSticky" "Z" (.int (0 : Int32)) := D98 (Or.inl (own_at hw 34 rfl)) (ty := .boolean) (by decide)
  have F_words_b98 : Fld Z h98 b98 "java/util/BitSet" "words" "[J" .null := D98 (Or.inl (own_at hw 44 rfl)) (ty := (.array .long)) (by decide)
  obtain ⟨_, _, ⟨T109, L109, k109, n109⟩, -, X109, ⟨Lc109, hQ109, l109, y109, z109⟩, st109⟩ := X98.specialBack hx (y := (⟨"java/util/BitSet", "<init>", "()V"⟩ : MethodName)) rfl hown (mvT hZ (own_at hw 27 rfl)) (mvT hZ (own_at hw 28 rfl)) (mvT hZ (own_at hw 29 rfl)) (by decide) (backOf (W := 2) (rm_bsi l Z a0 hw [] b98 h98 n0 (Nat.le_trans Z0 KP98.1) OL98 A98 F_wordsInUse_b98 F_sizeIsSticky_b98 F_words_b98 gn98) hZ (own_at hw 29 rfl) (own_at hw 26 rfl) (by decide) (by decide)) (g := (mkF m 35 #[.val (.ref a)] [(.ref b98), (.ref b98), (.ref a)])) rfl (by rw [hml]; rfl) (Steps.refl _) (a := b98) (argsL := []) (rest := [(.ref b98), (.ref a)]) (lenOf own_pd4 rfl) rfl (by show 2 * 0 + _ ≤ _; exact Nat.le_of_eq rfl) (hb hby own_d_prog_34_method_1_35) (fun _ _ => ⟨rfl, e98, (by decide : 4 + 1 ≤ _), (by decide : 3075 + 1 ≤ _)⟩)
  dsimp only [Pt.U, Pt.locs, Pt.cells, Pt.slots] at X109 l109 y109 z109 st109 hQ109
  subst l109 y109 z109
  obtain ⟨d109, kd109, rfl, Nq109, K109, le109, c109_0, c109_1, c109_2, c109_3, c109_4⟩ := hQ109
  have N109 := Fr.app N87 Nq109
  have ne_a_d109 : a ≠ d109 := own_ne_le f99.lt le109
  have ne_b39_d109 : b39 ≠ d109 := own_ne_le f106.lt le109
  have ne_b57_d109 : b57 ≠ d109 := own_ne_le f107.lt le109
  have ne_d77_d109 : d77 ≠ d109 := own_ne_le f108.lt le109
  have ne_b98_d109 : b98 ≠ d109 := own_ne_le A98.lt le109
  have sz_d109 : h0.size ≤ d109 := Nat.le_trans KP98.1 le109
  have gn_d109 : n0 ≤ d109 := Nat.le_trans Z0 sz_d109
  have f110 := f99.keep K109
  have f111 := f100.keep K109 (by simp [ne_a_b98])
  have f112 := f101.keep K109 (by simp [ne_a_b98])
  have f113 := f102.keep K109 (by simp [ne_a_b98])
  have f114 := f103.keep K109 (by simp [ne_a_b98])
  have f115 := f104.keep K109 (by simp [ne_a_b98])
  have f116 := f105.keep K109 (by simp [ne_a_b98])
  have f117 := f106.keep K109 (by simp [ne_b39_b98])
  have f118 := f107.keep K109 (by simp [ne_b57_b98])
  have f119 := f108.keep K109 (by simp [ne_d77_b98])
  have OL109 := OL98.keep K109 (fun x hx => by
    simp only [List.mem_cons, List.not_mem_nil, or_false] at hx
    rcases hx with rfl
    · exact gn98)
  have KP109 : Keep h0 T109.heap [a] := KP98.trans K109 (fun x hx => by
    simp only [List.mem_cons, List.not_mem_nil, or_false] at hx
    rcases hx with rfl
    · exact Or.inr sz98)
  obtain ⟨T120, h120, X120, e120, W120, st120⟩ := putF X109 hx hZ hown (host := "") (Or.inl (own_at hw 45 rfl)) Via.refl rfl f114 f110 (Or.inr ⟨(own_at hw 46 rfl), rfl, hnm⟩) (own_at hw 2 rfl) (ty := (.object "java/util/BitSet")) (by decide) rfl rfl (g := (mkF m 38 #[.val (.ref a)] [(.ref b98), (.ref a)])) rfl rfl (hb hby own_d_prog_34_method_1_38)
  have N120 := Fr.snoc X120 N109 g_a
  have f121 := f110.wr W120
  have f122 := f111.other W120 (Or.inr (slot_ne (Or.inl (own_at hw 11 rfl)) (Or.inr (own_at hw 46 rfl)) (by decide) (t := (.array .long)) (t' := (.object "java/util/BitSet")) (by decide) (by decide)))
  have f123 := f112.other W120 (Or.inr (slot_ne (Or.inl (own_at hw 14 rfl)) (Or.inr (own_at hw 46 rfl)) (by decide) (t := (.array .int)) (t' := (.object "java/util/BitSet")) (by decide) (by decide)))
  have f124 := f113.other W120 (Or.inr (slot_ne (Or.inl (own_at hw 23 rfl)) (Or.inr (own_at hw 46 rfl)) (by decide) (t := (.array .int)) (t' := (.object "java/util/BitSet")) (by decide) (by decide)))
  have f125 : Fld Z h120 a "com/example/orbitfold/orbitfold/StateIndex" "appended" "Ljava/util/BitSet;" (.ref b98) := f114.same W120
  have f126 := f115.other W120 (Or.inr (slot_ne (Or.inl (own_at hw 78 rfl)) (Or.inr (own_at hw 46 rfl)) (by decide) (t := .int) (t' := (.object "java/util/BitSet")) (by decide) (by decide)))
  have f127 := f116.other W120 (Or.inr (slot_ne (Or.inl (own_at hw 110 rfl)) (Or.inr (own_at hw 46 rfl)) (by decide) (t := .int) (t' := (.object "java/util/BitSet")) (by decide) (by decide)))
  have f128 := f117.other W120 (Ne.symm ne_a_b39)
  have f129 := f118.other W120 (Ne.symm ne_a_b57)
  have f130 := f119.other W120 (Ne.symm ne_a_d77)
  have f131 := c109_0.wr W120
  have f132 := c109_1.other W120 (Or.inl (Ne.symm ne_a_b98))
  have f133 := c109_2.other W120 (Or.inl (Ne.symm ne_a_b98))
  have f134 := c109_3.other W120 (Or.inl (Ne.symm ne_a_b98))
  have f135 := c109_4.other W120 (Ne.symm ne_a_d109)
  have OL120 := OL109.wr W120 g_a
  have KP120 : Keep h0 h120 [a] := KP109.wr W120 (Or.inl (by simp))
  obtain ⟨fs, hr, hrun, hended, hW, hsame⟩ := X120.leave (v := none) (fun _ => rfl)
  refine ⟨_, _, pre0 _ ?_, hrun, hended, _, _, rfl, ?_, ⟨_, rfl⟩, hW, hsame.mono (by decide) (by decide)⟩
  · show Steps p.tables e below (s₁.setTop (mkF m 0 #[.val (.ref a)] [])) _
    refine XS.aloadN X0.here hx rfl (hb hby own_d_prog_34_method_1_0) rfl rfl ?_
    refine st38 _ ?_
    refine XS.aloadN X38.here hx rfl (hb hby own_d_prog_34_method_1_4) rfl rfl ?_
    refine XS.iconst X38.here hx rfl (hb hby own_d_prog_34_method_1_5) ?_
    show Steps p.tables e below (T38.setTop (mkF m 6 #[.val (.ref a)] [(.int (0 : Int32)), (.ref a)])) _
    refine st39 _ ?_
    refine st48 _ ?_
    refine XS.aloadN X48.here hx rfl (hb hby own_d_prog_34_method_1_11) rfl rfl ?_
    refine XS.sipush X48.here hx rfl (hb hby own_d_prog_34_method_1_12) ?_
    show Steps p.tables e below (T48.setTop (mkF m 15 #[.val (.ref a)] [(.int (1024 : Int32)), (.ref a)])) _
    refine st57 _ ?_
    refine st67 _ ?_
    refine XS.aloadN X67.here hx rfl (hb hby own_d_prog_34_method_1_20) rfl rfl ?_
    refine XS.sipush X67.here hx rfl (hb hby own_d_prog_34_method_1_21) ?_
    show Steps p.tables e below (T67.setTop (mkF m 24 #[.val (.ref a)] [(.int (2048 : Int32)), (.ref a)])) _
    refine st77 _ ?_
    refine st87 _ ?_
    refine XS.aloadN X87.here hx rfl (hb hby own_d_prog_34_method_1_30) rfl rfl ?_
    refine st98 _ ?_
    show Steps p.tables e below (T98.setTop (mkF m 34 #[.val (.ref a)] [(.ref b98), (.ref a)])) _
    refine XS.dup X98.here hx rfl (hb hby own_d_prog_34_method_1_34) rfl rfl ?_
    refine st109.trans ?_
    refine st120 _ ?_
    exact X120.returnOut hx Bd.returns (hb hby own_d_prog_34_method_1_41) hr
  · show rm_si_Q Z a h0 n0 _ T120.heap _
    rw [e120]
    exact ⟨b39, b57, d77, b98, d109, k39, k57, kd77, kd109, rfl, N120, KP120, ⟨sz39, sz57, sz_d77, sz98, sz_d109⟩, ⟨f121, f122, f123, f124, f125, f126, f127, f131, f132, f133, f134, f128, f129, f130, f135⟩, ⟨ne_a_b39, ne_a_b57, ne_a_d77, ne_a_b98, ne_a_d109, ne_b39_b57, ne_b39_d77, ne_b39_b98, ne_b39_d109, ne_b57_d77, ne_b57_b98, ne_b57_d109, ne_d77_b98, ne_d77_d109, ne_b98_d109⟩⟩
theorem rm_hash_ef (m : MethodId) (x0 : Addr) (x1 : Int32) (x2 : Int32) : entryFrame m #[(.ref x0), (.int x1), (.int x2)] 6 = mkF m 0 #[.val (.ref x0), .val (.int x1), .val (.int x2), .unset, .unset, .unset] [] := by first | (simp [entryFrame, mkF, argsToLocals, Value.category]; done) | rfl
def rm_hash_Q (Z : State) (src : Addr) (cS : ClassId) (x0 : Int64) (x1 : Int64) (x2 : Int64) (x3 : Int64) (off : Int32) (len : Int32) (h0 : Heap) (n0 : Nat) (v : Option Value) (h : Heap) (L : List Loc) : Prop := ∃ hv : Int64, v = some (.long hv) ∧ Fr n0 L ∧ h = h0
set_option maxRecDepth 65536 in
set_option maxHeartbeats 40000000 in
theorem rm_hash (l : Launch) (Z : State) (a0 : Array Value) (hw : ∀ d ∈ tables_1, d.before a0 Z = true) (ws : List Jvm.Cond) (src : Addr) (cS : ClassId) (x0 : Int64) (x1 : Int64) (x2 : Int64) (x3 : Int64) (off : Int32) (len : Int32) (h0 : Heap) (n0 : Nat) (Z0 : n0 ≤ h0.size) (Lx : OwnLst Z h0 src .long cS [.long x0, .long x1, .long x2, .long x3]) (hol : (off = (0 : Int32) ∧ len = (1 : Int32)) ∨ (off = (0 : Int32) ∧ len = (2 : Int32)) ∨ (off = (0 : Int32) ∧ len = (3 : Int32)) ∨ (off = (1 : Int32) ∧ len = (1 : Int32)) ∨ (off = (1 : Int32) ∧ len = (2 : Int32))) :
    MetFree l (⟨"com/example/orbitfold/orbitfold/StateIndex", "hash", "([JII)J"⟩ : MethodName) (head1 (Jvm.Cond.code (⟨"com/example/orbitfold/orbitfold/StateIndex", "hash", "([JII)J"⟩ : MethodName) prog_34_method_11_code 6 (some .long) :: ws) ({ frames := 0, cells := 0, slots := 0, locals := 0 } : Room)) (fun a₀ U₀ => a₀ = #[(.ref src), (.int off), (.int len)] ∧ Z.Warmed39 U₀.vm ∧ U₀.heap = h0) (fun _ _ _ _ _ => True) (fun _ U₀ o₀ U₁ => ∃ v₀ L₀, o₀ = .returned v₀ ∧ rm_hash_Q Z src cS x0 x1 x2 x3 off len h0 n0 v₀ U₁.heap L₀ ∧ FrameEnd U₀ o₀ U₁ L₀ ({ frames := 0, cells := 0, slots := 0, locals := 0 } : Room).cells ({ frames := 0, cells := 0, slots := 0, locals := 0 } : Room).slots) := by
  refine MetFree.of_bodySF (plainFor_of_name own_pn4) hisR ?_
  intro p e s m args below meth c s₁ Bd hml0 hP hK
  obtain ⟨rfl, hZ, hh⟩ := hP
  have hx := Bd.exec
  have hby := Bd.bytes
  have hml : c.maxLocals = 6 := hml0
  have hown : s.vm.findClass "com/example/orbitfold/orbitfold/StateIndex" = some m.cls := findClass_of_methodNamed Bd.named
  have hnm := (name_of_methodNamed Bd.named Bd.method).1
  have X0 : Stand p l e ({ frames := 0, cells := 0, slots := 0, locals := 0 } : Room) s m #[(.ref src), (.int off), (.int len)] below meth c s₁ [] 0 0 := Stand.of_body Bd
  have e0 : s₁.heap = h0 := by rw [← hh, Bd.state]; rfl
  have N0 := Fr.nil n0
  have pre0 : ∀ t, Steps p.tables e below (s₁.setTop (mkF m 0 #[.val (.ref src), .val (.int off), .val (.int len), .unset, .unset, .unset] [])) t → Steps p.tables e below (s₁.setTop (entryFrame m #[(.ref src), (.int off), (.int len)] 6)) t := fun t kk₀ => castTop (rm_hash_ef m src off len) kk₀
  rcases hol with ⟨q, r⟩ | ⟨q, r⟩ | ⟨q, r⟩ | ⟨q, r⟩ | ⟨q, r⟩
  · obtain ⟨cl136, Ar136, q136, G136⟩ := id Lx
    obtain ⟨fs, hr, hrun, hended, hW, hsame⟩ := X0.leave (v := some (.long (((((0 : Int64) ^^^ x0) * (-7046029254386353131 : Int64)) ^^^ (((((0 : Int64) ^^^ x0) * (-7046029254386353131 : Int64)).toUInt64 >>> ((32 : Int32) &&& 0x3f).toInt64.toUInt64).toInt64)) * (-7046029254386353131 : Int64)))) (fun h => by rw [Bd.returns] at h; cases h)
    refine ⟨_, _, pre0 _ ?_, hrun, hended, _, _, rfl, ?_, ⟨_, rfl⟩, hW, hsame.mono (by decide) (by decide)⟩
    · show Steps p.tables e below (s₁.setTop (mkF m 0 #[.val (.ref src), .val (.int off), .val (.int len), .unset, .unset, .unset] [])) _
      refine XS.lconst X0.here hx rfl (hb hby own_d_prog_34_method_11_0) ?_
      refine XS.lstoreN X0.here hx rfl (hb hby own_d_prog_34_method_11_1) rfl (l' := #[.val (.ref src), .val (.int off), .val (.int len), .val (.long (0 : Int64)), .second, .unset]) rfl ?_
      refine XS.iloadN X0.here hx rfl (hb hby own_d_prog_34_method_11_2) rfl ?_
      refine XS.istore X0.here hx rfl (hb hby own_d_prog_34_method_11_3) rfl (l' := #[.val (.ref src), .val (.int off), .val (.int len), .val (.long (0 : Int64)), .second, .val (.int off)]) rfl ?_
      show Steps p.tables e below (s₁.setTop (mkF m 5 #[.val (.ref src), .val (.int off), .val (.int len), .val (.long (0 : Int64)), .second, .val (.int off)] [])) _
      refine XS.iload X0.here hx rfl (hb hby own_d_prog_34_method_11_5) rfl ?_
      refine XS.iloadN X0.here hx rfl (hb hby own_d_prog_34_method_11_7) rfl ?_
      refine XS.iloadN X0.here hx rfl (hb hby own_d_prog_34_method_11_8) rfl ?_
      refine XS.iadd X0.here hx rfl (hb hby own_d_prog_34_method_11_9) rfl ?_
      show Steps p.tables e below (s₁.setTop (mkF m 10 #[.val (.ref src), .val (.int off), .val (.int len), .val (.long (0 : Int64)), .second, .val (.int off)] [(.int (off + len)), (.int off)])) _
      refine XS.icmpNo X0.here hx rfl (hb hby own_d_prog_34_method_11_10) rfl (tlt (show off < (off + len) by rw [q, r]; decide)).2.1 ?_
      refine XS.lloadN X0.here hx rfl (hb hby own_d_prog_34_method_11_13) rfl ?_
      refine XS.aloadN X0.here hx rfl (hb hby own_d_prog_34_method_11_14) rfl rfl ?_
      refine XS.iload X0.here hx rfl (hb hby own_d_prog_34_method_11_15) rfl ?_
      show Steps p.tables e below (s₁.setTop (mkF m 17 #[.val (.ref src), .val (.int off), .val (.int len), .val (.long (0 : Int64)), .second, .val (.int off)] [(.int off), (.ref src), (.long (0 : Int64))])) _
      refine X0.laload hx (j := off) (v := (.long x0)) (by rw [e0]; exact Ar136.1) (State.isArrayOf_alike hZ.alike Ar136.2.1) Ar136.2.2 (own_inb G136 4 rfl (show ¬ (off < 0 ∨ 4 ≤ (off).toNatClampNeg) by rw [q]; decide)) (own_get G136 (by rw [q]; rfl)) (g := (mkF m 17 #[.val (.ref src), .val (.int off), .val (.int len), .val (.long (0 : Int64)), .second, .val (.int off)] [(.int off), (.ref src), (.long (0 : Int64))])) rfl rfl (hb hby own_d_prog_34_method_11_17) _ ?_
      refine XS.lxor X0.here hx rfl (hb hby own_d_prog_34_method_11_18) rfl ?_
      refine X0.ldc2J hx hown (mvT hZ (own_at hw 55 rfl)) (g := (mkF m 19 #[.val (.ref src), .val (.int off), .val (.int len), .val (.long (0 : Int64)), .second, .val (.int off)] [(.long ((0 : Int64) ^^^ x0))])) rfl (hb hby own_d_prog_34_method_11_19) ?_
      refine XS.lmul X0.here hx rfl (hb hby own_d_prog_34_method_11_22) rfl ?_
      show Steps p.tables e below (s₁.setTop (mkF m 23 #[.val (.ref src), .val (.int off), .val (.int len), .val (.long (0 : Int64)), .second, .val (.int off)] [(.long (((0 : Int64) ^^^ x0) * (-7046029254386353131 : Int64)))])) _
      refine XS.lstoreN X0.here hx rfl (hb hby own_d_prog_34_method_11_23) rfl (l' := #[.val (.ref src), .val (.int off), .val (.int len), .val (.long (((0 : Int64) ^^^ x0) * (-7046029254386353131 : Int64))), .second, .val (.int off)]) rfl ?_
      refine XS.iinc X0.here hx rfl (hb hby own_d_prog_34_method_11_24) rfl (l' := #[.val (.ref src), .val (.int off), .val (.int len), .val (.long (((0 : Int64) ^^^ x0) * (-7046029254386353131 : Int64))), .second, .val (.int (off + (1 : Int32)))]) rfl ?_
      refine XS.goto X0.here hx rfl (pc0 := 27) (pc' := 5) rfl (hb hby own_d_prog_34_method_11_27) (by decide) (by decide) ?_
      refine XS.iload X0.here hx rfl (hb hby own_d_prog_34_method_11_5) rfl ?_
      show Steps p.tables e below (s₁.setTop (mkF m 7 #[.val (.ref src), .val (.int off), .val (.int len), .val (.long (((0 : Int64) ^^^ x0) * (-7046029254386353131 : Int64))), .second, .val (.int (off + (1 : Int32)))] [(.int (off + (1 : Int32)))])) _
      refine XS.iloadN X0.here hx rfl (hb hby own_d_prog_34_method_11_7) rfl ?_
      refine XS.iloadN X0.here hx rfl (hb hby own_d_prog_34_method_11_8) rfl ?_
      refine XS.iadd X0.here hx rfl (hb hby own_d_prog_34_method_11_9) rfl ?_
      refine XS.icmpYes X0.here hx rfl (pc0 := 10) (pc' := 30) rfl (hb hby own_d_prog_34_method_11_10) rfl (flt (show ¬ ((off + (1 : Int32)) < (off + len)) by rw [q, r]; decide)).2.1 (by decide) (by decide) ?_
      show Steps p.tables e below (s₁.setTop (mkF m 30 #[.val (.ref src), .val (.int off), .val (.int len), .val (.long (((0 : Int64) ^^^ x0) * (-7046029254386353131 : Int64))), .second, .val (.int (off + (1 : Int32)))] [])) _
      refine XS.lloadN X0.here hx rfl (hb hby own_d_prog_34_method_11_30) rfl ?_
      refine XS.lloadN X0.here hx rfl (hb hby own_d_prog_34_method_11_31) rfl ?_
      refine XS.bipush X0.here hx rfl (hb hby own_d_prog_34_method_11_32) ?_
      refine XS.lushr X0.here hx rfl (hb hby own_d_prog_34_method_11_34) rfl ?_
      show Steps p.tables e below (s₁.setTop (mkF m 35 #[.val (.ref src), .val (.int off), .val (.int len), .val (.long (((0 : Int64) ^^^ x0) * (-7046029254386353131 : Int64))), .second, .val (.int (off + (1 : Int32)))] [(.long (((((0 : Int64) ^^^ x0) * (-7046029254386353131 : Int64)).toUInt64 >>> ((32 : Int32) &&& 0x3f).toInt64.toUInt64).toInt64)), (.long (((0 : Int64) ^^^ x0) * (-7046029254386353131 : Int64)))])) _
      refine XS.lxor X0.here hx rfl (hb hby own_d_prog_34_method_11_35) rfl ?_
      refine X0.ldc2J hx hown (mvT hZ (own_at hw 55 rfl)) (g := (mkF m 36 #[.val (.ref src), .val (.int off), .val (.int len), .val (.long (((0 : Int64) ^^^ x0) * (-7046029254386353131 : Int64))), .second, .val (.int (off + (1 : Int32)))] [(.long ((((0 : Int64) ^^^ x0) * (-7046029254386353131 : Int64)) ^^^ (((((0 : Int64) ^^^ x0) * (-7046029254386353131 : Int64)).toUInt64 >>> ((32 : Int32) &&& 0x3f).toInt64.toUInt64).toInt64)))])) rfl (hb hby own_d_prog_34_method_11_36) ?_
      refine XS.lmul X0.here hx rfl (hb hby own_d_prog_34_method_11_39) rfl ?_
      exact own_retJ X0 hx Bd.returns (hb hby own_d_prog_34_method_11_40) hr
    · show rm_hash_Q Z src cS x0 x1 x2 x3 off len h0 n0 _ s₁.heap _
      rw [e0]
      exact ⟨_, rfl, N0, rfl⟩
  · obtain ⟨cl137, Ar137, q137, G137⟩ := id Lx
    obtain ⟨cl138, Ar138, q138, G138⟩ := id Lx
    obtain ⟨fs, hr, hrun, hended, hW, hsame⟩ := X0.leave (v := some (.long (((((((0 : Int64) ^^^ x0) * (-7046029254386353131 : Int64)) ^^^ x1) * (-7046029254386353131 : Int64)) ^^^ (((((((0 : Int64) ^^^ x0) * (-7046029254386353131 : Int64)) ^^^ x1) * (-7046029254386353131 : Int64)).toUInt64 >>> ((32 : Int32) &&& 0x3f).toInt64.toUInt64).toInt64)) * (-7046029254386353131 : Int64)))) (fun h => by rw [Bd.returns] at h; cases h)
    refine ⟨_, _, pre0 _ ?_, hrun, hended, _, _, rfl, ?_, ⟨_, rfl⟩, hW, hsame.mono (by decide) (by decide)⟩
    · show Steps p.tables e below (s₁.setTop (mkF m 0 #[.val (.ref src), .val (.int off), .val (.int len), .unset, .unset, .unset] [])) _
      refine XS.lconst X0.here hx rfl (hb hby own_d_prog_34_method_11_0) ?_
      refine XS.lstoreN X0.here hx rfl (hb hby own_d_prog_34_method_11_1) rfl (l' := #[.val (.ref src), .val (.int off), .val (.int len), .val (.long (0 : Int64)), .second, .unset]) rfl ?_
      refine XS.iloadN X0.here hx rfl (hb hby own_d_prog_34_method_11_2) rfl ?_
      refine XS.istore X0.here hx rfl (hb hby own_d_prog_34_method_11_3) rfl (l' := #[.val (.ref src), .val (.int off), .val (.int len), .val (.long (0 : Int64)), .second, .val (.int off)]) rfl ?_
      show Steps p.tables e below (s₁.setTop (mkF m 5 #[.val (.ref src), .val (.int off), .val (.int len), .val (.long (0 : Int64)), .second, .val (.int off)] [])) _
      refine XS.iload X0.here hx rfl (hb hby own_d_prog_34_method_11_5) rfl ?_
      refine XS.iloadN X0.here hx rfl (hb hby own_d_prog_34_method_11_7) rfl ?_
      refine XS.iloadN X0.here hx rfl (hb hby own_d_prog_34_method_11_8) rfl ?_
      refine XS.iadd X0.here hx rfl (hb hby own_d_prog_34_method_11_9) rfl ?_
      show Steps p.tables e below (s₁.setTop (mkF m 10 #[.val (.ref src), .val (.int off), .val (.int len), .val (.long (0 : Int64)), .second, .val (.int off)] [(.int (off + len)), (.int off)])) _
      refine XS.icmpNo X0.here hx rfl (hb hby own_d_prog_34_method_11_10) rfl (tlt (show off < (off + len) by rw [q, r]; decide)).2.1 ?_
      refine XS.lloadN X0.here hx rfl (hb hby own_d_prog_34_method_11_13) rfl ?_
      refine XS.aloadN X0.here hx rfl (hb hby own_d_prog_34_method_11_14) rfl rfl ?_
      refine XS.iload X0.here hx rfl (hb hby own_d_prog_34_method_11_15) rfl ?_
      show Steps p.tables e below (s₁.setTop (mkF m 17 #[.val (.ref src), .val (.int off), .val (.int len), .val (.long (0 : Int64)), .second, .val (.int off)] [(.int off), (.ref src), (.long (0 : Int64))])) _
      refine X0.laload hx (j := off) (v := (.long x0)) (by rw [e0]; exact Ar137.1) (State.isArrayOf_alike hZ.alike Ar137.2.1) Ar137.2.2 (own_inb G137 4 rfl (show ¬ (off < 0 ∨ 4 ≤ (off).toNatClampNeg) by rw [q]; decide)) (own_get G137 (by rw [q]; rfl)) (g := (mkF m 17 #[.val (.ref src), .val (.int off), .val (.int len), .val (.long (0 : Int64)), .second, .val (.int off)] [(.int off), (.ref src), (.long (0 : Int64))])) rfl rfl (hb hby own_d_prog_34_method_11_17) _ ?_
      refine XS.lxor X0.here hx rfl (hb hby own_d_prog_34_method_11_18) rfl ?_
      refine X0.ldc2J hx hown (mvT hZ (own_at hw 55 rfl)) (g := (mkF m 19 #[.val (.ref src), .val (.int off), .val (.int len), .val (.long (0 : Int64)), .second, .val (.int off)] [(.long ((0 : Int64) ^^^ x0))])) rfl (hb hby own_d_prog_34_method_11_19) ?_
      refine XS.lmul X0.here hx rfl (hb hby own_d_prog_34_method_11_22) rfl ?_
      show Steps p.tables e below (s₁.setTop (mkF m 23 #[.val (.ref src), .val (.int off), .val (.int len), .val (.long (0 : Int64)), .second, .val (.int off)] [(.long (((0 : Int64) ^^^ x0) * (-7046029254386353131 : Int64)))])) _
      refine XS.lstoreN X0.here hx rfl (hb hby own_d_prog_34_method_11_23) rfl (l' := #[.val (.ref src), .val (.int off), .val (.int len), .val (.long (((0 : Int64) ^^^ x0) * (-7046029254386353131 : Int64))), .second, .val (.int off)]) rfl ?_
      refine XS.iinc X0.here hx rfl (hb hby own_d_prog_34_method_11_24) rfl (l' := #[.val (.ref src), .val (.int off), .val (.int len), .val (.long (((0 : Int64) ^^^ x0) * (-7046029254386353131 : Int64))), .second, .val (.int (off + (1 : Int32)))]) rfl ?_
      refine XS.goto X0.here hx rfl (pc0 := 27) (pc' := 5) rfl (hb hby own_d_prog_34_method_11_27) (by decide) (by decide) ?_
      refine XS.iload X0.here hx rfl (hb hby own_d_prog_34_method_11_5) rfl ?_
      show Steps p.tables e below (s₁.setTop (mkF m 7 #[.val (.ref src), .val (.int off), .val (.int len), .val (.long (((0 : Int64) ^^^ x0) * (-7046029254386353131 : Int64))), .second, .val (.int (off + (1 : Int32)))] [(.int (off + (1 : Int32)))])) _
      refine XS.iloadN X0.here hx rfl (hb hby own_d_prog_34_method_11_7) rfl ?_
      refine XS.iloadN X0.here hx rfl (hb hby own_d_prog_34_method_11_8) rfl ?_
      refine XS.iadd X0.here hx rfl (hb hby own_d_prog_34_method_11_9) rfl ?_
      refine XS.icmpNo X0.here hx rfl (hb hby own_d_prog_34_method_11_10) rfl (tlt (show (off + (1 : Int32)) < (off + len) by rw [q, r]; decide)).2.1 ?_
      show Steps p.tables e below (s₁.setTop (mkF m 13 #[.val (.ref src), .val (.int off), .val (.int len), .val (.long (((0 : Int64) ^^^ x0) * (-7046029254386353131 : Int64))), .second, .val (.int (off + (1 : Int32)))] [])) _
      refine XS.lloadN X0.here hx rfl (hb hby own_d_prog_34_method_11_13) rfl ?_
      refine XS.aloadN X0.here hx rfl (hb hby own_d_prog_34_method_11_14) rfl rfl ?_
      refine XS.iload X0.here hx rfl (hb hby own_d_prog_34_method_11_15) rfl ?_
      refine X0.laload hx (j := (off + (1 : Int32))) (v := (.long x1)) (by rw [e0]; exact Ar138.1) (State.isArrayOf_alike hZ.alike Ar138.2.1) Ar138.2.2 (own_inb G138 4 rfl (show ¬ ((off + (1 : Int32)) < 0 ∨ 4 ≤ ((off + (1 : Int32))).toNatClampNeg) by rw [q]; decide)) (own_get G138 (by rw [q]; rfl)) (g := (mkF m 17 #[.val (.ref src), .val (.int off), .val (.int len), .val (.long (((0 : Int64) ^^^ x0) * (-7046029254386353131 : Int64))), .second, .val (.int (off + (1 : Int32)))] [(.int (off + (1 : Int32))), (.ref src), (.long (((0 : Int64) ^^^ x0) * (-7046029254386353131 : Int64)))])) rfl rfl (hb hby own_d_prog_34_method_11_17) _ ?_
      show Steps p.tables e below (s₁.setTop (mkF m 18 #[.val (.ref src), .val (.int off), .val (.int len), .val (.long (((0 : Int64) ^^^ x0) * (-7046029254386353131 : Int64))), .second, .val (.int (off + (1 : Int32)))] [(.long x1), (.long (((0 : Int64) ^^^ x0) * (-7046029254386353131 : Int64)))])) _
      refine XS.lxor X0.here hx rfl (hb hby own_d_prog_34_method_11_18) rfl ?_
      refine X0.ldc2J hx hown (mvT hZ (own_at hw 55 rfl)) (g := (mkF m 19 #[.val (.ref src), .val (.int off), .val (.int len), .val (.long (((0 : Int64) ^^^ x0) * (-7046029254386353131 : Int64))), .second, .val (.int (off + (1 : Int32)))] [(.long ((((0 : Int64) ^^^ x0) * (-7046029254386353131 : Int64)) ^^^ x1))])) rfl (hb hby own_d_prog_34_method_11_19) ?_
      refine XS.lmul X0.here hx rfl (hb hby own_d_prog_34_method_11_22) rfl ?_
      refine XS.lstoreN X0.here hx rfl (hb hby own_d_prog_34_method_11_23) rfl (l' := #[.val (.ref src), .val (.int off), .val (.int len), .val (.long (((((0 : Int64) ^^^ x0) * (-7046029254386353131 : Int64)) ^^^ x1) * (-7046029254386353131 : Int64))), .second, .val (.int (off + (1 : Int32)))]) rfl ?_
      show Steps p.tables e below (s₁.setTop (mkF m 24 #[.val (.ref src), .val (.int off), .val (.int len), .val (.long (((((0 : Int64) ^^^ x0) * (-7046029254386353131 : Int64)) ^^^ x1) * (-7046029254386353131 : Int64))), .second, .val (.int (off + (1 : Int32)))] [])) _
      refine XS.iinc X0.here hx rfl (hb hby own_d_prog_34_method_11_24) rfl (l' := #[.val (.ref src), .val (.int off), .val (.int len), .val (.long (((((0 : Int64) ^^^ x0) * (-7046029254386353131 : Int64)) ^^^ x1) * (-7046029254386353131 : Int64))), .second, .val (.int ((off + (1 : Int32)) + (1 : Int32)))]) rfl ?_
      refine XS.goto X0.here hx rfl (pc0 := 27) (pc' := 5) rfl (hb hby own_d_prog_34_method_11_27) (by decide) (by decide) ?_
      refine XS.iload X0.here hx rfl (hb hby own_d_prog_34_method_11_5) rfl ?_
      refine XS.iloadN X0.here hx rfl (hb hby own_d_prog_34_method_11_7) rfl ?_
      show Steps p.tables e below (s₁.setTop (mkF m 8 #[.val (.ref src), .val (.int off), .val (.int len), .val (.long (((((0 : Int64) ^^^ x0) * (-7046029254386353131 : Int64)) ^^^ x1) * (-7046029254386353131 : Int64))), .second, .val (.int ((off + (1 : Int32)) + (1 : Int32)))] [(.int off), (.int ((off + (1 : Int32)) + (1 : Int32)))])) _
      refine XS.iloadN X0.here hx rfl (hb hby own_d_prog_34_method_11_8) rfl ?_
      refine XS.iadd X0.here hx rfl (hb hby own_d_prog_34_method_11_9) rfl ?_
      refine XS.icmpYes X0.here hx rfl (pc0 := 10) (pc' := 30) rfl (hb hby own_d_prog_34_method_11_10) rfl (flt (show ¬ (((off + (1 : Int32)) + (1 : Int32)) < (off + len)) by rw [q, r]; decide)).2.1 (by decide) (by decide) ?_
      refine XS.lloadN X0.here hx rfl (hb hby own_d_prog_34_method_11_30) rfl ?_
      show Steps p.tables e below (s₁.setTop (mkF m 31 #[.val (.ref src), .val (.int off), .val (.int len), .val (.long (((((0 : Int64) ^^^ x0) * (-7046029254386353131 : Int64)) ^^^ x1) * (-7046029254386353131 : Int64))), .second, .val (.int ((off + (1 : Int32)) + (1 : Int32)))] [(.long (((((0 : Int64) ^^^ x0) * (-7046029254386353131 : Int64)) ^^^ x1) * (-7046029254386353131 : Int64)))])) _
      refine XS.lloadN X0.here hx rfl (hb hby own_d_prog_34_method_11_31) rfl ?_
      refine XS.bipush X0.here hx rfl (hb hby own_d_prog_34_method_11_32) ?_
      refine XS.lushr X0.here hx rfl (hb hby own_d_prog_34_method_11_34) rfl ?_
      refine XS.lxor X0.here hx rfl (hb hby own_d_prog_34_method_11_35) rfl ?_
      show Steps p.tables e below (s₁.setTop (mkF m 36 #[.val (.ref src), .val (.int off), .val (.int len), .val (.long (((((0 : Int64) ^^^ x0) * (-7046029254386353131 : Int64)) ^^^ x1) * (-7046029254386353131 : Int64))), .second, .val (.int ((off + (1 : Int32)) + (1 : Int32)))] [(.long ((((((0 : Int64) ^^^ x0) * (-7046029254386353131 : Int64)) ^^^ x1) * (-7046029254386353131 : Int64)) ^^^ (((((((0 : Int64) ^^^ x0) * (-7046029254386353131 : Int64)) ^^^ x1) * (-7046029254386353131 : Int64)).toUInt64 >>> ((32 : Int32) &&& 0x3f).toInt64.toUInt64).toInt64)))])) _
      refine X0.ldc2J hx hown (mvT hZ (own_at hw 55 rfl)) (g := (mkF m 36 #[.val (.ref src), .val (.int off), .val (.int len), .val (.long (((((0 : Int64) ^^^ x0) * (-7046029254386353131 : Int64)) ^^^ x1) * (-7046029254386353131 : Int64))), .second, .val (.int ((off + (1 : Int32)) + (1 : Int32)))] [(.long ((((((0 : Int64) ^^^ x0) * (-7046029254386353131 : Int64)) ^^^ x1) * (-7046029254386353131 : Int64)) ^^^ (((((((0 : Int64) ^^^ x0) * (-7046029254386353131 : Int64)) ^^^ x1) * (-7046029254386353131 : Int64)).toUInt64 >>> ((32 : Int32) &&& 0x3f).toInt64.toUInt64).toInt64)))])) rfl (hb hby own_d_prog_34_method_11_36) ?_
      refine XS.lmul X0.here hx rfl (hb hby own_d_prog_34_method_11_39) rfl ?_
      exact own_retJ X0 hx Bd.returns (hb hby own_d_prog_34_method_11_40) hr
    · show rm_hash_Q Z src cS x0 x1 x2 x3 off len h0 n0 _ s₁.heap _
      rw [e0]
      exact ⟨_, rfl, N0, rfl⟩
  · obtain ⟨cl139, Ar139, q139, G139⟩ := id Lx
    obtain ⟨cl140, Ar140, q140, G140⟩ := id Lx
    obtain ⟨cl141, Ar141, q141, G141⟩ := id Lx
    obtain ⟨fs, hr, hrun, hended, hW, hsame⟩ := X0.leave (v := some (.long (((((((((0 : Int64) ^^^ x0) * (-7046029254386353131 : Int64)) ^^^ x1) * (-7046029254386353131 : Int64)) ^^^ x2) * (-7046029254386353131 : Int64)) ^^^ (((((((((0 : Int64) ^^^ x0) * (-7046029254386353131 : Int64)) ^^^ x1) * (-7046029254386353131 : Int64)) ^^^ x2) * (-7046029254386353131 : Int64)).toUInt64 >>> ((32 : Int32) &&& 0x3f).toInt64.toUInt64).toInt64)) * (-7046029254386353131 : Int64)))) (fun h => by rw [Bd.returns] at h; cases h)
    refine ⟨_, _, pre0 _ ?_, hrun, hended, _, _, rfl, ?_, ⟨_, rfl⟩, hW, hsame.mono (by decide) (by decide)⟩
    · show Steps p.tables e below (s₁.setTop (mkF m 0 #[.val (.ref src), .val (.int off), .val (.int len), .unset, .unset, .unset] [])) _
      refine XS.lconst X0.here hx rfl (hb hby own_d_prog_34_method_11_0) ?_
      refine XS.lstoreN X0.here hx rfl (hb hby own_d_prog_34_method_11_1) rfl (l' := #[.val (.ref src), .val (.int off), .val (.int len), .val (.long (0 : Int64)), .second, .unset]) rfl ?_
      refine XS.iloadN X0.here hx rfl (hb hby own_d_prog_34_method_11_2) rfl ?_
      refine XS.istore X0.here hx rfl (hb hby own_d_prog_34_method_11_3) rfl (l' := #[.val (.ref src), .val (.int off), .val (.int len), .val (.long (0 : Int64)), .second, .val (.int off)]) rfl ?_
      show Steps p.tables e below (s₁.setTop (mkF m 5 #[.val (.ref src), .val (.int off), .val (.int len), .val (.long (0 : Int64)), .second, .val (.int off)] [])) _
      refine XS.iload X0.here hx rfl (hb hby own_d_prog_34_method_11_5) rfl ?_
      refine XS.iloadN X0.here hx rfl (hb hby own_d_prog_34_method_11_7) rfl ?_
      refine XS.iloadN X0.here hx rfl (hb hby own_d_prog_34_method_11_8) rfl ?_
      refine XS.iadd X0.here hx rfl (hb hby own_d_prog_34_method_11_9) rfl ?_
      show Steps p.tables e below (s₁.setTop (mkF m 10 #[.val (.ref src), .val (.int off), .val (.int len), .val (.long (0 : Int64)), .second, .val (.int off)] [(.int (off + len)), (.int off)])) _
      refine XS.icmpNo X0.here hx rfl (hb hby own_d_prog_34_method_11_10) rfl (tlt (show off < (off + len) by rw [q, r]; decide)).2.1 ?_
      refine XS.lloadN X0.here hx rfl (hb hby own_d_prog_34_method_11_13) rfl ?_
      refine XS.aloadN X0.here hx rfl (hb hby own_d_prog_34_method_11_14) rfl rfl ?_
      refine XS.iload X0.here hx rfl (hb hby own_d_prog_34_method_11_15) rfl ?_
      show Steps p.tables e below (s₁.setTop (mkF m 17 #[.val (.ref src), .val (.int off), .val (.int len), .val (.long (0 : Int64)), .second, .val (.int off)] [(.int off), (.ref src), (.long (0 : Int64))])) _
      refine X0.laload hx (j := off) (v := (.long x0)) (by rw [e0]; exact Ar139.1) (State.isArrayOf_alike hZ.alike Ar139.2.1) Ar139.2.2 (own_inb G139 4 rfl (show ¬ (off < 0 ∨ 4 ≤ (off).toNatClampNeg) by rw [q]; decide)) (own_get G139 (by rw [q]; rfl)) (g := (mkF m 17 #[.val (.ref src), .val (.int off), .val (.int len), .val (.long (0 : Int64)), .second, .val (.int off)] [(.int off), (.ref src), (.long (0 : Int64))])) rfl rfl (hb hby own_d_prog_34_method_11_17) _ ?_
      refine XS.lxor X0.here hx rfl (hb hby own_d_prog_34_method_11_18) rfl ?_
      refine X0.ldc2J hx hown (mvT hZ (own_at hw 55 rfl)) (g := (mkF m 19 #[.val (.ref src), .val (.int off), .val (.int len), .val (.long (0 : Int64)), .second, .val (.int off)] [(.long ((0 : Int64) ^^^ x0))])) rfl (hb hby own_d_prog_34_method_11_19) ?_
      refine XS.lmul X0.here hx rfl (hb hby own_d_prog_34_method_11_22) rfl ?_
      show Steps p.tables e below (s₁.setTop (mkF m 23 #[.val (.ref src), .val (.int off), .val (.int len), .val (.long (0 : Int64)), .second, .val (.int off)] [(.long (((0 : Int64) ^^^ x0) * (-7046029254386353131 : Int64)))])) _
      refine XS.lstoreN X0.here hx rfl (hb hby own_d_prog_34_method_11_23) rfl (l' := #[.val (.ref src), .val (.int off), .val (.int len), .val (.long (((0 : Int64) ^^^ x0) * (-7046029254386353131 : Int64))), .second, .val (.int off)]) rfl ?_
      refine XS.iinc X0.here hx rfl (hb hby own_d_prog_34_method_11_24) rfl (l' := #[.val (.ref src), .val (.int off), .val (.int len), .val (.long (((0 : Int64) ^^^ x0) * (-7046029254386353131 : Int64))), .second, .val (.int (off + (1 : Int32)))]) rfl ?_
      refine XS.goto X0.here hx rfl (pc0 := 27) (pc' := 5) rfl (hb hby own_d_prog_34_method_11_27) (by decide) (by decide) ?_
      refine XS.iload X0.here hx rfl (hb hby own_d_prog_34_method_11_5) rfl ?_
      show Steps p.tables e below (s₁.setTop (mkF m 7 #[.val (.ref src), .val (.int off), .val (.int len), .val (.long (((0 : Int64) ^^^ x0) * (-7046029254386353131 : Int64))), .second, .val (.int (off + (1 : Int32)))] [(.int (off + (1 : Int32)))])) _
      refine XS.iloadN X0.here hx rfl (hb hby own_d_prog_34_method_11_7) rfl ?_
      refine XS.iloadN X0.here hx rfl (hb hby own_d_prog_34_method_11_8) rfl ?_
      refine XS.iadd X0.here hx rfl (hb hby own_d_prog_34_method_11_9) rfl ?_
      refine XS.icmpNo X0.here hx rfl (hb hby own_d_prog_34_method_11_10) rfl (tlt (show (off + (1 : Int32)) < (off + len) by rw [q, r]; decide)).2.1 ?_
      show Steps p.tables e below (s₁.setTop (mkF m 13 #[.val (.ref src), .val (.int off), .val (.int len), .val (.long (((0 : Int64) ^^^ x0) * (-7046029254386353131 : Int64))), .second, .val (.int (off + (1 : Int32)))] [])) _
      refine XS.lloadN X0.here hx rfl (hb hby own_d_prog_34_method_11_13) rfl ?_
      refine XS.aloadN X0.here hx rfl (hb hby own_d_prog_34_method_11_14) rfl rfl ?_
      refine XS.iload X0.here hx rfl (hb hby own_d_prog_34_method_11_15) rfl ?_
      refine X0.laload hx (j := (off + (1 : Int32))) (v := (.long x1)) (by rw [e0]; exact Ar140.1) (State.isArrayOf_alike hZ.alike Ar140.2.1) Ar140.2.2 (own_inb G140 4 rfl (show ¬ ((off + (1 : Int32)) < 0 ∨ 4 ≤ ((off + (1 : Int32))).toNatClampNeg) by rw [q]; decide)) (own_get G140 (by rw [q]; rfl)) (g := (mkF m 17 #[.val (.ref src), .val (.int off), .val (.int len), .val (.long (((0 : Int64) ^^^ x0) * (-7046029254386353131 : Int64))), .second, .val (.int (off + (1 : Int32)))] [(.int (off + (1 : Int32))), (.ref src), (.long (((0 : Int64) ^^^ x0) * (-7046029254386353131 : Int64)))])) rfl rfl (hb hby own_d_prog_34_method_11_17) _ ?_
      show Steps p.tables e below (s₁.setTop (mkF m 18 #[.val (.ref src), .val (.int off), .val (.int len), .val (.long (((0 : Int64) ^^^ x0) * (-7046029254386353131 : Int64))), .second, .val (.int (off + (1 : Int32)))] [(.long x1), (.long (((0 : Int64) ^^^ x0) * (-7046029254386353131 : Int64)))])) _
      refine XS.lxor X0.here hx rfl (hb hby own_d_prog_34_method_11_18) rfl ?_
      refine X0.ldc2J hx hown (mvT hZ (own_at hw 55 rfl)) (g := (mkF m 19 #[.val (.ref src), .val (.int off), .val (.int len), .val (.long (((0 : Int64) ^^^ x0) * (-7046029254386353131 : Int64))), .second, .val (.int (off + (1 : Int32)))] [(.long ((((0 : Int64) ^^^ x0) * (-7046029254386353131 : Int64)) ^^^ x1))])) rfl (hb hby own_d_prog_34_method_11_19) ?_
      refine XS.lmul X0.here hx rfl (hb hby own_d_prog_34_method_11_22) rfl ?_
      refine XS.lstoreN X0.here hx rfl (hb hby own_d_prog_34_method_11_23) rfl (l' := #[.val (.ref src), .val (.int off), .val (.int len), .val (.long (((((0 : Int64) ^^^ x0) * (-7046029254386353131 : Int64)) ^^^ x1) * (-7046029254386353131 : Int64))), .second, .val (.int (off + (1 : Int32)))]) rfl ?_
      show Steps p.tables e below (s₁.setTop (mkF m 24 #[.val (.ref src), .val (.int off), .val (.int len), .val (.long (((((0 : Int64) ^^^ x0) * (-7046029254386353131 : Int64)) ^^^ x1) * (-7046029254386353131 : Int64))), .second, .val (.int (off + (1 : Int32)))] [])) _
      refine XS.iinc X0.here hx rfl (hb hby own_d_prog_34_method_11_24) rfl (l' := #[.val (.ref src), .val (.int off), .val (.int len), .val (.long (((((0 : Int64) ^^^ x0) * (-7046029254386353131 : Int64)) ^^^ x1) * (-7046029254386353131 : Int64))), .second, .val (.int ((off + (1 : Int32)) + (1 : Int32)))]) rfl ?_
      refine XS.goto X0.here hx rfl (pc0 := 27) (pc' := 5) rfl (hb hby own_d_prog_34_method_11_27) (by decide) (by decide) ?_
      refine XS.iload X0.here hx rfl (hb hby own_d_prog_34_method_11_5) rfl ?_
      refine XS.iloadN X0.here hx rfl (hb hby own_d_prog_34_method_11_7) rfl ?_
      show Steps p.tables e below (s₁.setTop (mkF m 8 #[.val (.ref src), .val (.int off), .val (.int len), .val (.long (((((0 : Int64) ^^^ x0) * (-7046029254386353131 : Int64)) ^^^ x1) * (-7046029254386353131 : Int64))), .second, .val (.int ((off + (1 : Int32)) + (1 : Int32)))] [(.int off), (.int ((off + (1 : Int32)) + (1 : Int32)))])) _
      refine XS.iloadN X0.here hx rfl (hb hby own_d_prog_34_method_11_8) rfl ?_
      refine XS.iadd X0.here hx rfl (hb hby own_d_prog_34_method_11_9) rfl ?_
      refine XS.icmpNo X0.here hx rfl (hb hby own_d_prog_34_method_11_10) rfl (tlt (show ((off + (1 : Int32)) + (1 : Int32)) < (off + len) by rw [q, r]; decide)).2.1 ?_
      refine XS.lloadN X0.here hx rfl (hb hby own_d_prog_34_method_11_13) rfl ?_
      show Steps p.tables e below (s₁.setTop (mkF m 14 #[.val (.ref src), .val (.int off), .val (.int len), .val (.long (((((0 : Int64) ^^^ x0) * (-7046029254386353131 : Int64)) ^^^ x1) * (-7046029254386353131 : Int64))), .second, .val (.int ((off + (1 : Int32)) + (1 : Int32)))] [(.long (((((0 : Int64) ^^^ x0) * (-7046029254386353131 : Int64)) ^^^ x1) * (-7046029254386353131 : Int64)))])) _
      refine XS.aloadN X0.here hx rfl (hb hby own_d_prog_34_method_11_14) rfl rfl ?_
      refine XS.iload X0.here hx rfl (hb hby own_d_prog_34_method_11_15) rfl ?_
      refine X0.laload hx (j := ((off + (1 : Int32)) + (1 : Int32))) (v := (.long x2)) (by rw [e0]; exact Ar141.1) (State.isArrayOf_alike hZ.alike Ar141.2.1) Ar141.2.2 (own_inb G141 4 rfl (show ¬ (((off + (1 : Int32)) + (1 : Int32)) < 0 ∨ 4 ≤ (((off + (1 : Int32)) + (1 : Int32))).toNatClampNeg) by rw [q]; decide)) (own_get G141 (by rw [q]; rfl)) (g := (mkF m 17 #[.val (.ref src), .val (.int off), .val (.int len), .val (.long (((((0 : Int64) ^^^ x0) * (-7046029254386353131 : Int64)) ^^^ x1) * (-7046029254386353131 : Int64))), .second, .val (.int ((off + (1 : Int32)) + (1 : Int32)))] [(.int ((off + (1 : Int32)) + (1 : Int32))), (.ref src), (.long (((((0 : Int64) ^^^ x0) * (-7046029254386353131 : Int64)) ^^^ x1) * (-7046029254386353131 : Int64)))])) rfl rfl (hb hby own_d_prog_34_method_11_17) _ ?_
      refine XS.lxor X0.here hx rfl (hb hby own_d_prog_34_method_11_18) rfl ?_
      show Steps p.tables e below (s₁.setTop (mkF m 19 #[.val (.ref src), .val (.int off), .val (.int len), .val (.long (((((0 : Int64) ^^^ x0) * (-7046029254386353131 : Int64)) ^^^ x1) * (-7046029254386353131 : Int64))), .second, .val (.int ((off + (1 : Int32)) + (1 : Int32)))] [(.long ((((((0 : Int64) ^^^ x0) * (-7046029254386353131 : Int64)) ^^^ x1) * (-7046029254386353131 : Int64)) ^^^ x2))])) _
      refine X0.ldc2J hx hown (mvT hZ (own_at hw 55 rfl)) (g := (mkF m 19 #[.val (.ref src), .val (.int off), .val (.int len), .val (.long (((((0 : Int64) ^^^ x0) * (-7046029254386353131 : Int64)) ^^^ x1) * (-7046029254386353131 : Int64))), .second, .val (.int ((off + (1 : Int32)) + (1 : Int32)))] [(.long ((((((0 : Int64) ^^^ x0) * (-7046029254386353131 : Int64)) ^^^ x1) * (-7046029254386353131 : Int64)) ^^^ x2))])) rfl (hb hby own_d_prog_34_method_11_19) ?_
      refine XS.lmul X0.here hx rfl (hb hby own_d_prog_34_method_11_22) rfl ?_
      refine XS.lstoreN X0.here hx rfl (hb hby own_d_prog_34_method_11_23) rfl (l' := #[.val (.ref src), .val (.int off), .val (.int len), .val (.long (((((((0 : Int64) ^^^ x0) * (-7046029254386353131 : Int64)) ^^^ x1) * (-7046029254386353131 : Int64)) ^^^ x2) * (-7046029254386353131 : Int64))), .second, .val (.int ((off + (1 : Int32)) + (1 : Int32)))]) rfl ?_
      refine XS.iinc X0.here hx rfl (hb hby own_d_prog_34_method_11_24) rfl (l' := #[.val (.ref src), .val (.int off), .val (.int len), .val (.long (((((((0 : Int64) ^^^ x0) * (-7046029254386353131 : Int64)) ^^^ x1) * (-7046029254386353131 : Int64)) ^^^ x2) * (-7046029254386353131 : Int64))), .second, .val (.int (((off + (1 : Int32)) + (1 : Int32)) + (1 : Int32)))]) rfl ?_
      show Steps p.tables e below (s₁.setTop (mkF m 27 #[.val (.ref src), .val (.int off), .val (.int len), .val (.long (((((((0 : Int64) ^^^ x0) * (-7046029254386353131 : Int64)) ^^^ x1) * (-7046029254386353131 : Int64)) ^^^ x2) * (-7046029254386353131 : Int64))), .second, .val (.int (((off + (1 : Int32)) + (1 : Int32)) + (1 : Int32)))] [])) _
      refine XS.goto X0.here hx rfl (pc0 := 27) (pc' := 5) rfl (hb hby own_d_prog_34_method_11_27) (by decide) (by decide) ?_
      refine XS.iload X0.here hx rfl (hb hby own_d_prog_34_method_11_5) rfl ?_
      refine XS.iloadN X0.here hx rfl (hb hby own_d_prog_34_method_11_7) rfl ?_
      refine XS.iloadN X0.here hx rfl (hb hby own_d_prog_34_method_11_8) rfl ?_
      show Steps p.tables e below (s₁.setTop (mkF m 9 #[.val (.ref src), .val (.int off), .val (.int len), .val (.long (((((((0 : Int64) ^^^ x0) * (-7046029254386353131 : Int64)) ^^^ x1) * (-7046029254386353131 : Int64)) ^^^ x2) * (-7046029254386353131 : Int64))), .second, .val (.int (((off + (1 : Int32)) + (1 : Int32)) + (1 : Int32)))] [(.int len), (.int off), (.int (((off + (1 : Int32)) + (1 : Int32)) + (1 : Int32)))])) _
      refine XS.iadd X0.here hx rfl (hb hby own_d_prog_34_method_11_9) rfl ?_
      refine XS.icmpYes X0.here hx rfl (pc0 := 10) (pc' := 30) rfl (hb hby own_d_prog_34_method_11_10) rfl (flt (show ¬ ((((off + (1 : Int32)) + (1 : Int32)) + (1 : Int32)) < (off + len)) by rw [q, r]; decide)).2.1 (by decide) (by decide) ?_
      refine XS.lloadN X0.here hx rfl (hb hby own_d_prog_34_method_11_30) rfl ?_
      refine XS.lloadN X0.here hx rfl (hb hby own_d_prog_34_method_11_31) rfl ?_
      show Steps p.tables e below (s₁.setTop (mkF m 32 #[.val (.ref src), .val (.int off), .val (.int len), .val (.long (((((((0 : Int64) ^^^ x0) * (-7046029254386353131 : Int64)) ^^^ x1) * (-7046029254386353131 : Int64)) ^^^ x2) * (-7046029254386353131 : Int64))), .second, .val (.int (((off + (1 : Int32)) + (1 : Int32)) + (1 : Int32)))] [(.long (((((((0 : Int64) ^^^ x0) * (-7046029254386353131 : Int64)) ^^^ x1) * (-7046029254386353131 : Int64)) ^^^ x2) * (-7046029254386353131 : Int64))), (.long (((((((0 : Int64) ^^^ x0) * (-7046029254386353131 : Int64)) ^^^ x1) * (-7046029254386353131 : Int64)) ^^^ x2) * (-7046029254386353131 : Int64)))])) _
      refine XS.bipush X0.here hx rfl (hb hby own_d_prog_34_method_11_32) ?_
      refine XS.lushr X0.here hx rfl (hb hby own_d_prog_34_method_11_34) rfl ?_
      refine XS.lxor X0.here hx rfl (hb hby own_d_prog_34_method_11_35) rfl ?_
      refine X0.ldc2J hx hown (mvT hZ (own_at hw 55 rfl)) (g := (mkF m 36 #[.val (.ref src), .val (.int off), .val (.int len), .val (.long (((((((0 : Int64) ^^^ x0) * (-7046029254386353131 : Int64)) ^^^ x1) * (-7046029254386353131 : Int64)) ^^^ x2) * (-7046029254386353131 : Int64))), .second, .val (.int (((off + (1 : Int32)) + (1 : Int32)) + (1 : Int32)))] [(.long ((((((((0 : Int64) ^^^ x0) * (-7046029254386353131 : Int64)) ^^^ x1) * (-7046029254386353131 : Int64)) ^^^ x2) * (-7046029254386353131 : Int64)) ^^^ (((((((((0 : Int64) ^^^ x0) * (-7046029254386353131 : Int64)) ^^^ x1) * (-7046029254386353131 : Int64)) ^^^ x2) * (-7046029254386353131 : Int64)).toUInt64 >>> ((32 : Int32) &&& 0x3f).toInt64.toUInt64).toInt64)))])) rfl (hb hby own_d_prog_34_method_11_36) ?_
      show Steps p.tables e below (s₁.setTop (mkF m 39 #[.val (.ref src), .val (.int off), .val (.int len), .val (.long (((((((0 : Int64) ^^^ x0) * (-7046029254386353131 : Int64)) ^^^ x1) * (-7046029254386353131 : Int64)) ^^^ x2) * (-7046029254386353131 : Int64))), .second, .val (.int (((off + (1 : Int32)) + (1 : Int32)) + (1 : Int32)))] [(.long (-7046029254386353131 : Int64)), (.long ((((((((0 : Int64) ^^^ x0) * (-7046029254386353131 : Int64)) ^^^ x1) * (-7046029254386353131 : Int64)) ^^^ x2) * (-7046029254386353131 : Int64)) ^^^ (((((((((0 : Int64) ^^^ x0) * (-7046029254386353131 : Int64)) ^^^ x1) * (-7046029254386353131 : Int64)) ^^^ x2) * (-7046029254386353131 : Int64)).toUInt64 >>> ((32 : Int32) &&& 0x3f).toInt64.toUInt64).toInt64)))])) _
      refine XS.lmul X0.here hx rfl (hb hby own_d_prog_34_method_11_39) rfl ?_
      exact own_retJ X0 hx Bd.returns (hb hby own_d_prog_34_method_11_40) hr
    · show rm_hash_Q Z src cS x0 x1 x2 x3 off len h0 n0 _ s₁.heap _
      rw [e0]
      exact ⟨_, rfl, N0, rfl⟩
  · obtain ⟨cl142, Ar142, q142, G142⟩ := id Lx
    obtain ⟨fs, hr, hrun, hended, hW, hsame⟩ := X0.leave (v := some (.long (((((0 : Int64) ^^^ x1) * (-7046029254386353131 : Int64)) ^^^ (((((0 : Int64) ^^^ x1) * (-7046029254386353131 : Int64)).toUInt64 >>> ((32 : Int32) &&& 0x3f).toInt64.toUInt64).toInt64)) * (-7046029254386353131 : Int64)))) (fun h => by rw [Bd.returns] at h; cases h)
    refine ⟨_, _, pre0 _ ?_, hrun, hended, _, _, rfl, ?_, ⟨_, rfl⟩, hW, hsame.mono (by decide) (by decide)⟩
    · show Steps p.tables e below (s₁.setTop (mkF m 0 #[.val (.ref src), .val (.int off), .val (.int len), .unset, .unset, .unset] [])) _
      refine XS.lconst X0.here hx rfl (hb hby own_d_prog_34_method_11_0) ?_
      refine XS.lstoreN X0.here hx rfl (hb hby own_d_prog_34_method_11_1) rfl (l' := #[.val (.ref src), .val (.int off), .val (.int len), .val (.long (0 : Int64)), .second, .unset]) rfl ?_
      refine XS.iloadN X0.here hx rfl (hb hby own_d_prog_34_method_11_2) rfl ?_
      refine XS.istore X0.here hx rfl (hb hby own_d_prog_34_method_11_3) rfl (l' := #[.val (.ref src), .val (.int off), .val (.int len), .val (.long (0 : Int64)), .second, .val (.int off)]) rfl ?_
      show Steps p.tables e below (s₁.setTop (mkF m 5 #[.val (.ref src), .val (.int off), .val (.int len), .val (.long (0 : Int64)), .second, .val (.int off)] [])) _
      refine XS.iload X0.here hx rfl (hb hby own_d_prog_34_method_11_5) rfl ?_
      refine XS.iloadN X0.here hx rfl (hb hby own_d_prog_34_method_11_7) rfl ?_
      refine XS.iloadN X0.here hx rfl (hb hby own_d_prog_34_method_11_8) rfl ?_
      refine XS.iadd X0.here hx rfl (hb hby own_d_prog_34_method_11_9) rfl ?_
      show Steps p.tables e below (s₁.setTop (mkF m 10 #[.val (.ref src), .val (.int off), .val (.int len), .val (.long (0 : Int64)), .second, .val (.int off)] [(.int (off + len)), (.int off)])) _
      refine XS.icmpNo X0.here hx rfl (hb hby own_d_prog_34_method_11_10) rfl (tlt (show off < (off + len) by rw [q, r]; decide)).2.1 ?_
      refine XS.lloadN X0.here hx rfl (hb hby own_d_prog_34_method_11_13) rfl ?_
      refine XS.aloadN X0.here hx rfl (hb hby own_d_prog_34_method_11_14) rfl rfl ?_
      refine XS.iload X0.here hx rfl (hb hby own_d_prog_34_method_11_15) rfl ?_
      show Steps p.tables e below (s₁.setTop (mkF m 17 #[.val (.ref src), .val (.int off), .val (.int len), .val (.long (0 : Int64)), .second, .val (.int off)] [(.int off), (.ref src), (.long (0 : Int64))])) _
      refine X0.laload hx (j := off) (v := (.long x1)) (by rw [e0]; exact Ar142.1) (State.isArrayOf_alike hZ.alike Ar142.2.1) Ar142.2.2 (own_inb G142 4 rfl (show ¬ (off < 0 ∨ 4 ≤ (off).toNatClampNeg) by rw [q]; decide)) (own_get G142 (by rw [q]; rfl)) (g := (mkF m 17 #[.val (.ref src), .val (.int off), .val (.int len), .val (.long (0 : Int64)), .second, .val (.int off)] [(.int off), (.ref src), (.long (0 : Int64))])) rfl rfl (hb hby own_d_prog_34_method_11_17) _ ?_
      refine XS.lxor X0.here hx rfl (hb hby own_d_prog_34_method_11_18) rfl ?_
      refine X0.ldc2J hx hown (mvT hZ (own_at hw 55 rfl)) (g := (mkF m 19 #[.val (.ref src), .val (.int off), .val (.int len), .val (.long (0 : Int64)), .second, .val (.int off)] [(.long ((0 : Int64) ^^^ x1))])) rfl (hb hby own_d_prog_34_method_11_19) ?_
      refine XS.lmul X0.here hx rfl (hb hby own_d_prog_34_method_11_22) rfl ?_
      show Steps p.tables e below (s₁.setTop (mkF m 23 #[.val (.ref src), .val (.int off), .val (.int len), .val (.long (0 : Int64)), .second, .val (.int off)] [(.long (((0 : Int64) ^^^ x1) * (-7046029254386353131 : Int64)))])) _
      refine XS.lstoreN X0.here hx rfl (hb hby own_d_prog_34_method_11_23) rfl (l' := #[.val (.ref src), .val (.int off), .val (.int len), .val (.long (((0 : Int64) ^^^ x1) * (-7046029254386353131 : Int64))), .second, .val (.int off)]) rfl ?_
      refine XS.iinc X0.here hx rfl (hb hby own_d_prog_34_method_11_24) rfl (l' := #[.val (.ref src), .val (.int off), .val (.int len), .val (.long (((0 : Int64) ^^^ x1) * (-7046029254386353131 : Int64))), .second, .val (.int (off + (1 : Int32)))]) rfl ?_
      refine XS.goto X0.here hx rfl (pc0 := 27) (pc' := 5) rfl (hb hby own_d_prog_34_method_11_27) (by decide) (by decide) ?_
      refine XS.iload X0.here hx rfl (hb hby own_d_prog_34_method_11_5) rfl ?_
      show Steps p.tables e below (s₁.setTop (mkF m 7 #[.val (.ref src), .val (.int off), .val (.int len), .val (.long (((0 : Int64) ^^^ x1) * (-7046029254386353131 : Int64))), .second, .val (.int (off + (1 : Int32)))] [(.int (off + (1 : Int32)))])) _
      refine XS.iloadN X0.here hx rfl (hb hby own_d_prog_34_method_11_7) rfl ?_
      refine XS.iloadN X0.here hx rfl (hb hby own_d_prog_34_method_11_8) rfl ?_
      refine XS.iadd X0.here hx rfl (hb hby own_d_prog_34_method_11_9) rfl ?_
      refine XS.icmpYes X0.here hx rfl (pc0 := 10) (pc' := 30) rfl (hb hby own_d_prog_34_method_11_10) rfl (flt (show ¬ ((off + (1 : Int32)) < (off + len)) by rw [q, r]; decide)).2.1 (by decide) (by decide) ?_
      show Steps p.tables e below (s₁.setTop (mkF m 30 #[.val (.ref src), .val (.int off), .val (.int len), .val (.long (((0 : Int64) ^^^ x1) * (-7046029254386353131 : Int64))), .second, .val (.int (off + (1 : Int32)))] [])) _
      refine XS.lloadN X0.here hx rfl (hb hby own_d_prog_34_method_11_30) rfl ?_
      refine XS.lloadN X0.here hx rfl (hb hby own_d_prog_34_method_11_31) rfl ?_
      refine XS.bipush X0.here hx rfl (hb hby own_d_prog_34_method_11_32) ?_
      refine XS.lushr X0.here hx rfl (hb hby own_d_prog_34_method_11_34) rfl ?_
      show Steps p.tables e below (s₁.setTop (mkF m 35 #[.val (.ref src), .val (.int off), .val (.int len), .val (.long (((0 : Int64) ^^^ x1) * (-7046029254386353131 : Int64))), .second, .val (.int (off + (1 : Int32)))] [(.long (((((0 : Int64) ^^^ x1) * (-7046029254386353131 : Int64)).toUInt64 >>> ((32 : Int32) &&& 0x3f).toInt64.toUInt64).toInt64)), (.long (((0 : Int64) ^^^ x1) * (-7046029254386353131 : Int64)))])) _
      refine XS.lxor X0.here hx rfl (hb hby own_d_prog_34_method_11_35) rfl ?_
      refine X0.ldc2J hx hown (mvT hZ (own_at hw 55 rfl)) (g := (mkF m 36 #[.val (.ref src), .val (.int off), .val (.int len), .val (.long (((0 : Int64) ^^^ x1) * (-7046029254386353131 : Int64))), .second, .val (.int (off + (1 : Int32)))] [(.long ((((0 : Int64) ^^^ x1) * (-7046029254386353131 : Int64)) ^^^ (((((0 : Int64) ^^^ x1) * (-7046029254386353131 : Int64)).toUInt64 >>> ((32 : Int32) &&& 0x3f).toInt64.toUInt64).toInt64)))])) rfl (hb hby own_d_prog_34_method_11_36) ?_
      refine XS.lmul X0.here hx rfl (hb hby own_d_prog_34_method_11_39) rfl ?_
      exact own_retJ X0 hx Bd.returns (hb hby own_d_prog_34_method_11_40) hr
    · show rm_hash_Q Z src cS x0 x1 x2 x3 off len h0 n0 _ s₁.heap _
      rw [e0]
      exact ⟨_, rfl, N0, rfl⟩
  · obtain ⟨cl143, Ar143, q143, G143⟩ := id Lx
    obtain ⟨cl144, Ar144, q144, G144⟩ := id Lx
    obtain ⟨fs, hr, hrun, hended, hW, hsame⟩ := X0.leave (v := some (.long (((((((0 : Int64) ^^^ x1) * (-7046029254386353131 : Int64)) ^^^ x2) * (-7046029254386353131 : Int64)) ^^^ (((((((0 : Int64) ^^^ x1) * (-7046029254386353131 : Int64)) ^^^ x2) * (-7046029254386353131 : Int64)).toUInt64 >>> ((32 : Int32) &&& 0x3f).toInt64.toUInt64).toInt64)) * (-7046029254386353131 : Int64)))) (fun h => by rw [Bd.returns] at h; cases h)
    refine ⟨_, _, pre0 _ ?_, hrun, hended, _, _, rfl, ?_, ⟨_, rfl⟩, hW, hsame.mono (by decide) (by decide)⟩
    · show Steps p.tables e below (s₁.setTop (mkF m 0 #[.val (.ref src), .val (.int off), .val (.int len), .unset, .unset, .unset] [])) _
      refine XS.lconst X0.here hx rfl (hb hby own_d_prog_34_method_11_0) ?_
      refine XS.lstoreN X0.here hx rfl (hb hby own_d_prog_34_method_11_1) rfl (l' := #[.val (.ref src), .val (.int off), .val (.int len), .val (.long (0 : Int64)), .second, .unset]) rfl ?_
      refine XS.iloadN X0.here hx rfl (hb hby own_d_prog_34_method_11_2) rfl ?_
      refine XS.istore X0.here hx rfl (hb hby own_d_prog_34_method_11_3) rfl (l' := #[.val (.ref src), .val (.int off), .val (.int len), .val (.long (0 : Int64)), .second, .val (.int off)]) rfl ?_
      show Steps p.tables e below (s₁.setTop (mkF m 5 #[.val (.ref src), .val (.int off), .val (.int len), .val (.long (0 : Int64)), .second, .val (.int off)] [])) _
      refine XS.iload X0.here hx rfl (hb hby own_d_prog_34_method_11_5) rfl ?_
      refine XS.iloadN X0.here hx rfl (hb hby own_d_prog_34_method_11_7) rfl ?_
      refine XS.iloadN X0.here hx rfl (hb hby own_d_prog_34_method_11_8) rfl ?_
      refine XS.iadd X0.here hx rfl (hb hby own_d_prog_34_method_11_9) rfl ?_
      show Steps p.tables e below (s₁.setTop (mkF m 10 #[.val (.ref src), .val (.int off), .val (.int len), .val (.long (0 : Int64)), .second, .val (.int off)] [(.int (off + len)), (.int off)])) _
      refine XS.icmpNo X0.here hx rfl (hb hby own_d_prog_34_method_11_10) rfl (tlt (show off < (off + len) by rw [q, r]; decide)).2.1 ?_
      refine XS.lloadN X0.here hx rfl (hb hby own_d_prog_34_method_11_13) rfl ?_
      refine XS.aloadN X0.here hx rfl (hb hby own_d_prog_34_method_11_14) rfl rfl ?_
      refine XS.iload X0.here hx rfl (hb hby own_d_prog_34_method_11_15) rfl ?_
      show Steps p.tables e below (s₁.setTop (mkF m 17 #[.val (.ref src), .val (.int off), .val (.int len), .val (.long (0 : Int64)), .second, .val (.int off)] [(.int off), (.ref src), (.long (0 : Int64))])) _
      refine X0.laload hx (j := off) (v := (.long x1)) (by rw [e0]; exact Ar143.1) (State.isArrayOf_alike hZ.alike Ar143.2.1) Ar143.2.2 (own_inb G143 4 rfl (show ¬ (off < 0 ∨ 4 ≤ (off).toNatClampNeg) by rw [q]; decide)) (own_get G143 (by rw [q]; rfl)) (g := (mkF m 17 #[.val (.ref src), .val (.int off), .val (.int len), .val (.long (0 : Int64)), .second, .val (.int off)] [(.int off), (.ref src), (.long (0 : Int64))])) rfl rfl (hb hby own_d_prog_34_method_11_17) _ ?_
      refine XS.lxor X0.here hx rfl (hb hby own_d_prog_34_method_11_18) rfl ?_
      refine X0.ldc2J hx hown (mvT hZ (own_at hw 55 rfl)) (g := (mkF m 19 #[.val (.ref src), .val (.int off), .val (.int len), .val (.long (0 : Int64)), .second, .val (.int off)] [(.long ((0 : Int64) ^^^ x1))])) rfl (hb hby own_d_prog_34_method_11_19) ?_
      refine XS.lmul X0.here hx rfl (hb hby own_d_prog_34_method_11_22) rfl ?_
      show Steps p.tables e below (s₁.setTop (mkF m 23 #[.val (.ref src), .val (.int off), .val (.int len), .val (.long (0 : Int64)), .second, .val (.int off)] [(.long (((0 : Int64) ^^^ x1) * (-7046029254386353131 : Int64)))])) _
      refine XS.lstoreN X0.here hx rfl (hb hby own_d_prog_34_method_11_23) rfl (l' := #[.val (.ref src), .val (.int off), .val (.int len), .val (.long (((0 : Int64) ^^^ x1) * (-7046029254386353131 : Int64))), .second, .val (.int off)]) rfl ?_
      refine XS.iinc X0.here hx rfl (hb hby own_d_prog_34_method_11_24) rfl (l' := #[.val (.ref src), .val (.int off), .val (.int len), .val (.long (((0 : Int64) ^^^ x1) * (-7046029254386353131 : Int64))), .second, .val (.int (off + (1 : Int32)))]) rfl ?_
      refine XS.goto X0.here hx rfl (pc0 := 27) (pc' := 5) rfl (hb hby own_d_prog_34_method_11_27) (by decide) (by decide) ?_
      refine XS.iload X0.here hx rfl (hb hby own_d_prog_34_method_11_5) rfl ?_
      show Steps p.tables e below (s₁.setTop (mkF m 7 #[.val (.ref src), .val (.int off), .val (.int len), .val (.long (((0 : Int64) ^^^ x1) * (-7046029254386353131 : Int64))), .second, .val (.int (off + (1 : Int32)))] [(.int (off + (1 : Int32)))])) _
      refine XS.iloadN X0.here hx rfl (hb hby own_d_prog_34_method_11_7) rfl ?_
      refine XS.iloadN X0.here hx rfl (hb hby own_d_prog_34_method_11_8) rfl ?_
      refine XS.iadd X0.here hx rfl (hb hby own_d_prog_34_method_11_9) rfl ?_
      refine XS.icmpNo X0.here hx rfl (hb hby own_d_prog_34_method_11_10) rfl (tlt (show (off + (1 : Int32)) < (off + len) by rw [q, r]; decide)).2.1 ?_
      show Steps p.tables e below (s₁.setTop (mkF m 13 #[.val (.ref src), .val (.int off), .val (.int len), .val (.long (((0 : Int64) ^^^ x1) * (-7046029254386353131 : Int64))), .second, .val (.int (off + (1 : Int32)))] [])) _
      refine XS.lloadN X0.here hx rfl (hb hby own_d_prog_34_method_11_13) rfl ?_
      refine XS.aloadN X0.here hx rfl (hb hby own_d_prog_34_method_11_14) rfl rfl ?_
      refine XS.iload X0.here hx rfl (hb hby own_d_prog_34_method_11_15) rfl ?_
      refine X0.laload hx (j := (off + (1 : Int32))) (v := (.long x2)) (by rw [e0]; exact Ar144.1) (State.isArrayOf_alike hZ.alike Ar144.2.1) Ar144.2.2 (own_inb G144 4 rfl (show ¬ ((off + (1 : Int32)) < 0 ∨ 4 ≤ ((off + (1 : Int32))).toNatClampNeg) by rw [q]; decide)) (own_get G144 (by rw [q]; rfl)) (g := (mkF m 17 #[.val (.ref src), .val (.int off), .val (.int len), .val (.long (((0 : Int64) ^^^ x1) * (-7046029254386353131 : Int64))), .second, .val (.int (off + (1 : Int32)))] [(.int (off + (1 : Int32))), (.ref src), (.long (((0 : Int64) ^^^ x1) * (-7046029254386353131 : Int64)))])) rfl rfl (hb hby own_d_prog_34_method_11_17) _ ?_
      show Steps p.tables e below (s₁.setTop (mkF m 18 #[.val (.ref src), .val (.int off), .val (.int len), .val (.long (((0 : Int64) ^^^ x1) * (-7046029254386353131 : Int64))), .second, .val (.int (off + (1 : Int32)))] [(.long x2), (.long (((0 : Int64) ^^^ x1) * (-7046029254386353131 : Int64)))])) _
      refine XS.lxor X0.here hx rfl (hb hby own_d_prog_34_method_11_18) rfl ?_
      refine X0.ldc2J hx hown (mvT hZ (own_at hw 55 rfl)) (g := (mkF m 19 #[.val (.ref src), .val (.int off), .val (.int len), .val (.long (((0 : Int64) ^^^ x1) * (-7046029254386353131 : Int64))), .second, .val (.int (off + (1 : Int32)))] [(.long ((((0 : Int64) ^^^ x1) * (-7046029254386353131 : Int64)) ^^^ x2))])) rfl (hb hby own_d_prog_34_method_11_19) ?_
      refine XS.lmul X0.here hx rfl (hb hby own_d_prog_34_method_11_22) rfl ?_
      refine XS.lstoreN X0.here hx rfl (hb hby own_d_prog_34_method_11_23) rfl (l' := #[.val (.ref src), .val (.int off), .val (.int len), .val (.long (((((0 : Int64) ^^^ x1) * (-7046029254386353131 : Int64)) ^^^ x2) * (-7046029254386353131 : Int64))), .second, .val (.int (off + (1 : Int32)))]) rfl ?_
      show Steps p.tables e below (s₁.setTop (mkF m 24 #[.val (.ref src), .val (.int off), .val (.int len), .val (.long (((((0 : Int64) ^^^ x1) * (-7046029254386353131 : Int64)) ^^^ x2) * (-7046029254386353131 : Int64))), .second, .val (.int (off + (1 : Int32)))] [])) _
      refine XS.iinc X0.here hx rfl (hb hby own_d_prog_34_method_11_24) rfl (l' := #[.val (.ref src), .val (.int off), .val (.int len), .val (.long (((((0 : Int64) ^^^ x1) * (-7046029254386353131 : Int64)) ^^^ x2) * (-7046029254386353131 : Int64))), .second, .val (.int ((off + (1 : Int32)) + (1 : Int32)))]) rfl ?_
      refine XS.goto X0.here hx rfl (pc0 := 27) (pc' := 5) rfl (hb hby own_d_prog_34_method_11_27) (by decide) (by decide) ?_
      refine XS.iload X0.here hx rfl (hb hby own_d_prog_34_method_11_5) rfl ?_
      refine XS.iloadN X0.here hx rfl (hb hby own_d_prog_34_method_11_7) rfl ?_
      show Steps p.tables e below (s₁.setTop (mkF m 8 #[.val (.ref src), .val (.int off), .val (.int len), .val (.long (((((0 : Int64) ^^^ x1) * (-7046029254386353131 : Int64)) ^^^ x2) * (-7046029254386353131 : Int64))), .second, .val (.int ((off + (1 : Int32)) + (1 : Int32)))] [(.int off), (.int ((off + (1 : Int32)) + (1 : Int32)))])) _
      refine XS.iloadN X0.here hx rfl (hb hby own_d_prog_34_method_11_8) rfl ?_
      refine XS.iadd X0.here hx rfl (hb hby own_d_prog_34_method_11_9) rfl ?_
      refine XS.icmpYes X0.here hx rfl (pc0 := 10) (pc' := 30) rfl (hb hby own_d_prog_34_method_11_10) rfl (flt (show ¬ (((off + (1 : Int32)) + (1 : Int32)) < (off + len)) by rw [q, r]; decide)).2.1 (by decide) (by decide) ?_
      refine XS.lloadN X0.here hx rfl (hb hby own_d_prog_34_method_11_30) rfl ?_
      show Steps p.tables e below (s₁.setTop (mkF m 31 #[.val (.ref src), .val (.int off), .val (.int len), .val (.long (((((0 : Int64) ^^^ x1) * (-7046029254386353131 : Int64)) ^^^ x2) * (-7046029254386353131 : Int64))), .second, .val (.int ((off + (1 : Int32)) + (1 : Int32)))] [(.long (((((0 : Int64) ^^^ x1) * (-7046029254386353131 : Int64)) ^^^ x2) * (-7046029254386353131 : Int64)))])) _
      refine XS.lloadN X0.here hx rfl (hb hby own_d_prog_34_method_11_31) rfl ?_
      refine XS.bipush X0.here hx rfl (hb hby own_d_prog_34_method_11_32) ?_
      refine XS.lushr X0.here hx rfl (hb hby own_d_prog_34_method_11_34) rfl ?_
      refine XS.lxor X0.here hx rfl (hb hby own_d_prog_34_method_11_35) rfl ?_
      show Steps p.tables e below (s₁.setTop (mkF m 36 #[.val (.ref src), .val (.int off), .val (.int len), .val (.long (((((0 : Int64) ^^^ x1) * (-7046029254386353131 : Int64)) ^^^ x2) * (-7046029254386353131 : Int64))), .second, .val (.int ((off + (1 : Int32)) + (1 : Int32)))] [(.long ((((((0 : Int64) ^^^ x1) * (-7046029254386353131 : Int64)) ^^^ x2) * (-7046029254386353131 : Int64)) ^^^ (((((((0 : Int64) ^^^ x1) * (-7046029254386353131 : Int64)) ^^^ x2) * (-7046029254386353131 : Int64)).toUInt64 >>> ((32 : Int32) &&& 0x3f).toInt64.toUInt64).toInt64)))])) _
      refine X0.ldc2J hx hown (mvT hZ (own_at hw 55 rfl)) (g := (mkF m 36 #[.val (.ref src), .val (.int off), .val (.int len), .val (.long (((((0 : Int64) ^^^ x1) * (-7046029254386353131 : Int64)) ^^^ x2) * (-7046029254386353131 : Int64))), .second, .val (.int ((off + (1 : Int32)) + (1 : Int32)))] [(.long ((((((0 : Int64) ^^^ x1) * (-7046029254386353131 : Int64)) ^^^ x2) * (-7046029254386353131 : Int64)) ^^^ (((((((0 : Int64) ^^^ x1) * (-7046029254386353131 : Int64)) ^^^ x2) * (-7046029254386353131 : Int64)).toUInt64 >>> ((32 : Int32) &&& 0x3f).toInt64.toUInt64).toInt64)))])) rfl (hb hby own_d_prog_34_method_11_36) ?_
      refine XS.lmul X0.here hx rfl (hb hby own_d_prog_34_method_11_39) rfl ?_
      exact own_retJ X0 hx Bd.returns (hb hby own_d_prog_34_method_11_40) hr
    · show rm_hash_Q Z src cS x0 x1 x2 x3 off len h0 n0 _ s₁.heap _
      rw [e0]
      exact ⟨_, rfl, N0, rfl⟩
theorem rm_tag_ef (m : MethodId) (x0 : Addr) (x1 : Int64) : entryFrame m #[(.ref x0), (.long x1)] 3 = mkF m 0 #[.val (.ref x0), .val (.long x1), .second] [] := by first | (simp [entryFrame, mkF, argsToLocals, Value.category]; done) | rfl
def rm_tag_Q (Z : State) (I : Addr) (hv : Int64) (tA : Addr) (ct : ClassId) (ts : List Value) (h0 : Heap) (n0 : Nat) (v : Option Value) (h : Heap) (L : List Loc) : Prop := ∃ tv : Int32, v = some (.int tv) ∧ Fr n0 L ∧ h = h0 ∧ (tv = 0 ∨ tv = 1 ∨ tv = 2 ∨ tv = 3)
set_option maxRecDepth 65536 in
set_option maxHeartbeats 40000000 in
theorem rm_tag (l : Launch) (Z : State) (a0 : Array Value) (hw : ∀ d ∈ tables_1, d.before a0 Z = true) (ws : List Jvm.Cond) (I : Addr) (hv : Int64) (tA : Addr) (ct : ClassId) (ts : List Value) (h0 : Heap) (n0 : Nat) (Z0 : n0 ≤ h0.size) (F_t : Fld Z h0 I "com/example/orbitfold/orbitfold/StateIndex" "slots" "[I" (.ref tA)) (Lt : OwnLst Z h0 tA .int ct ts) (hts : ts.length = 2048) :
    MetFree l (⟨"com/example/orbitfold/orbitfold/StateIndex", "tagOf", "(J)I"⟩ : MethodName) (head1 (Jvm.Cond.code (⟨"com/example/orbitfold/orbitfold/StateIndex", "tagOf", "(J)I"⟩ : MethodName) prog_34_method_13_code 3 (some .int) :: ws) ({ frames := 2, cells := 0, slots := 0, locals := 30 } : Room)) (fun a₀ U₀ => a₀ = #[(.ref I), (.long hv)] ∧ Z.Warmed39 U₀.vm ∧ U₀.heap = h0) (fun _ _ _ _ _ => True) (fun _ U₀ o₀ U₁ => ∃ v₀ L₀, o₀ = .returned v₀ ∧ rm_tag_Q Z I hv tA ct ts h0 n0 v₀ U₁.heap L₀ ∧ FrameEnd U₀ o₀ U₁ L₀ ({ frames := 2, cells := 0, slots := 0, locals := 30 } : Room).cells ({ frames := 2, cells := 0, slots := 0, locals := 30 } : Room).slots) := by
  refine MetFree.of_bodySF (plainFor_of_name own_pn4) hisR ?_
  intro p e s m args below meth c s₁ Bd hml0 hP hK
  obtain ⟨rfl, hZ, hh⟩ := hP
  have hx := Bd.exec
  have hby := Bd.bytes
  have hml : c.maxLocals = 3 := hml0
  have hown : s.vm.findClass "com/example/orbitfold/orbitfold/StateIndex" = some m.cls := findClass_of_methodNamed Bd.named
  have hnm := (name_of_methodNamed Bd.named Bd.method).1
  have X0 : Stand p l e ({ frames := 2, cells := 0, slots := 0, locals := 30 } : Room) s m #[(.ref I), (.long hv)] below meth c s₁ [] 0 0 := Stand.of_body Bd
  have e0 : s₁.heap = h0 := by rw [← hh, Bd.state]; rfl
  have N0 := Fr.nil n0
  have pre0 : ∀ t, Steps p.tables e below (s₁.setTop (mkF m 0 #[.val (.ref I), .val (.long hv), .second] [])) t → Steps p.tables e below (s₁.setTop (entryFrame m #[(.ref I), (.long hv)] 3)) t := fun t kk₀ => castTop (rm_tag_ef m I hv) kk₀
  obtain ⟨T145, X145, e145, st145⟩ := getF X0 hx hZ hown (host := "") (Or.inl (own_at hw 22 rfl)) Via.refl e0 F_t (g := (mkF m 2 #[.val (.ref I), .val (.long hv), .second] [(.ref I), (.long hv)])) rfl rfl (hb hby own_d_prog_34_method_13_2)
  obtain ⟨cl146, Ar146, q146, G146⟩ := id Lt
  obtain ⟨_, _, ⟨T147, L147, k147, n147⟩, -, X147, ⟨Lc147, hQ147, l147, y147, z147⟩, st147⟩ := Jvm.LawKit.callS X145 hx (y := (⟨"java/lang/Long", "numberOfLeadingZeros", "(J)I"⟩ : MethodName)) hown (mvT hZ (own_at hw 60 rfl)) (mvT hZ (own_at hw 61 rfl)) (mvT hZ (own_at hw 62 rfl)) (mvT hZ (own_at hw 63 rfl)) (by decide) (backOf (W := 2) (rm_nlzJ l Z a0 hw [] ((2048 : Int32).toInt64 - (1 : Int64)) h0 n0 Z0 (by decide)) hZ (own_at hw 63 rfl) (own_at hw 62 rfl) (by decide) (by decide)) (g := (mkF m 9 #[.val (.ref I), .val (.long hv), .second] [(.long (((2048 : Int32).toInt64) - (1 : Int64))), (.long hv)])) rfl (by rw [hml]; rfl) (argsL := [(.long (((2048 : Int32).toInt64) - (1 : Int64)))]) (rest := [(.long hv)]) (lenOf own_pd5 rfl) rfl (by show 2 * 0 + _ ≤ _; exact Nat.le_of_eq rfl) (hb hby own_d_prog_34_method_13_9) (fun _ _ => ⟨rfl, e145, (by decide : 0 + 0 ≤ _), (by decide : 0 + 0 ≤ _)⟩)
  dsimp only [Pt.U, Pt.locs, Pt.cells, Pt.slots] at X147 l147 y147 z147 st147 hQ147
  subst l147 y147 z147
  obtain ⟨rfl, Nq147, eh147⟩ := hQ147
  have N147 := Fr.app N0 Nq147
  obtain ⟨fs, hr, hrun, hended, hW, hsame⟩ := X147.leave (v := some (.int ((((hv.toUInt64 >>> (((53 : Int32) - (2 : Int32)) &&& 0x3f).toInt64.toUInt64).toInt64).toInt32) &&& (3 : Int32)))) (fun h => by rw [Bd.returns] at h; cases h)
  refine ⟨_, _, pre0 _ ?_, hrun, hended, _, _, rfl, ?_, ⟨_, rfl⟩, hW, hsame.mono (by decide) (by decide)⟩
  · show Steps p.tables e below (s₁.setTop (mkF m 0 #[.val (.ref I), .val (.long hv), .second] [])) _
    refine XS.lloadN X0.here hx rfl (hb hby own_d_prog_34_method_13_0) rfl ?_
    refine XS.aloadN X0.here hx rfl (hb hby own_d_prog_34_method_13_1) rfl rfl ?_
    refine st145 _ ?_
    refine X145.arraylength hx (cell := cl146) (by rw [e145]; exact Ar146.1) (State.isArrayOf_alike hZ.alike Ar146.2.1) (g := (mkF m 5 #[.val (.ref I), .val (.long hv), .second] [(.ref tA), (.long hv)])) rfl (rest := [(.long hv)]) rfl (hb hby own_d_prog_34_method_13_5) _ ?_
    rw [own_len (z := (2048 : Int32)) G146 (by rw [hts]; decide)]
    show Steps p.tables e below (T145.setTop (mkF m 6 #[.val (.ref I), .val (.long hv), .second] [(.int (2048 : Int32)), (.long hv)])) _
    refine XS.i2l X145.here hx rfl (hb hby own_d_prog_34_method_13_6) rfl ?_
    refine XS.lconst X145.here hx rfl (hb hby own_d_prog_34_method_13_7) ?_
    refine XS.lsub X145.here hx rfl (hb hby own_d_prog_34_method_13_8) rfl ?_
    refine st147 _ ?_
    show Steps p.tables e below (T147.setTop (mkF m 12 #[.val (.ref I), .val (.long hv), .second] [(.int (53 : Int32)), (.long hv)])) _
    refine XS.iconst X147.here hx rfl (hb hby own_d_prog_34_method_13_12) ?_
    refine XS.isub X147.here hx rfl (hb hby own_d_prog_34_method_13_13) rfl ?_
    refine XS.lushr X147.here hx rfl (hb hby own_d_prog_34_method_13_14) rfl ?_
    refine XS.l2i X147.here hx rfl (hb hby own_d_prog_34_method_13_15) rfl ?_
    show Steps p.tables e below (T147.setTop (mkF m 16 #[.val (.ref I), .val (.long hv), .second] [(.int (((hv.toUInt64 >>> (((53 : Int32) - (2 : Int32)) &&& 0x3f).toInt64.toUInt64).toInt64).toInt32))])) _
    refine XS.iconst X147.here hx rfl (hb hby own_d_prog_34_method_13_16) ?_
    refine XS.iand X147.here hx rfl (hb hby own_d_prog_34_method_13_17) rfl ?_
    exact own_retI X147 hx Bd.returns (hb hby own_d_prog_34_method_13_18) hr
  · show rm_tag_Q Z I hv tA ct ts h0 n0 _ T147.heap _
    rw [eh147]
    exact ⟨_, rfl, N147, rfl, own_and3 _⟩
theorem rm_slot_ef (m : MethodId) (x0 : Addr) (x1 : Int64) : entryFrame m #[(.ref x0), (.long x1)] 3 = mkF m 0 #[.val (.ref x0), .val (.long x1), .second] [] := by first | (simp [entryFrame, mkF, argsToLocals, Value.category]; done) | rfl
def rm_slot_Q (Z : State) (I : Addr) (hv : Int64) (tA : Addr) (ct : ClassId) (ts : List Value) (h0 : Heap) (n0 : Nat) (v : Option Value) (h : Heap) (L : List Loc) : Prop := ∃ sv : Int32, v = some (.int sv) ∧ Fr n0 L ∧ h = h0 ∧ 0 ≤ sv.toInt ∧ sv.toInt < 2048
set_option maxRecDepth 65536 in
set_option maxHeartbeats 40000000 in
theorem rm_slot (l : Launch) (Z : State) (a0 : Array Value) (hw : ∀ d ∈ tables_1, d.before a0 Z = true) (ws : List Jvm.Cond) (I : Addr) (hv : Int64) (tA : Addr) (ct : ClassId) (ts : List Value) (h0 : Heap) (n0 : Nat) (Z0 : n0 ≤ h0.size) (F_t : Fld Z h0 I "com/example/orbitfold/orbitfold/StateIndex" "slots" "[I" (.ref tA)) (Lt : OwnLst Z h0 tA .int ct ts) (hts : ts.length = 2048) :
    MetFree l (⟨"com/example/orbitfold/orbitfold/StateIndex", "slotOf", "(J)I"⟩ : MethodName) (head1 (Jvm.Cond.code (⟨"com/example/orbitfold/orbitfold/StateIndex", "slotOf", "(J)I"⟩ : MethodName) prog_34_method_12_code 3 (some .int) :: ws) ({ frames := 2, cells := 0, slots := 0, locals := 30 } : Room)) (fun a₀ U₀ => a₀ = #[(.ref I), (.long hv)] ∧ Z.Warmed39 U₀.vm ∧ U₀.heap = h0) (fun _ _ _ _ _ => True) (fun _ U₀ o₀ U₁ => ∃ v₀ L₀, o₀ = .returned v₀ ∧ rm_slot_Q Z I hv tA ct ts h0 n0 v₀ U₁.heap L₀ ∧ FrameEnd U₀ o₀ U₁ L₀ ({ frames := 2, cells := 0, slots := 0, locals := 30 } : Room).cells ({ frames := 2, cells := 0, slots := 0, locals := 30 } : Room).slots) := by
  refine MetFree.of_bodySF (plainFor_of_name own_pn4) hisR ?_
  intro p e s m args below meth c s₁ Bd hml0 hP hK
  obtain ⟨rfl, hZ, hh⟩ := hP
  have hx := Bd.exec
  have hby := Bd.bytes
  have hml : c.maxLocals = 3 := hml0
  have hown : s.vm.findClass "com/example/orbitfold/orbitfold/StateIndex" = some m.cls := findClass_of_methodNamed Bd.named
  have hnm := (name_of_methodNamed Bd.named Bd.method).1
  have X0 : Stand p l e ({ frames := 2, cells := 0, slots := 0, locals := 30 } : Room) s m #[(.ref I), (.long hv)] below meth c s₁ [] 0 0 := Stand.of_body Bd
  have e0 : s₁.heap = h0 := by rw [← hh, Bd.state]; rfl
  have N0 := Fr.nil n0
  have pre0 : ∀ t, Steps p.tables e below (s₁.setTop (mkF m 0 #[.val (.ref I), .val (.long hv), .second] [])) t → Steps p.tables e below (s₁.setTop (entryFrame m #[(.ref I), (.long hv)] 3)) t := fun t kk₀ => castTop (rm_slot_ef m I hv) kk₀
  obtain ⟨T148, X148, e148, st148⟩ := getF X0 hx hZ hown (host := "") (Or.inl (own_at hw 22 rfl)) Via.refl e0 F_t (g := (mkF m 2 #[.val (.ref I), .val (.long hv), .second] [(.ref I), (.long hv)])) rfl rfl (hb hby own_d_prog_34_method_12_2)
  obtain ⟨cl149, Ar149, q149, G149⟩ := id Lt
  obtain ⟨_, _, ⟨T150, L150, k150, n150⟩, -, X150, ⟨Lc150, hQ150, l150, y150, z150⟩, st150⟩ := Jvm.LawKit.callS X148 hx (y := (⟨"java/lang/Long", "numberOfLeadingZeros", "(J)I"⟩ : MethodName)) hown (mvT hZ (own_at hw 60 rfl)) (mvT hZ (own_at hw 61 rfl)) (mvT hZ (own_at hw 62 rfl)) (mvT hZ (own_at hw 63 rfl)) (by decide) (backOf (W := 2) (rm_nlzJ l Z a0 hw [] ((2048 : Int32).toInt64 - (1 : Int64)) h0 n0 Z0 (by decide)) hZ (own_at hw 63 rfl) (own_at hw 62 rfl) (by decide) (by decide)) (g := (mkF m 9 #[.val (.ref I), .val (.long hv), .second] [(.long (((2048 : Int32).toInt64) - (1 : Int64))), (.long hv)])) rfl (by rw [hml]; rfl) (argsL := [(.long (((2048 : Int32).toInt64) - (1 : Int64)))]) (rest := [(.long hv)]) (lenOf own_pd5 rfl) rfl (by show 2 * 0 + _ ≤ _; exact Nat.le_of_eq rfl) (hb hby own_d_prog_34_method_12_9) (fun _ _ => ⟨rfl, e148, (by decide : 0 + 0 ≤ _), (by decide : 0 + 0 ≤ _)⟩)
  dsimp only [Pt.U, Pt.locs, Pt.cells, Pt.slots] at X150 l150 y150 z150 st150 hQ150
  subst l150 y150 z150
  obtain ⟨rfl, Nq150, eh150⟩ := hQ150
  have N150 := Fr.app N0 Nq150
  obtain ⟨fs, hr, hrun, hended, hW, hsame⟩ := X150.leave (v := some (.int (((hv.toUInt64 >>> ((53 : Int32) &&& 0x3f).toInt64.toUInt64).toInt64).toInt32))) (fun h => by rw [Bd.returns] at h; cases h)
  refine ⟨_, _, pre0 _ ?_, hrun, hended, _, _, rfl, ?_, ⟨_, rfl⟩, hW, hsame.mono (by decide) (by decide)⟩
  · show Steps p.tables e below (s₁.setTop (mkF m 0 #[.val (.ref I), .val (.long hv), .second] [])) _
    refine XS.lloadN X0.here hx rfl (hb hby own_d_prog_34_method_12_0) rfl ?_
    refine XS.aloadN X0.here hx rfl (hb hby own_d_prog_34_method_12_1) rfl rfl ?_
    refine st148 _ ?_
    refine X148.arraylength hx (cell := cl149) (by rw [e148]; exact Ar149.1) (State.isArrayOf_alike hZ.alike Ar149.2.1) (g := (mkF m 5 #[.val (.ref I), .val (.long hv), .second] [(.ref tA), (.long hv)])) rfl (rest := [(.long hv)]) rfl (hb hby own_d_prog_34_method_12_5) _ ?_
    rw [own_len (z := (2048 : Int32)) G149 (by rw [hts]; decide)]
    show Steps p.tables e below (T148.setTop (mkF m 6 #[.val (.ref I), .val (.long hv), .second] [(.int (2048 : Int32)), (.long hv)])) _
    refine XS.i2l X148.here hx rfl (hb hby own_d_prog_34_method_12_6) rfl ?_
    refine XS.lconst X148.here hx rfl (hb hby own_d_prog_34_method_12_7) ?_
    refine XS.lsub X148.here hx rfl (hb hby own_d_prog_34_method_12_8) rfl ?_
    refine st150 _ ?_
    show Steps p.tables e below (T150.setTop (mkF m 12 #[.val (.ref I), .val (.long hv), .second] [(.int (53 : Int32)), (.long hv)])) _
    refine XS.lushr X150.here hx rfl (hb hby own_d_prog_34_method_12_12) rfl ?_
    refine XS.l2i X150.here hx rfl (hb hby own_d_prog_34_method_12_13) rfl ?_
    exact own_retI X150 hx Bd.returns (hb hby own_d_prog_34_method_12_14) hr
  · show rm_slot_Q Z I hv tA ct ts h0 n0 _ T150.heap _
    rw [eh150]
    exact ⟨_, rfl, N150, rfl, (own_slot hv).1, (own_slot hv).2⟩
theorem rm_minA_ef (m : MethodId) (x0 : Int64) (x1 : Int64) : entryFrame m #[(.long x0), (.long x1)] 4 = mkF m 0 #[.val (.long x0), .second, .val (.long x1), .second] [] := by first | (simp [entryFrame, mkF, argsToLocals, Value.category]; done) | rfl
def rm_minA_Q (Z : State) (xv : Int64) (yv : Int64) (h0 : Heap) (n0 : Nat) (v : Option Value) (h : Heap) (L : List Loc) : Prop := v = some (.long xv) ∧ Fr n0 L ∧ h = h0
set_option maxRecDepth 65536 in
set_option maxHeartbeats 40000000 in
theorem rm_minA (l : Launch) (Z : State) (a0 : Array Value) (hw : ∀ d ∈ tables_1, d.before a0 Z = true) (ws : List Jvm.Cond) (xv : Int64) (yv : Int64) (h0 : Heap) (n0 : Nat) (Z0 : n0 ≤ h0.size) (hc : ¬ ((0 : Int32) < lcmpW xv yv)) :
    MetFree l (⟨"java/lang/Math", "min", "(JJ)J"⟩ : MethodName) (head1 (Jvm.Cond.code (⟨"java/lang/Math", "min", "(JJ)J"⟩ : MethodName) jdk_29_method_70_code 4 (some .long) :: ws) ({ frames := 0, cells := 0, slots := 0, locals := 0 } : Room)) (fun a₀ U₀ => a₀ = #[(.long xv), (.long yv)] ∧ Z.Warmed39 U₀.vm ∧ U₀.heap = h0) (fun _ _ _ _ _ => True) (fun _ U₀ o₀ U₁ => ∃ v₀ L₀, o₀ = .returned v₀ ∧ rm_minA_Q Z xv yv h0 n0 v₀ U₁.heap L₀ ∧ FrameEnd U₀ o₀ U₁ L₀ ({ frames := 0, cells := 0, slots := 0, locals := 0 } : Room).cells ({ frames := 0, cells := 0, slots := 0, locals := 0 } : Room).slots) := by
  refine MetFree.of_bodySF (Jvm.Free.JP.mathPlain rfl (by decide +kernel)) hisR ?_
  intro p e s m args below meth c s₁ Bd hml0 hP hK
  obtain ⟨rfl, hZ, hh⟩ := hP
  have hx := Bd.exec
  have hby := Bd.bytes
  have hml : c.maxLocals = 4 := hml0
  have hown : s.vm.findClass "java/lang/Math" = some m.cls := findClass_of_methodNamed Bd.named
  have hnm := (name_of_methodNamed Bd.named Bd.method).1
  have X0 : Stand p l e ({ frames := 0, cells := 0, slots := 0, locals := 0 } : Room) s m #[(.long xv), (.long yv)] below meth c s₁ [] 0 0 := Stand.of_body Bd
  have e0 : s₁.heap = h0 := by rw [← hh, Bd.state]; rfl
  have N0 := Fr.nil n0
  have pre0 : ∀ t, Steps p.tables e below (s₁.setTop (mkF m 0 #[.val (.long xv), .second, .val (.long yv), .second] [])) t → Steps p.tables e below (s₁.setTop (entryFrame m #[(.long xv), (.long yv)] 4)) t := fun t kk₀ => castTop (rm_minA_ef m xv yv) kk₀
  obtain ⟨fs, hr, hrun, hended, hW, hsame⟩ := X0.leave (v := some (.long xv)) (fun h => by rw [Bd.returns] at h; cases h)
  refine ⟨_, _, pre0 _ ?_, hrun, hended, _, _, rfl, ?_, ⟨_, rfl⟩, hW, hsame.mono (by decide) (by decide)⟩
  · show Steps p.tables e below (s₁.setTop (mkF m 0 #[.val (.long xv), .second, .val (.long yv), .second] [])) _
    refine XS.lloadN X0.here hx rfl (hb hby own_d_jdk_29_method_70_0) rfl ?_
    refine XS.lloadN X0.here hx rfl (hb hby own_d_jdk_29_method_70_1) rfl ?_
    refine XS.lcmp X0.here hx rfl (hb hby own_d_jdk_29_method_70_2) rfl ?_
    refine XS.ifNo X0.here hx rfl (hb hby own_d_jdk_29_method_70_3) rfl ((if0 _ _).trans (flt hc).2.2.1) ?_
    show Steps p.tables e below (s₁.setTop (mkF m 6 #[.val (.long xv), .second, .val (.long yv), .second] [])) _
    refine XS.lloadN X0.here hx rfl (hb hby own_d_jdk_29_method_70_6) rfl ?_
    refine XS.goto X0.here hx rfl (pc0 := 7) (pc' := 11) rfl (hb hby own_d_jdk_29_method_70_7) (by decide) (by decide) ?_
    exact own_retJ X0 hx Bd.returns (hb hby own_d_jdk_29_method_70_11) hr
  · show rm_minA_Q Z xv yv h0 n0 _ s₁.heap _
    rw [e0]
    exact ⟨rfl, N0, rfl⟩
theorem rm_minB_ef (m : MethodId) (x0 : Int64) (x1 : Int64) : entryFrame m #[(.long x0), (.long x1)] 4 = mkF m 0 #[.val (.long x0), .second, .val (.long x1), .second] [] := by first | (simp [entryFrame, mkF, argsToLocals, Value.category]; done) | rfl
def rm_minB_Q (Z : State) (xv : Int64) (yv : Int64) (h0 : Heap) (n0 : Nat) (v : Option Value) (h : Heap) (L : List Loc) : Prop := v = some (.long yv) ∧ Fr n0 L ∧ h = h0
set_option maxRecDepth 65536 in
set_option maxHeartbeats 40000000 in
theorem rm_minB (l : Launch) (Z : State) (a0 : Array Value) (hw : ∀ d ∈ tables_1, d.before a0 Z = true) (ws : List Jvm.Cond) (xv : Int64) (yv : Int64) (h0 : Heap) (n0 : Nat) (Z0 : n0 ≤ h0.size) (hc : (0 : Int32) < lcmpW xv yv) :
    MetFree l (⟨"java/lang/Math", "min", "(JJ)J"⟩ : MethodName) (head1 (Jvm.Cond.code (⟨"java/lang/Math", "min", "(JJ)J"⟩ : MethodName) jdk_29_method_70_code 4 (some .long) :: ws) ({ frames := 0, cells := 0, slots := 0, locals := 0 } : Room)) (fun a₀ U₀ => a₀ = #[(.long xv), (.long yv)] ∧ Z.Warmed39 U₀.vm ∧ U₀.heap = h0) (fun _ _ _ _ _ => True) (fun _ U₀ o₀ U₁ => ∃ v₀ L₀, o₀ = .returned v₀ ∧ rm_minB_Q Z xv yv h0 n0 v₀ U₁.heap L₀ ∧ FrameEnd U₀ o₀ U₁ L₀ ({ frames := 0, cells := 0, slots := 0, locals := 0 } : Room).cells ({ frames := 0, cells := 0, slots := 0, locals := 0 } : Room).slots) := by
  refine MetFree.of_bodySF (Jvm.Free.JP.mathPlain rfl (by decide +kernel)) hisR ?_
  intro p e s m args below meth c s₁ Bd hml0 hP hK
  obtain ⟨rfl, hZ, hh⟩ := hP
  have hx := Bd.exec
  have hby := Bd.bytes
  have hml : c.maxLocals = 4 := hml0
  have hown : s.vm.findClass "java/lang/Math" = some m.cls := findClass_of_methodNamed Bd.named
  have hnm := (name_of_methodNamed Bd.named Bd.method).1
  have X0 : Stand p l e ({ frames := 0, cells := 0, slots := 0, locals := 0 } : Room) s m #[(.long xv), (.long yv)] below meth c s₁ [] 0 0 := Stand.of_body Bd
  have e0 : s₁.heap = h0 := by rw [← hh, Bd.state]; rfl
  have N0 := Fr.nil n0
  have pre0 : ∀ t, Steps p.tables e below (s₁.setTop (mkF m 0 #[.val (.long xv), .second, .val (.long yv), .second] [])) t → Steps p.tables e below (s₁.setTop (entryFrame m #[(.long xv), (.long yv)] 4)) t := fun t kk₀ => castTop (rm_minB_ef m xv yv) kk₀
  obtain ⟨fs, hr, hrun, hended, hW, hsame⟩ := X0.leave (v := some (.long yv)) (fun h => by rw [Bd.returns] at h; cases h)
  refine ⟨_, _, pre0 _ ?_, hrun, hended, _, _, rfl, ?_, ⟨_, rfl⟩, hW, hsame.mono (by decide) (by decide)⟩
  · show Steps p.tables e below (s₁.setTop (mkF m 0 #[.val (.long xv), .second, .val (.long yv), .second] [])) _
    refine XS.lloadN X0.here hx rfl (hb hby own_d_jdk_29_method_70_0) rfl ?_
    refine XS.lloadN X0.here hx rfl (hb hby own_d_jdk_29_method_70_1) rfl ?_
    refine XS.lcmp X0.here hx rfl (hb hby own_d_jdk_29_method_70_2) rfl ?_
    refine XS.ifYes X0.here hx rfl (pc0 := 3) (pc' := 10) rfl (hb hby own_d_jdk_29_method_70_3) rfl ((if0 _ _).trans (tlt hc).2.2.1) (by decide) (by decide) ?_
    show Steps p.tables e below (s₁.setTop (mkF m 10 #[.val (.long xv), .second, .val (.long yv), .second] [])) _
    refine XS.lloadN X0.here hx rfl (hb hby own_d_jdk_29_method_70_10) rfl ?_
    exact own_retJ X0 hx Bd.returns (hb hby own_d_jdk_29_method_70_11) hr
  · show rm_minB_Q Z xv yv h0 n0 _ s₁.heap _
    rw [e0]
    exact ⟨rfl, N0, rfl⟩
theorem rm_maxA_ef (m : MethodId) (x0 : Int64) (x1 : Int64) : entryFrame m #[(.long x0), (.long x1)] 4 = mkF m 0 #[.val (.long x0), .second, .val (.long x1), .second] [] := by first | (simp [entryFrame, mkF, argsToLocals, Value.category]; done) | rfl
def rm_maxA_Q (Z : State) (xv : Int64) (yv : Int64) (h0 : Heap) (n0 : Nat) (v : Option Value) (h : Heap) (L : List Loc) : Prop := v = some (.long xv) ∧ Fr n0 L ∧ h = h0
set_option maxRecDepth 65536 in
set_option maxHeartbeats 40000000 in
theorem rm_maxA (l : Launch) (Z : State) (a0 : Array Value) (hw : ∀ d ∈ tables_1, d.before a0 Z = true) (ws : List Jvm.Cond) (xv : Int64) (yv : Int64) (h0 : Heap) (n0 : Nat) (Z0 : n0 ≤ h0.size) (hc : ¬ (lcmpW xv yv < (0 : Int32))) :
    MetFree l (⟨"java/lang/Math", "max", "(JJ)J"⟩ : MethodName) (head1 (Jvm.Cond.code (⟨"java/lang/Math", "max", "(JJ)J"⟩ : MethodName) jdk_29_method_66_code 4 (some .long) :: ws) ({ frames := 0, cells := 0, slots := 0, locals := 0 } : Room)) (fun a₀ U₀ => a₀ = #[(.long xv), (.long yv)] ∧ Z.Warmed39 U₀.vm ∧ U₀.heap = h0) (fun _ _ _ _ _ => True) (fun _ U₀ o₀ U₁ => ∃ v₀ L₀, o₀ = .returned v₀ ∧ rm_maxA_Q Z xv yv h0 n0 v₀ U₁.heap L₀ ∧ FrameEnd U₀ o₀ U₁ L₀ ({ frames := 0, cells := 0, slots := 0, locals := 0 } : Room).cells ({ frames := 0, cells := 0, slots := 0, locals := 0 } : Room).slots) := by
  refine MetFree.of_bodySF (Jvm.Free.JP.mathPlain rfl (by decide +kernel)) hisR ?_
  intro p e s m args below meth c s₁ Bd hml0 hP hK
  obtain ⟨rfl, hZ, hh⟩ := hP
  have hx := Bd.exec
  have hby := Bd.bytes
  have hml : c.maxLocals = 4 := hml0
  have hown : s.vm.findClass "java/lang/Math" = some m.cls := findClass_of_methodNamed Bd.named
  have hnm := (name_of_methodNamed Bd.named Bd.method).1
  have X0 : Stand p l e ({ frames := 0, cells := 0, slots := 0, locals := 0 } : Room) s m #[(.long xv), (.long yv)] below meth c s₁ [] 0 0 := Stand.of_body Bd
  have e0 : s₁.heap = h0 := by rw [← hh, Bd.state]; rfl
  have N0 := Fr.nil n0
  have pre0 : ∀ t, Steps p.tables e below (s₁.setTop (mkF m 0 #[.val (.long xv), .second, .val (.long yv), .second] [])) t → Steps p.tables e below (s₁.setTop (entryFrame m #[(.long xv), (.long yv)] 4)) t := fun t kk₀ => castTop (rm_maxA_ef m xv yv) kk₀
  obtain ⟨fs, hr, hrun, hended, hW, hsame⟩ := X0.leave (v := some (.long xv)) (fun h => by rw [Bd.returns] at h; cases h)
  refine ⟨_, _, pre0 _ ?_, hrun, hended, _, _, rfl, ?_, ⟨_, rfl⟩, hW, hsame.mono (by decide) (by decide)⟩
  · show Steps p.tables e below (s₁.setTop (mkF m 0 #[.val (.long xv), .second, .val (.long yv), .second] [])) _
    refine XS.lloadN X0.here hx rfl (hb hby own_d_jdk_29_method_66_0) rfl ?_
    refine XS.lloadN X0.here hx rfl (hb hby own_d_jdk_29_method_66_1) rfl ?_
    refine XS.lcmp X0.here hx rfl (hb hby own_d_jdk_29_method_66_2) rfl ?_
    refine XS.ifNo X0.here hx rfl (hb hby own_d_jdk_29_method_66_3) rfl ((if0 _ _).trans (flt hc).1) ?_
    show Steps p.tables e below (s₁.setTop (mkF m 6 #[.val (.long xv), .second, .val (.long yv), .second] [])) _
    refine XS.lloadN X0.here hx rfl (hb hby own_d_jdk_29_method_66_6) rfl ?_
    refine XS.goto X0.here hx rfl (pc0 := 7) (pc' := 11) rfl (hb hby own_d_jdk_29_method_66_7) (by decide) (by decide) ?_
    exact own_retJ X0 hx Bd.returns (hb hby own_d_jdk_29_method_66_11) hr
  · show rm_maxA_Q Z xv yv h0 n0 _ s₁.heap _
    rw [e0]
    exact ⟨rfl, N0, rfl⟩
theorem rm_maxB_ef (m : MethodId) (x0 : Int64) (x1 : Int64) : entryFrame m #[(.long x0), (.long x1)] 4 = mkF m 0 #[.val (.long x0), .second, .val (.long x1), .second] [] := by first | (simp [entryFrame, mkF, argsToLocals, Value.category]; done) | rfl
def rm_maxB_Q (Z : State) (xv : Int64) (yv : Int64) (h0 : Heap) (n0 : Nat) (v : Option Value) (h : Heap) (L : List Loc) : Prop := v = some (.long yv) ∧ Fr n0 L ∧ h = h0
set_option maxRecDepth 65536 in
set_option maxHeartbeats 40000000 in
theorem rm_maxB (l : Launch) (Z : State) (a0 : Array Value) (hw : ∀ d ∈ tables_1, d.before a0 Z = true) (ws : List Jvm.Cond) (xv : Int64) (yv : Int64) (h0 : Heap) (n0 : Nat) (Z0 : n0 ≤ h0.size) (hc : lcmpW xv yv < (0 : Int32)) :
    MetFree l (⟨"java/lang/Math", "max", "(JJ)J"⟩ : MethodName) (head1 (Jvm.Cond.code (⟨"java/lang/Math", "max", "(JJ)J"⟩ : MethodName) jdk_29_method_66_code 4 (some .long) :: ws) ({ frames := 0, cells := 0, slots := 0, locals := 0 } : Room)) (fun a₀ U₀ => a₀ = #[(.long xv), (.long yv)] ∧ Z.Warmed39 U₀.vm ∧ U₀.heap = h0) (fun _ _ _ _ _ => True) (fun _ U₀ o₀ U₁ => ∃ v₀ L₀, o₀ = .returned v₀ ∧ rm_maxB_Q Z xv yv h0 n0 v₀ U₁.heap L₀ ∧ FrameEnd U₀ o₀ U₁ L₀ ({ frames := 0, cells := 0, slots := 0, locals := 0 } : Room).cells ({ frames := 0, cells := 0, slots := 0, locals := 0 } : Room).slots) := by
  refine MetFree.of_bodySF (Jvm.Free.JP.mathPlain rfl (by decide +kernel)) hisR ?_
  intro p e s m args below meth c s₁ Bd hml0 hP hK
  obtain ⟨rfl, hZ, hh⟩ := hP
  have hx := Bd.exec
  have hby := Bd.bytes
  have hml : c.maxLocals = 4 := hml0
  have hown : s.vm.findClass "java/lang/Math" = some m.cls := findClass_of_methodNamed Bd.named
  have hnm := (name_of_methodNamed Bd.named Bd.method).1
  have X0 : Stand p l e ({ frames := 0, cells := 0, slots := 0, locals := 0 } : Room) s m #[(.long xv), (.long yv)] below meth c s₁ [] 0 0 := Stand.of_body Bd
  have e0 : s₁.heap = h0 := by rw [← hh, Bd.state]; rfl
  have N0 := Fr.nil n0
  have pre0 : ∀ t, Steps p.tables e below (s₁.setTop (mkF m 0 #[.val (.long xv), .second, .val (.long yv), .second] [])) t → Steps p.tables e below (s₁.setTop (entryFrame m #[(.long xv), (.long yv)] 4)) t := fun t kk₀ => castTop (rm_maxB_ef m xv yv) kk₀
  obtain ⟨fs, hr, hrun, hended, hW, hsame⟩ := X0.leave (v := some (.long yv)) (fun h => by rw [Bd.returns] at h; cases h)
  refine ⟨_, _, pre0 _ ?_, hrun, hended, _, _, rfl, ?_, ⟨_, rfl⟩, hW, hsame.mono (by decide) (by decide)⟩
  · show Steps p.tables e below (s₁.setTop (mkF m 0 #[.val (.long xv), .second, .val (.long yv), .second] [])) _
    refine XS.lloadN X0.here hx rfl (hb hby own_d_jdk_29_method_66_0) rfl ?_
    refine XS.lloadN X0.here hx rfl (hb hby own_d_jdk_29_method_66_1) rfl ?_
    refine XS.lcmp X0.here hx rfl (hb hby own_d_jdk_29_method_66_2) rfl ?_
    refine XS.ifYes X0.here hx rfl (pc0 := 3) (pc' := 10) rfl (hb hby own_d_jdk_29_method_66_3) rfl ((if0 _ _).trans (tlt hc).1) (by decide) (by decide) ?_
    show Steps p.tables e below (s₁.setTop (mkF m 10 #[.val (.long xv), .second, .val (.long yv), .second] [])) _
    refine XS.lloadN X0.here hx rfl (hb hby own_d_jdk_29_method_66_10) rfl ?_
    exact own_retJ X0 hx Bd.returns (hb hby own_d_jdk_29_method_66_11) hr
  · show rm_maxB_Q Z xv yv h0 n0 _ s₁.heap _
    rw [e0]
    exact ⟨rfl, N0, rfl⟩
theorem rm_minI_ef (m : MethodId) (x0 : Int32) (x1 : Int32) : entryFrame m #[(.int x0), (.int x1)] 2 = mkF m 0 #[.val (.int x0), .val (.int x1)] [] := by first | (simp [entryFrame, mkF, argsToLocals, Value.category]; done) | rfl
def rm_minI_Q (Z : State) (xv : Int32) (yv : Int32) (h0 : Heap) (n0 : Nat) (v : Option Value) (h : Heap) (L : List Loc) : Prop := v = some (.int xv) ∧ Fr n0 L ∧ h = h0
set_option maxRecDepth 65536 in
set_option maxHeartbeats 40000000 in
theorem rm_minI (l : Launch) (Z : State) (a0 : Array Value) (hw : ∀ d ∈ tables_1, d.before a0 Z = true) (ws : List Jvm.Cond) (xv : Int32) (yv : Int32) (h0 : Heap) (n0 : Nat) (Z0 : n0 ≤ h0.size) (hc : ¬ (yv < xv)) :
    MetFree l (⟨"java/lang/Math", "min", "(II)I"⟩ : MethodName) (head1 (Jvm.Cond.code (⟨"java/lang/Math", "min", "(II)I"⟩ : MethodName) jdk_29_method_69_code 2 (some .int) :: ws) ({ frames := 0, cells := 0, slots := 0, locals := 0 } : Room)) (fun a₀ U₀ => a₀ = #[(.int xv), (.int yv)] ∧ Z.Warmed39 U₀.vm ∧ U₀.heap = h0) (fun _ _ _ _ _ => True) (fun _ U₀ o₀ U₁ => ∃ v₀ L₀, o₀ = .returned v₀ ∧ rm_minI_Q Z xv yv h0 n0 v₀ U₁.heap L₀ ∧ FrameEnd U₀ o₀ U₁ L₀ ({ frames := 0, cells := 0, slots := 0, locals := 0 } : Room).cells ({ frames := 0, cells := 0, slots := 0, locals := 0 } : Room).slots) := by
  refine MetFree.of_bodySF (Jvm.Free.JP.mathPlain rfl (by decide +kernel)) hisR ?_
  intro p e s m args below meth c s₁ Bd hml0 hP hK
  obtain ⟨rfl, hZ, hh⟩ := hP
  have hx := Bd.exec
  have hby := Bd.bytes
  have hml : c.maxLocals = 2 := hml0
  have hown : s.vm.findClass "java/lang/Math" = some m.cls := findClass_of_methodNamed Bd.named
  have hnm := (name_of_methodNamed Bd.named Bd.method).1
  have X0 : Stand p l e ({ frames := 0, cells := 0, slots := 0, locals := 0 } : Room) s m #[(.int xv), (.int yv)] below meth c s₁ [] 0 0 := Stand.of_body Bd
  have e0 : s₁.heap = h0 := by rw [← hh, Bd.state]; rfl
  have N0 := Fr.nil n0
  have pre0 : ∀ t, Steps p.tables e below (s₁.setTop (mkF m 0 #[.val (.int xv), .val (.int yv)] [])) t → Steps p.tables e below (s₁.setTop (entryFrame m #[(.int xv), (.int yv)] 2)) t := fun t kk₀ => castTop (rm_minI_ef m xv yv) kk₀
  obtain ⟨fs, hr, hrun, hended, hW, hsame⟩ := X0.leave (v := some (.int xv)) (fun h => by rw [Bd.returns] at h; cases h)
  refine ⟨_, _, pre0 _ ?_, hrun, hended, _, _, rfl, ?_, ⟨_, rfl⟩, hW, hsame.mono (by decide) (by decide)⟩
  · show Steps p.tables e below (s₁.setTop (mkF m 0 #[.val (.int xv), .val (.int yv)] [])) _
    refine XS.iloadN X0.here hx rfl (hb hby own_d_jdk_29_method_69_0) rfl ?_
    refine XS.iloadN X0.here hx rfl (hb hby own_d_jdk_29_method_69_1) rfl ?_
    refine XS.icmpNo X0.here hx rfl (hb hby own_d_jdk_29_method_69_2) rfl (flt hc).2.2.1 ?_
    refine XS.iloadN X0.here hx rfl (hb hby own_d_jdk_29_method_69_5) rfl ?_
    show Steps p.tables e below (s₁.setTop (mkF m 6 #[.val (.int xv), .val (.int yv)] [(.int xv)])) _
    refine XS.goto X0.here hx rfl (pc0 := 6) (pc' := 10) rfl (hb hby own_d_jdk_29_method_69_6) (by decide) (by decide) ?_
    exact own_retI X0 hx Bd.returns (hb hby own_d_jdk_29_method_69_10) hr
  · show rm_minI_Q Z xv yv h0 n0 _ s₁.heap _
    rw [e0]
    exact ⟨rfl, N0, rfl⟩
theorem rm_grown_ef (m : MethodId) (x0 : Int32) (x1 : Int32) : entryFrame m #[(.int x0), (.int x1)] 2 = mkF m 0 #[.val (.int x0), .val (.int x1)] [] := by first | (simp [entryFrame, mkF, argsToLocals, Value.category]; done) | rfl
def rm_grown_Q (Z : State) (nd : Int32) (h0 : Heap) (n0 : Nat) (v : Option Value) (h : Heap) (L : List Loc) : Prop := v = some (.int nd) ∧ Fr n0 L ∧ h = h0
set_option maxRecDepth 65536 in
set_option maxHeartbeats 40000000 in
theorem rm_grown (l : Launch) (Z : State) (a0 : Array Value) (hw : ∀ d ∈ tables_1, d.before a0 Z = true) (ws : List Jvm.Cond) (nd : Int32) (h0 : Heap) (n0 : Nat) (Z0 : n0 ≤ h0.size) (hnd : nd = (1024 : Int32) ∨ nd = (2048 : Int32) ∨ nd = (3072 : Int32)) :
    MetFree l (⟨"com/example/orbitfold/orbitfold/MarkovChain", "grownLength", "(II)I"⟩ : MethodName) (head1 (Jvm.Cond.code (⟨"com/example/orbitfold/orbitfold/MarkovChain", "grownLength", "(II)I"⟩ : MethodName) prog_24_method_9_code 2 (some .int) :: ws) ({ frames := 1, cells := 0, slots := 0, locals := 17 } : Room)) (fun a₀ U₀ => a₀ = #[(.int (0 : Int32)), (.int nd)] ∧ Z.Warmed39 U₀.vm ∧ U₀.heap = h0) (fun _ _ _ _ _ => True) (fun _ U₀ o₀ U₁ => ∃ v₀ L₀, o₀ = .returned v₀ ∧ rm_grown_Q Z nd h0 n0 v₀ U₁.heap L₀ ∧ FrameEnd U₀ o₀ U₁ L₀ ({ frames := 1, cells := 0, slots := 0, locals := 17 } : Room).cells ({ frames := 1, cells := 0, slots := 0, locals := 17 } : Room).slots) := by
  refine MetFree.of_bodySF (plainFor_of_name own_pn5) hisR ?_
  intro p e s m args below meth c s₁ Bd hml0 hP hK
  obtain ⟨rfl, hZ, hh⟩ := hP
  have hx := Bd.exec
  have hby := Bd.bytes
  have hml : c.maxLocals = 2 := hml0
  have hown : s.vm.findClass "com/example/orbitfold/orbitfold/MarkovChain" = some m.cls := findClass_of_methodNamed Bd.named
  have hnm := (name_of_methodNamed Bd.named Bd.method).1
  have X0 : Stand p l e ({ frames := 1, cells := 0, slots := 0, locals := 17 } : Room) s m #[(.int (0 : Int32)), (.int nd)] below meth c s₁ [] 0 0 := Stand.of_body Bd
  have e0 : s₁.heap = h0 := by rw [← hh, Bd.state]; rfl
  have N0 := Fr.nil n0
  have pre0 : ∀ t, Steps p.tables e below (s₁.setTop (mkF m 0 #[.val (.int (0 : Int32)), .val (.int nd)] [])) t → Steps p.tables e below (s₁.setTop (entryFrame m #[(.int (0 : Int32)), (.int nd)] 2)) t := fun t kk₀ => castTop (rm_grown_ef m (0 : Int32) nd) kk₀
  obtain ⟨_, _, ⟨T151, L151, k151, n151⟩, -, X151, ⟨Lc151, hQ151, l151, y151, z151⟩, st151⟩ := Jvm.LawKit.callS X0 hx (y := (⟨"java/lang/Math", "max", "(JJ)J"⟩ : MethodName)) hown (mvT hZ (own_at hw 96 rfl)) (mvT hZ (own_at hw 88 rfl)) (mvT hZ (own_at hw 85 rfl)) (mvT hZ (own_at hw 89 rfl)) (by decide) (backOf (W := 2) (rm_maxA l Z a0 hw [] nd.toInt64 ((0 : Int32).toInt64 + ((0 : Int32) >>> ((1 : Int32) &&& 31)).toInt64) h0 n0 Z0 (own_nd3 hnd)) hZ (own_at hw 89 rfl) (own_at hw 85 rfl) (by decide) (by decide)) (g := (mkF m 32 #[.val (.int (0 : Int32)), .val (.int nd)] [(.long (((0 : Int32).toInt64) + (((0 : Int32) >>> ((1 : Int32) &&& 31)).toInt64))), (.long (nd.toInt64)), (.long (2147483639 : Int64))])) rfl (by rw [hml]; rfl) (argsL := [(.long (nd.toInt64)), (.long (((0 : Int32).toInt64) + (((0 : Int32) >>> ((1 : Int32) &&& 31)).toInt64)))]) (rest := [(.long (2147483639 : Int64))]) (lenOf own_pd6 rfl) rfl (by show 2 * 0 + _ ≤ _; exact Nat.le_of_eq rfl) (hb hby own_d_prog_24_method_9_32) (fun _ _ => ⟨rfl, e0, (by decide : 0 + 0 ≤ _), (by decide : 0 + 0 ≤ _)⟩)
  dsimp only [Pt.U, Pt.locs, Pt.cells, Pt.slots] at X151 l151 y151 z151 st151 hQ151
  subst l151 y151 z151
  obtain ⟨rfl, Nq151, eh151⟩ := hQ151
  have N151 := Fr.app N0 Nq151
  obtain ⟨_, _, ⟨T152, L152, k152, n152⟩, -, X152, ⟨Lc152, hQ152, l152, y152, z152⟩, st152⟩ := Jvm.LawKit.callS X151 hx (y := (⟨"java/lang/Math", "min", "(JJ)J"⟩ : MethodName)) hown (mvT hZ (own_at hw 97 rfl)) (mvT hZ (own_at hw 84 rfl)) (mvT hZ (own_at hw 85 rfl)) (mvT hZ (own_at hw 86 rfl)) (by decide) (backOf (W := 0) (rm_minB l Z a0 hw [] (2147483639 : Int64) nd.toInt64 h0 n0 Z0 (own_nd4 hnd)) hZ (own_at hw 86 rfl) (own_at hw 85 rfl) (by decide) (by decide)) (g := (mkF m 35 #[.val (.int (0 : Int32)), .val (.int nd)] [(.long (nd.toInt64)), (.long (2147483639 : Int64))])) rfl (by rw [hml]; rfl) (argsL := [(.long (2147483639 : Int64)), (.long (nd.toInt64))]) (rest := []) (lenOf own_pd6 rfl) rfl (by show 2 * 0 + _ ≤ _; exact Nat.le_of_eq rfl) (hb hby own_d_prog_24_method_9_35) (fun _ _ => ⟨rfl, eh151, (by decide : 0 + 0 ≤ _), (by decide : 0 + 0 ≤ _)⟩)
  dsimp only [Pt.U, Pt.locs, Pt.cells, Pt.slots] at X152 l152 y152 z152 st152 hQ152
  subst l152 y152 z152
  obtain ⟨rfl, Nq152, eh152⟩ := hQ152
  have N152 := Fr.app N151 Nq152
  obtain ⟨fs, hr, hrun, hended, hW, hsame⟩ := X152.leave (v := some (.int nd)) (fun h => by rw [Bd.returns] at h; cases h)
  refine ⟨_, _, pre0 _ ?_, hrun, hended, _, _, rfl, ?_, ⟨_, rfl⟩, hW, hsame.mono (by decide) (by decide)⟩
  · show Steps p.tables e below (s₁.setTop (mkF m 0 #[.val (.int (0 : Int32)), .val (.int nd)] [])) _
    refine XS.iloadN X0.here hx rfl (hb hby own_d_prog_24_method_9_0) rfl ?_
    refine XS.ifNo X0.here hx rfl (hb hby own_d_prog_24_method_9_1) rfl ((if0 _ _).trans (flt (own_nd1 hnd)).1) ?_
    refine XS.iloadN X0.here hx rfl (hb hby own_d_prog_24_method_9_4) rfl ?_
    refine X0.ldcI hx hown (mvT hZ (own_at hw 94 rfl)) (g := (mkF m 5 #[.val (.int (0 : Int32)), .val (.int nd)] [(.int nd)])) rfl (hb hby own_d_prog_24_method_9_5) ?_
    show Steps p.tables e below (s₁.setTop (mkF m 7 #[.val (.int (0 : Int32)), .val (.int nd)] [(.int (2147483639 : Int32)), (.int nd)])) _
    refine XS.icmpYes X0.here hx rfl (pc0 := 7) (pc' := 20) rfl (hb hby own_d_prog_24_method_9_7) rfl (flt (own_nd2 hnd)).2.2.2 (by decide) (by decide) ?_
    refine X0.ldc2J hx hown (mvT hZ (own_at hw 95 rfl)) (g := (mkF m 20 #[.val (.int (0 : Int32)), .val (.int nd)] [])) rfl (hb hby own_d_prog_24_method_9_20) ?_
    refine XS.iloadN X0.here hx rfl (hb hby own_d_prog_24_method_9_23) rfl ?_
    refine XS.i2l X0.here hx rfl (hb hby own_d_prog_24_method_9_24) rfl ?_
    show Steps p.tables e below (s₁.setTop (mkF m 25 #[.val (.int (0 : Int32)), .val (.int nd)] [(.long (nd.toInt64)), (.long (2147483639 : Int64))])) _
    refine XS.iloadN X0.here hx rfl (hb hby own_d_prog_24_method_9_25) rfl ?_
    refine XS.i2l X0.here hx rfl (hb hby own_d_prog_24_method_9_26) rfl ?_
    refine XS.iloadN X0.here hx rfl (hb hby own_d_prog_24_method_9_27) rfl ?_
    refine XS.iconst X0.here hx rfl (hb hby own_d_prog_24_method_9_28) ?_
    show Steps p.tables e below (s₁.setTop (mkF m 29 #[.val (.int (0 : Int32)), .val (.int nd)] [(.int (1 : Int32)), (.int (0 : Int32)), (.long ((0 : Int32).toInt64)), (.long (nd.toInt64)), (.long (2147483639 : Int64))])) _
    refine XS.ishr X0.here hx rfl (hb hby own_d_prog_24_method_9_29) rfl ?_
    refine XS.i2l X0.here hx rfl (hb hby own_d_prog_24_method_9_30) rfl ?_
    refine XS.ladd X0.here hx rfl (hb hby own_d_prog_24_method_9_31) rfl ?_
    refine st151 _ ?_
    show Steps p.tables e below (T151.setTop (mkF m 35 #[.val (.int (0 : Int32)), .val (.int nd)] [(.long (nd.toInt64)), (.long (2147483639 : Int64))])) _
    refine st152 _ ?_
    refine XS.l2i X152.here hx rfl (hb hby own_d_prog_24_method_9_38) rfl ?_
    show Steps p.tables e below (T152.setTop (mkF m 39 #[.val (.int (0 : Int32)), .val (.int nd)] [(.int ((nd.toInt64).toInt32))])) _
    rw [own_nd5 hnd]
    exact own_retI X152 hx Bd.returns (hb hby own_d_prog_24_method_9_39) hr
  · show rm_grown_Q Z nd h0 n0 _ T152.heap _
    rw [eh152]
    exact ⟨rfl, N152, rfl⟩
theorem rm_cof_ef (m : MethodId) (x0 : Addr) (x1 : Int32) : entryFrame m #[(.ref x0), (.int x1)] 3 = mkF m 0 #[.val (.ref x0), .val (.int x1), .unset] [] := by first | (simp [entryFrame, mkF, argsToLocals, Value.category]; done) | rfl
def rm_cof_Q (Z : State) (ka : Addr) (kc : ClassId) (nd : Int32) (h0 : Heap) (n0 : Nat) (v : Option Value) (h : Heap) (L : List Loc) : Prop := ∃ (da : Addr) (k : ClassId), v = some (.ref da) ∧ Fr n0 L ∧ Keep h0 h [] ∧ h0.size ≤ da ∧ OwnLst Z h da .long k (List.replicate nd.toNatClampNeg (.long (0 : Int64)))
set_option maxRecDepth 65536 in
set_option maxHeartbeats 40000000 in
theorem rm_cof (l : Launch) (Z : State) (a0 : Array Value) (hw : ∀ d ∈ tables_1, d.before a0 Z = true) (ws : List Jvm.Cond) (ka : Addr) (kc : ClassId) (nd : Int32) (h0 : Heap) (n0 : Nat) (Z0 : n0 ≤ h0.size) (OL : Old Z n0 h0) (La : OwnLst Z h0 ka .long kc []) (hnd : nd = (1024 : Int32) ∨ nd = (2048 : Int32) ∨ nd = (3072 : Int32)) :
    MetFree l (⟨"java/util/Arrays", "copyOf", "([JI)[J"⟩ : MethodName) (head1 (Jvm.Cond.code (⟨"java/util/Arrays", "copyOf", "([JI)[J"⟩ : MethodName) jdk_65_method_124_code 3 (some (.array .long)) :: ws) ({ frames := 1, cells := 1, slots := 3072, locals := 18 } : Room)) (fun a₀ U₀ => a₀ = #[(.ref ka), (.int nd)] ∧ Z.Warmed39 U₀.vm ∧ U₀.heap = h0) (fun _ _ _ _ _ => True) (fun _ U₀ o₀ U₁ => ∃ v₀ L₀, o₀ = .returned v₀ ∧ rm_cof_Q Z ka kc nd h0 n0 v₀ U₁.heap L₀ ∧ FrameEnd U₀ o₀ U₁ L₀ ({ frames := 1, cells := 1, slots := 3072, locals := 18 } : Room).cells ({ frames := 1, cells := 1, slots := 3072, locals := 18 } : Room).slots) := by
  refine MetFree.of_bodySF (plainFor_of_name own_pn3) hisR ?_
  intro p e s m args below meth c s₁ Bd hml0 hP hK
  obtain ⟨rfl, hZ, hh⟩ := hP
  have hx := Bd.exec
  have hby := Bd.bytes
  have hml : c.maxLocals = 3 := hml0
  have hown : s.vm.findClass "java/util/Arrays" = some m.cls := findClass_of_methodNamed Bd.named
  have hnm := (name_of_methodNamed Bd.named Bd.method).1
  have X0 : Stand p l e ({ frames := 1, cells := 1, slots := 3072, locals := 18 } : Room) s m #[(.ref ka), (.int nd)] below meth c s₁ [] 0 0 := Stand.of_body Bd
  have e0 : s₁.heap = h0 := by rw [← hh, Bd.state]; rfl
  have N0 := Fr.nil n0
  have pre0 : ∀ t, Steps p.tables e below (s₁.setTop (mkF m 0 #[.val (.ref ka), .val (.int nd), .unset] [])) t → Steps p.tables e below (s₁.setTop (entryFrame m #[(.ref ka), (.int nd)] 3)) t := fun t kk₀ => castTop (rm_cof_ef m ka nd) kk₀
  obtain ⟨cl153, Ar153, q153, G153⟩ := id La
  obtain ⟨T154, h154, k154, X154, e154, E154, A154, st154⟩ := newP X0 hx hZ (own_at hw 0 rfl) e0 (g := (mkF m 15 #[.val (.ref ka), .val (.int nd), .unset] [(.int nd)])) rfl (hb hby own_d_jdk_65_method_124_15) rfl (own_nd1 hnd) (cap := 3072) (own_nd7 hnd) (by decide) (by decide) (by decide)
  obtain ⟨b154, g154⟩ : ∃ z, z = h0.size := ⟨_, rfl⟩
  rw [← g154] at A154 st154
  have ne_ka_b154 : ka ≠ b154 := own_ne_lt La.lt g154
  have sz154 : h0.size ≤ b154 := Nat.le_trans (Nat.le_refl _) (Nat.le_of_eq g154.symm)
  have gn154 : n0 ≤ b154 := Nat.le_trans Z0 sz154
  have f155 := La.ext E154
  have OL154 := own_old_ext OL E154
  have KP154 : Keep h0 h154 [] := (Keep.refl _ _).ext E154
  have f156 : OwnLst Z h154 b154 .long k154 (List.replicate nd.toNatClampNeg (.long (0 : Int64))) := own_lst_new A154
  obtain ⟨cl157, Ar157, q157, G157⟩ := id f155
  obtain ⟨_, _, ⟨T158, L158, k158, n158⟩, -, X158, ⟨Lc158, hQ158, l158, y158, z158⟩, st158⟩ := Jvm.LawKit.callS X154 hx (y := (⟨"java/lang/Math", "min", "(II)I"⟩ : MethodName)) hown (mvT hZ (own_at hw 101 rfl)) (mvT hZ (own_at hw 102 rfl)) (mvT hZ (own_at hw 85 rfl)) (mvT hZ (own_at hw 103 rfl)) (by decide) (backOf (W := 4) (rm_minI l Z a0 hw [] (0 : Int32) nd h154 n0 (Nat.le_trans Z0 KP154.1) (own_nd1 hnd)) hZ (own_at hw 103 rfl) (own_at hw 85 rfl) (by decide) (by decide)) (g := (mkF m 25 #[.val (.ref ka), .val (.int nd), .val (.ref b154)] [(.int nd), (.int (0 : Int32)), (.int (0 : Int32)), (.ref b154), (.int (0 : Int32)), (.ref ka)])) rfl (by rw [hml]; rfl) (argsL := [(.int (0 : Int32)), (.int nd)]) (rest := [(.int (0 : Int32)), (.ref b154), (.int (0 : Int32)), (.ref ka)]) (lenOf own_pd7 rfl) rfl (by show 2 * 0 + _ ≤ _; exact Nat.le_of_eq rfl) (hb hby own_d_jdk_65_method_124_25) (fun _ _ => ⟨rfl, e154, (by decide : 1 + 0 ≤ _), (by decide : 3072 + 0 ≤ _)⟩)
  dsimp only [Pt.U, Pt.locs, Pt.cells, Pt.slots] at X158 l158 y158 z158 st158 hQ158
  subst l158 y158 z158
  obtain ⟨rfl, Nq158, eh158⟩ := hQ158
  have N158 := Fr.app N0 Nq158
  obtain ⟨T159, h159, X159, e159, K159, V159, st159⟩ := own_ac X158 hx hZ hown (own_at hw 104 rfl) (own_at hw 107 rfl) (own_at hw 105 rfl) (own_at hw 106 rfl) eh158 f155 f156 (sp := (0 : Int32)) (dp := (0 : Int32)) (n := (0 : Int32)) (by decide) (by decide) (by decide) (by decide) (by rw [List.length_replicate, show (0 : Int32).toInt = 0 by decide]; omega) (fun i hi => absurd hi (by rw [show (0 : Int32).toNatClampNeg = 0 by decide]; omega)) (g := (mkF m 28 #[.val (.ref ka), .val (.int nd), .val (.ref b154)] [(.int (0 : Int32)), (.int (0 : Int32)), (.ref b154), (.int (0 : Int32)), (.ref ka)])) rfl (by rw [hml]; rfl) (rest := []) rfl (hb hby own_d_jdk_65_method_124_28) (W := 0) (by show 2 * 0 + _ ≤ _; exact Nat.le_of_eq rfl) (by decide) (by decide)
  have N159 := own_fr_copy (dp := (0 : Int32).toNatClampNeg) (n := (0 : Int32).toNatClampNeg) N158 gn154
  have f160 := f155.keep K159 (by simp [ne_ka_b154])
  have OL159 := OL154.keep K159 (fun x hx => by
    simp only [List.mem_cons, List.not_mem_nil, or_false] at hx
    rcases hx with rfl
    · exact gn154)
  have KP159 : Keep h0 h159 [] := KP154.trans K159 (fun x hx => by
    simp only [List.mem_cons, List.not_mem_nil, or_false] at hx
    rcases hx with rfl
    · exact Or.inr sz154)
  obtain ⟨fs, hr, hrun, hended, hW, hsame⟩ := X159.leave (v := some (.ref b154)) (fun h => by rw [Bd.returns] at h; cases h)
  refine ⟨_, _, pre0 _ ?_, hrun, hended, _, _, rfl, ?_, ⟨_, rfl⟩, hW, hsame.mono (by decide) (by decide)⟩
  · show Steps p.tables e below (s₁.setTop (mkF m 0 #[.val (.ref ka), .val (.int nd), .unset] [])) _
    refine XS.iloadN X0.here hx rfl (hb hby own_d_jdk_65_method_124_0) rfl ?_
    refine XS.aloadN X0.here hx rfl (hb hby own_d_jdk_65_method_124_1) rfl rfl ?_
    refine X0.arraylength hx (cell := cl153) (by rw [e0]; exact Ar153.1) (State.isArrayOf_alike hZ.alike Ar153.2.1) (g := (mkF m 2 #[.val (.ref ka), .val (.int nd), .unset] [(.ref ka), (.int nd)])) rfl (rest := [(.int nd)]) rfl (hb hby own_d_jdk_65_method_124_2) _ ?_
    rw [own_len (z := (0 : Int32)) G153 rfl]
    show Steps p.tables e below (s₁.setTop (mkF m 3 #[.val (.ref ka), .val (.int nd), .unset] [(.int (0 : Int32)), (.int nd)])) _
    refine XS.icmpYes X0.here hx rfl (pc0 := 3) (pc' := 14) rfl (hb hby own_d_jdk_65_method_124_3) rfl (feq (own_nd6 hnd)).2 (by decide) (by decide) ?_
    refine XS.iloadN X0.here hx rfl (hb hby own_d_jdk_65_method_124_14) rfl ?_
    refine st154 _ ?_
    refine XS.astoreN X154.here hx rfl (hb hby own_d_jdk_65_method_124_17) rfl rfl (l' := #[.val (.ref ka), .val (.int nd), .val (.ref b154)]) rfl ?_
    show Steps p.tables e below (T154.setTop (mkF m 18 #[.val (.ref ka), .val (.int nd), .val (.ref b154)] [])) _
    refine XS.aloadN X154.here hx rfl (hb hby own_d_jdk_65_method_124_18) rfl rfl ?_
    refine XS.iconst X154.here hx rfl (hb hby own_d_jdk_65_method_124_19) ?_
    refine XS.aloadN X154.here hx rfl (hb hby own_d_jdk_65_method_124_20) rfl rfl ?_
    refine XS.iconst X154.here hx rfl (hb hby own_d_jdk_65_method_124_21) ?_
    show Steps p.tables e below (T154.setTop (mkF m 22 #[.val (.ref ka), .val (.int nd), .val (.ref b154)] [(.int (0 : Int32)), (.ref b154), (.int (0 : Int32)), (.ref ka)])) _
    refine XS.aloadN X154.here hx rfl (hb hby own_d_jdk_65_method_124_22) rfl rfl ?_
    refine X154.arraylength hx (cell := cl157) (by rw [e154]; exact Ar157.1) (State.isArrayOf_alike hZ.alike Ar157.2.1) (g := (mkF m 23 #[.val (.ref ka), .val (.int nd), .val (.ref b154)] [(.ref ka), (.int (0 : Int32)), (.ref b154), (.int (0 : Int32)), (.ref ka)])) rfl (rest := [(.int (0 : Int32)), (.ref b154), (.int (0 : Int32)), (.ref ka)]) rfl (hb hby own_d_jdk_65_method_124_23) _ ?_
    rw [own_len (z := (0 : Int32)) G157 rfl]
    refine XS.iloadN X154.here hx rfl (hb hby own_d_jdk_65_method_124_24) rfl ?_
    show Steps p.tables e below (T154.setTop (mkF m 25 #[.val (.ref ka), .val (.int nd), .val (.ref b154)] [(.int nd), (.int (0 : Int32)), (.int (0 : Int32)), (.ref b154), (.int (0 : Int32)), (.ref ka)])) _
    refine st158 _ ?_
    show Steps p.tables e below (T158.setTop (mkF m 28 #[.val (.ref ka), .val (.int nd), .val (.ref b154)] [(.int (0 : Int32)), (.int (0 : Int32)), (.ref b154), (.int (0 : Int32)), (.ref ka)])) _
    refine st159 _ ?_
    refine XS.aloadN X159.here hx rfl (hb hby own_d_jdk_65_method_124_31) rfl rfl ?_
    exact own_retA X159 hx (by first | rfl | decide) rfl Bd.returns (hb hby own_d_jdk_65_method_124_32) hr
  · show rm_cof_Q Z ka kc nd h0 n0 _ T159.heap _
    rw [e159]
    exact ⟨b154, k154, rfl, N159, KP159, sz154, V159⟩
theorem rm_keep1_ef (m : MethodId) (x0 : Addr) (x1 : Addr) (x2 : Int32) (x3 : Int32) : entryFrame m #[(.ref x0), (.ref x1), (.int x2), (.int x3)] 9 = mkF m 0 #[.val (.ref x0), .val (.ref x1), .val (.int x2), .val (.int x3), .unset, .unset, .unset, .unset, .unset] [] := by first | (simp [entryFrame, mkF, argsToLocals, Value.category]; done) | rfl
def rm_keep1_Q (Z : State) (I : Addr) (kA : Addr) (sA : Addr) (tA : Addr) (bs : Addr) (wA : Addr) (ck : ClassId) (cs : ClassId) (ct : ClassId) (cw : ClassId) (ts : List Value) (sea : Int32) (wiu : Int32) (ww : Int64) (src : Addr) (cS : ClassId) (x0 : Int64) (x1 : Int64) (x2 : Int64) (x3 : Int64) (l0 : Int32) (nd : Int32) (h0 : Heap) (n0 : Nat) (v : Option Value) (h : Heap) (L : List Loc) : Prop := ∃ (kB : Addr) (cB : ClassId), v = some (.int (0 : Int32)) ∧ Fr n0 L ∧ Keep h0 h [I, sA] ∧ h0.size ≤ kB ∧ OwnIdx Z h I kB sA tA bs wA cB cs ct cw (own_cp (List.replicate nd.toNatClampNeg (.long (0 : Int64))) [.long x0, .long x1, .long x2, .long x3] (0 : Int32).toNatClampNeg (0 : Int32).toNatClampNeg l0.toNatClampNeg) (List.set (List.replicate 1024 (.int (0 : Int32))) ((0 : Int32) + (1 : Int32)).toNatClampNeg (.int l0)) ts ((0 : Int32) + (1 : Int32)) sea wiu ww ∧ OwnNe I kB sA tA bs wA
set_option maxRecDepth 65536 in
set_option maxHeartbeats 40000000 in
theorem rm_keep1 (l : Launch) (Z : State) (a0 : Array Value) (hw : ∀ d ∈ tables_1, d.before a0 Z = true) (ws : List Jvm.Cond) (I : Addr) (kA : Addr) (sA : Addr) (tA : Addr) (bs : Addr) (wA : Addr) (ck : ClassId) (cs : ClassId) (ct : ClassId) (cw : ClassId) (ts : List Value) (sea : Int32) (wiu : Int32) (ww : Int64) (src : Addr) (cS : ClassId) (x0 : Int64) (x1 : Int64) (x2 : Int64) (x3 : Int64) (l0 : Int32) (nd : Int32) (h0 : Heap) (n0 : Nat) (Z0 : n0 ≤ h0.size) (OL : Old Z n0 h0) (D : OwnIdx Z h0 I kA sA tA bs wA ck cs ct cw [] (List.replicate 1024 (.int (0 : Int32))) ts (0 : Int32) sea wiu ww) (NE : OwnNe I kA sA tA bs wA) (GE : OwnGe n0 I kA sA tA bs wA) (Lx : OwnLst Z h0 src .long cS [.long x0, .long x1, .long x2, .long x3]) (NS : OwnNs src I kA sA tA bs wA) (hln : (l0 = (1 : Int32) ∧ nd = (1024 : Int32)) ∨ (l0 = (2 : Int32) ∧ nd = (2048 : Int32)) ∨ (l0 = (3 : Int32) ∧ nd = (3072 : Int32))) :
    MetFree l (⟨"com/example/orbitfold/orbitfold/StateIndex", "keep", "([JII)I"⟩ : MethodName) (head1 (Jvm.Cond.code (⟨"com/example/orbitfold/orbitfold/StateIndex", "keep", "([JII)I"⟩ : MethodName) prog_34_method_4_code 9 (some .int) :: ws) ({ frames := 2, cells := 1, slots := 3072, locals := 33 } : Room)) (fun a₀ U₀ => a₀ = #[(.ref I), (.ref src), (.int (0 : Int32)), (.int l0)] ∧ Z.Warmed39 U₀.vm ∧ U₀.heap = h0) (fun _ _ _ _ _ => True) (fun _ U₀ o₀ U₁ => ∃ v₀ L₀, o₀ = .returned v₀ ∧ rm_keep1_Q Z I kA sA tA bs wA ck cs ct cw ts sea wiu ww src cS x0 x1 x2 x3 l0 nd h0 n0 v₀ U₁.heap L₀ ∧ FrameEnd U₀ o₀ U₁ L₀ ({ frames := 2, cells := 1, slots := 3072, locals := 33 } : Room).cells ({ frames := 2, cells := 1, slots := 3072, locals := 33 } : Room).slots) := by
  refine MetFree.of_bodySF (plainFor_of_name own_pn4) hisR ?_
  intro p e s m args below meth c s₁ Bd hml0 hP hK
  obtain ⟨rfl, hZ, hh⟩ := hP
  have hx := Bd.exec
  have hby := Bd.bytes
  have hml : c.maxLocals = 9 := hml0
  have hown : s.vm.findClass "com/example/orbitfold/orbitfold/StateIndex" = some m.cls := findClass_of_methodNamed Bd.named
  have hnm := (name_of_methodNamed Bd.named Bd.method).1
  have X0 : Stand p l e ({ frames := 2, cells := 1, slots := 3072, locals := 33 } : Room) s m #[(.ref I), (.ref src), (.int (0 : Int32)), (.int l0)] below meth c s₁ [] 0 0 := Stand.of_body Bd
  have e0 : s₁.heap = h0 := by rw [← hh, Bd.state]; rfl
  have N0 := Fr.nil n0
  have pre0 : ∀ t, Steps p.tables e below (s₁.setTop (mkF m 0 #[.val (.ref I), .val (.ref src), .val (.int (0 : Int32)), .val (.int l0), .unset, .unset, .unset, .unset, .unset] [])) t → Steps p.tables e below (s₁.setTop (entryFrame m #[(.ref I), (.ref src), (.int (0 : Int32)), (.int l0)] 9)) t := fun t kk₀ => castTop (rm_keep1_ef m I src (0 : Int32) l0) kk₀
  obtain ⟨dE, dK, dS, dT, dB, dZ, dR, bE, bW, bY, bO, lK, lS, lT, lW⟩ := id D
  obtain ⟨ne_I_kA, ne_I_sA, ne_I_tA, ne_I_bs, ne_I_wA, ne_kA_sA, ne_kA_tA, ne_kA_bs, ne_kA_wA, ne_sA_tA, ne_sA_bs, ne_sA_wA, ne_tA_bs, ne_tA_wA, ne_bs_wA⟩ := id NE
  obtain ⟨g_I, g_kA, g_sA, g_tA, g_bs, g_wA⟩ := id GE
  obtain ⟨ns_I, ns_kA, ns_sA, ns_tA, ns_bs, ns_wA⟩ := id NS
  obtain ⟨T161, X161, e161, st161⟩ := getF X0 hx hZ hown (host := "") (Or.inl (own_at hw 77 rfl)) Via.refl e0 dZ (g := (mkF m 1 #[.val (.ref I), .val (.ref src), .val (.int (0 : Int32)), .val (.int l0), .unset, .unset, .unset, .unset, .unset] [(.ref I)])) rfl rfl (hb hby own_d_prog_34_method_4_1)
  obtain ⟨T162, X162, e162, st162⟩ := getF X161 hx hZ hown (host := "") (Or.inl (own_at hw 13 rfl)) Via.refl e161 dS (g := (mkF m 18 #[.val (.ref I), .val (.ref src), .val (.int (0 : Int32)), .val (.int l0), .unset, .unset, .unset, .unset, .unset] [(.ref I)])) rfl rfl (hb hby own_d_prog_34_method_4_18)
  obtain ⟨T163, X163, e163, st163⟩ := getF X162 hx hZ hown (host := "") (Or.inl (own_at hw 77 rfl)) Via.refl e162 dZ (g := (mkF m 22 #[.val (.ref I), .val (.ref src), .val (.int (0 : Int32)), .val (.int l0), .unset, .unset, .unset, .unset, .unset] [(.ref I), (.ref sA)])) rfl rfl (hb hby own_d_prog_34_method_4_22)
  obtain ⟨cl164, Ar164, q164, G164⟩ := id lS
  obtain ⟨T165, X165, e165, st165⟩ := getF X163 hx hZ hown (host := "") (Or.inl (own_at hw 10 rfl)) Via.refl e163 dK (g := (mkF m 39 #[.val (.ref I), .val (.ref src), .val (.int (0 : Int32)), .val (.int l0), .val (.int (0 : Int32)), .val (.long (((0 : Int32).toInt64) + (l0.toInt64))), .second, .unset, .unset] [(.ref I), (.long (((0 : Int32).toInt64) + (l0.toInt64)))])) rfl rfl (hb hby own_d_prog_34_method_4_39)
  obtain ⟨cl166, Ar166, q166, G166⟩ := id lK
  obtain ⟨T167, X167, e167, st167⟩ := getF X165 hx hZ hown (host := "") (Or.inl (own_at hw 77 rfl)) Via.refl e165 dZ (g := (mkF m 66 #[.val (.ref I), .val (.ref src), .val (.int (0 : Int32)), .val (.int l0), .val (.int (0 : Int32)), .val (.long (((0 : Int32).toInt64) + (l0.toInt64))), .second, .unset, .unset] [(.ref I)])) rfl rfl (hb hby own_d_prog_34_method_4_66)
  obtain ⟨_, _, ⟨T168, L168, k168, n168⟩, -, X168, ⟨Lc168, hQ168, l168, y168, z168⟩, st168⟩ := Jvm.LawKit.callS X167 hx (y := (⟨"java/lang/Math", "min", "(JJ)J"⟩ : MethodName)) hown (mvT hZ (own_at hw 83 rfl)) (mvT hZ (own_at hw 84 rfl)) (mvT hZ (own_at hw 85 rfl)) (mvT hZ (own_at hw 86 rfl)) (by decide) (backOf (W := 0) (rm_minA l Z a0 hw [] ((1024 : Int64) * (l0.toInt64)) (2147483639 : Int64) h0 n0 Z0 (own_k1c hln)) hZ (own_at hw 86 rfl) (own_at hw 85 rfl) (by decide) (by decide)) (g := (mkF m 81 #[.val (.ref I), .val (.ref src), .val (.int (0 : Int32)), .val (.int l0), .val (.int (0 : Int32)), .val (.long (((0 : Int32).toInt64) + (l0.toInt64))), .second, .unset, .unset] [(.long (2147483639 : Int64)), (.long ((1024 : Int64) * (l0.toInt64)))])) rfl (by rw [hml]; rfl) (argsL := [(.long ((1024 : Int64) * (l0.toInt64))), (.long (2147483639 : Int64))]) (rest := []) (lenOf own_pd6 rfl) rfl (by show 2 * 0 + _ ≤ _; exact Nat.le_of_eq rfl) (hb hby own_d_prog_34_method_4_81) (fun _ _ => ⟨rfl, e167, (by decide : 0 + 0 ≤ _), (by decide : 0 + 0 ≤ _)⟩)
  dsimp only [Pt.U, Pt.locs, Pt.cells, Pt.slots] at X168 l168 y168 z168 st168 hQ168
  subst l168 y168 z168
  obtain ⟨rfl, Nq168, eh168⟩ := hQ168
  have N168 := Fr.app N0 Nq168
  obtain ⟨T169, X169, e169, st169⟩ := getF X168 hx hZ hown (host := "") (Or.inl (own_at hw 10 rfl)) Via.refl eh168 dK (g := (mkF m 92 #[.val (.ref I), .val (.ref src), .val (.int (0 : Int32)), .val (.int l0), .val (.int (0 : Int32)), .val (.long (((0 : Int32).toInt64) + (l0.toInt64))), .second, .val (.long ((1024 : Int64) * (l0.toInt64))), .second] [(.ref I), (.ref I)])) rfl rfl (hb hby own_d_prog_34_method_4_92)
  obtain ⟨T170, X170, e170, st170⟩ := getF X169 hx hZ hown (host := "") (Or.inl (own_at hw 10 rfl)) Via.refl e169 dK (g := (mkF m 96 #[.val (.ref I), .val (.ref src), .val (.int (0 : Int32)), .val (.int l0), .val (.int (0 : Int32)), .val (.long (((0 : Int32).toInt64) + (l0.toInt64))), .second, .val (.long ((1024 : Int64) * (l0.toInt64))), .second] [(.ref I), (.ref kA), (.ref I)])) rfl rfl (hb hby own_d_prog_34_method_4_96)
  obtain ⟨cl171, Ar171, q171, G171⟩ := id lK
  obtain ⟨_, _, ⟨T172, L172, k172, n172⟩, -, X172, ⟨Lc172, hQ172, l172, y172, z172⟩, st172⟩ := Jvm.LawKit.callS X170 hx (y := (⟨"java/lang/Math", "max", "(JJ)J"⟩ : MethodName)) hown (mvT hZ (own_at hw 87 rfl)) (mvT hZ (own_at hw 88 rfl)) (mvT hZ (own_at hw 85 rfl)) (mvT hZ (own_at hw 89 rfl)) (by decide) (backOf (W := 3) (rm_maxB l Z a0 hw [] (((0 : Int32).toInt64) + (l0.toInt64)) ((1024 : Int64) * (l0.toInt64)) h0 n0 Z0 (own_k1d hln)) hZ (own_at hw 89 rfl) (own_at hw 85 rfl) (by decide) (by decide)) (g := (mkF m 104 #[.val (.ref I), .val (.ref src), .val (.int (0 : Int32)), .val (.int l0), .val (.int (0 : Int32)), .val (.long (((0 : Int32).toInt64) + (l0.toInt64))), .second, .val (.long ((1024 : Int64) * (l0.toInt64))), .second] [(.long ((1024 : Int64) * (l0.toInt64))), (.long (((0 : Int32).toInt64) + (l0.toInt64))), (.int (0 : Int32)), (.ref kA), (.ref I)])) rfl (by rw [hml]; rfl) (argsL := [(.long (((0 : Int32).toInt64) + (l0.toInt64))), (.long ((1024 : Int64) * (l0.toInt64)))]) (rest := [(.int (0 : Int32)), (.ref kA), (.ref I)]) (lenOf own_pd6 rfl) rfl (by show 2 * 0 + _ ≤ _; exact Nat.le_of_eq rfl) (hb hby own_d_prog_34_method_4_104) (fun _ _ => ⟨rfl, e170, (by decide : 0 + 0 ≤ _), (by decide : 0 + 0 ≤ _)⟩)
  dsimp only [Pt.U, Pt.locs, Pt.cells, Pt.slots] at X172 l172 y172 z172 st172 hQ172
  subst l172 y172 z172
  obtain ⟨rfl, Nq172, eh172⟩ := hQ172
  have N172 := Fr.app N168 Nq172
  obtain ⟨_, _, ⟨T173, L173, k173, n173⟩, -, X173, ⟨Lc173, hQ173, l173, y173, z173⟩, st173⟩ := Jvm.LawKit.callS X172 hx (y := (⟨"com/example/orbitfold/orbitfold/MarkovChain", "grownLength", "(II)I"⟩ : MethodName)) hown (mvT hZ (own_at hw 90 rfl)) (mvT hZ (own_at hw 91 rfl)) (mvT hZ (own_at hw 92 rfl)) (mvT hZ (own_at hw 93 rfl)) (by decide) (backOf (W := 2) (rm_grown l Z a0 hw [] nd h0 n0 Z0 (own_hnd hln)) hZ (own_at hw 93 rfl) (own_at hw 92 rfl) (by decide) (by decide)) (g := (mkF m 108 #[.val (.ref I), .val (.ref src), .val (.int (0 : Int32)), .val (.int l0), .val (.int (0 : Int32)), .val (.long (((0 : Int32).toInt64) + (l0.toInt64))), .second, .val (.long ((1024 : Int64) * (l0.toInt64))), .second] [(.int nd), (.int (0 : Int32)), (.ref kA), (.ref I)])) rfl (by rw [hml]; rfl) (argsL := [(.int (0 : Int32)), (.int nd)]) (rest := [(.ref kA), (.ref I)]) (lenOf own_pd7 rfl) rfl (by show 2 * 0 + _ ≤ _; exact Nat.le_of_eq rfl) (hb hby own_d_prog_34_method_4_108) (fun _ _ => ⟨rfl, eh172, (by decide : 0 + 0 ≤ _), (by decide : 0 + 0 ≤ _)⟩)
  dsimp only [Pt.U, Pt.locs, Pt.cells, Pt.slots] at X173 l173 y173 z173 st173 hQ173
  subst l173 y173 z173
  obtain ⟨rfl, Nq173, eh173⟩ := hQ173
  have N173 := Fr.app N172 Nq173
  obtain ⟨_, _, ⟨T174, L174, k174, n174⟩, -, X174, ⟨Lc174, hQ174, l174, y174, z174⟩, st174⟩ := Jvm.LawKit.callS X173 hx (y := (⟨"java/util/Arrays", "copyOf", "([JI)[J"⟩ : MethodName)) hown (mvT hZ (own_at hw 98 rfl)) (mvT hZ (own_at hw 99 rfl)) (mvT hZ (own_at hw 20 rfl)) (mvT hZ (own_at hw 100 rfl)) (by decide) (backOf (W := 1) (rm_cof l Z a0 hw [] kA ck nd h0 n0 Z0 OL lK (own_hnd hln)) hZ (own_at hw 100 rfl) (own_at hw 20 rfl) (by decide) (by decide)) (g := (mkF m 111 #[.val (.ref I), .val (.ref src), .val (.int (0 : Int32)), .val (.int l0), .val (.int (0 : Int32)), .val (.long (((0 : Int32).toInt64) + (l0.toInt64))), .second, .val (.long ((1024 : Int64) * (l0.toInt64))), .second] [(.int nd), (.ref kA), (.ref I)])) rfl (by rw [hml]; rfl) (argsL := [(.ref kA), (.int nd)]) (rest := [(.ref I)]) (lenOf own_pd8 rfl) rfl (by show 2 * 0 + _ ≤ _; exact Nat.le_of_eq rfl) (hb hby own_d_prog_34_method_4_111) (fun _ _ => ⟨rfl, eh173, (by decide : 0 + 1 ≤ _), (by decide : 0 + 3072 ≤ _)⟩)
  dsimp only [Pt.U, Pt.locs, Pt.cells, Pt.slots] at X174 l174 y174 z174 st174 hQ174
  subst l174 y174 z174
  obtain ⟨d174, kd174, rfl, Nq174, K174, le174, c174_0⟩ := hQ174
  have N174 := Fr.app N173 Nq174
  have ne_I_d174 : I ≠ d174 := own_ne_le dE.lt le174
  have ne_bs_d174 : bs ≠ d174 := own_ne_le bE.lt le174
  have ne_kA_d174 : kA ≠ d174 := own_ne_le lK.lt le174
  have ne_sA_d174 : sA ≠ d174 := own_ne_le lS.lt le174
  have ne_tA_d174 : tA ≠ d174 := own_ne_le lT.lt le174
  have ne_wA_d174 : wA ≠ d174 := own_ne_le lW.lt le174
  have ne_src_d174 : src ≠ d174 := own_ne_le Lx.lt le174
  have sz_d174 : h0.size ≤ d174 := Nat.le_trans (Nat.le_refl _) le174
  have gn_d174 : n0 ≤ d174 := Nat.le_trans Z0 sz_d174
  have f175 := dE.keep K174
  have f176 := dK.keep K174 (by simp)
  have f177 := dS.keep K174 (by simp)
  have f178 := dT.keep K174 (by simp)
  have f179 := dB.keep K174 (by simp)
  have f180 := dZ.keep K174 (by simp)
  have f181 := dR.keep K174 (by simp)
  have f182 := bE.keep K174
  have f183 := bW.keep K174 (by simp)
  have f184 := bY.keep K174 (by simp)
  have f185 := bO.keep K174 (by simp)
  have f186 := lK.keep K174 (by simp)
  have f187 := lS.keep K174 (by simp)
  have f188 := lT.keep K174 (by simp)
  have f189 := lW.keep K174 (by simp)
  have f190 := Lx.keep K174 (by simp)
  have OL174 := OL.keep K174 (fun x hx => by simp at hx)
  have KP174 : Keep h0 T174.heap [I, sA] := (Keep.refl _ _).trans K174 (fun x hx => by simp at hx)
  obtain ⟨T191, h191, X191, e191, W191, st191⟩ := putF X174 hx hZ hown (host := "") (Or.inl (own_at hw 10 rfl)) Via.refl rfl f176 f175 (Or.inl (own_at hw 11 rfl)) (own_at hw 2 rfl) (ty := (.array .long)) (by decide) rfl rfl (g := (mkF m 114 #[.val (.ref I), .val (.ref src), .val (.int (0 : Int32)), .val (.int l0), .val (.int (0 : Int32)), .val (.long (((0 : Int32).toInt64) + (l0.toInt64))), .second, .val (.long ((1024 : Int64) * (l0.toInt64))), .second] [(.ref d174), (.ref I)])) rfl rfl (hb hby own_d_prog_34_method_4_114)
  have N191 := Fr.snoc X191 N174 g_I
  have f192 := f175.wr W191
  have f193 : Fld Z h191 I "com/example/orbitfold/orbitfold/StateIndex" "keys" "[J" (.ref d174) := f176.same W191
  have f194 := f177.other W191 (Or.inr (slot_ne (Or.inl (own_at hw 14 rfl)) (Or.inl (own_at hw 11 rfl)) (by decide) (t := (.array .int)) (t' := (.array .long)) (by decide) (by decide)))
  have f195 := f178.other W191 (Or.inr (slot_ne (Or.inl (own_at hw 23 rfl)) (Or.inl (own_at hw 11 rfl)) (by decide) (t := (.array .int)) (t' := (.array .long)) (by decide) (by decide)))
  have f196 := f179.other W191 (Or.inr (slot_ne (Or.inr (own_at hw 46 rfl)) (Or.inl (own_at hw 11 rfl)) (by decide) (t := (.object "java/util/BitSet")) (t' := (.array .long)) (by decide) (by decide)))
  have f197 := f180.other W191 (Or.inr (slot_ne (Or.inl (own_at hw 78 rfl)) (Or.inl (own_at hw 11 rfl)) (by decide) (t := .int) (t' := (.array .long)) (by decide) (by decide)))
  have f198 := f181.other W191 (Or.inr (slot_ne (Or.inl (own_at hw 110 rfl)) (Or.inl (own_at hw 11 rfl)) (by decide) (t := .int) (t' := (.array .long)) (by decide) (by decide)))
  have f199 := f182.wr W191
  have f200 := f183.other W191 (Or.inl (Ne.symm ne_I_bs))
  have f201 := f184.other W191 (Or.inl (Ne.symm ne_I_bs))
  have f202 := f185.other W191 (Or.inl (Ne.symm ne_I_bs))
  have f203 := f186.other W191 (Ne.symm ne_I_kA)
  have f204 := f187.other W191 (Ne.symm ne_I_sA)
  have f205 := f188.other W191 (Ne.symm ne_I_tA)
  have f206 := f189.other W191 (Ne.symm ne_I_wA)
  have f207 := f190.other W191 ns_I
  have f208 := c174_0.other W191 (Ne.symm ne_I_d174)
  have OL191 := OL174.wr W191 g_I
  have KP191 : Keep h0 h191 [I, sA] := KP174.wr W191 (Or.inl (by simp))
  obtain ⟨T209, X209, e209, st209⟩ := getF X191 hx hZ hown (host := "") (Or.inl (own_at hw 77 rfl)) Via.refl e191 f197 (g := (mkF m 118 #[.val (.ref I), .val (.ref src), .val (.int (0 : Int32)), .val (.int l0), .val (.int (0 : Int32)), .val (.long (((0 : Int32).toInt64) + (l0.toInt64))), .second, .val (.long ((1024 : Int64) * (l0.toInt64))), .second] [(.ref I)])) rfl rfl (hb hby own_d_prog_34_method_4_118)
  obtain ⟨T210, X210, e210, st210⟩ := getF X209 hx hZ hown (host := "") (Or.inl (own_at hw 13 rfl)) Via.refl e209 f194 (g := (mkF m 124 #[.val (.ref I), .val (.ref src), .val (.int (0 : Int32)), .val (.int l0), .val (.int (0 : Int32)), .val (.long (((0 : Int32).toInt64) + (l0.toInt64))), .second, .val (.long ((1024 : Int64) * (l0.toInt64))), .second] [(.ref I), (.int ((0 : Int32) + (1 : Int32)))])) rfl rfl (hb hby own_d_prog_34_method_4_124)
  obtain ⟨cl211, Ar211, q211, G211⟩ := id f204
  obtain ⟨T212, X212, e212, st212⟩ := getF X210 hx hZ hown (host := "") (Or.inl (own_at hw 10 rfl)) Via.refl e210 f193 (g := (mkF m 159 #[.val (.ref I), .val (.ref src), .val (.int (0 : Int32)), .val (.int l0), .val (.int (0 : Int32)), .val (.long (((0 : Int32).toInt64) + (l0.toInt64))), .second, .val (.long ((1024 : Int64) * (l0.toInt64))), .second] [(.ref I), (.int (0 : Int32)), (.ref src)])) rfl rfl (hb hby own_d_prog_34_method_4_159)
  obtain ⟨T213, h213, X213, e213, K213, V213, st213⟩ := own_ac X212 hx hZ hown (own_at hw 108 rfl) (own_at hw 107 rfl) (own_at hw 105 rfl) (own_at hw 106 rfl) e212 f207 f208 (sp := (0 : Int32)) (dp := (0 : Int32)) (n := l0) (by decide) (by decide) (own_k1j hln) (own_k1f hln) (by rw [List.length_replicate]; exact own_k1g hln) (fun i hi => own_xl x0 x1 x2 x3 _ (Nat.lt_of_lt_of_le (Nat.add_lt_add_left hi _) (own_k1h hln))) (g := (mkF m 165 #[.val (.ref I), .val (.ref src), .val (.int (0 : Int32)), .val (.int l0), .val (.int (0 : Int32)), .val (.long (((0 : Int32).toInt64) + (l0.toInt64))), .second, .val (.long ((1024 : Int64) * (l0.toInt64))), .second] [(.int l0), (.int (0 : Int32)), (.ref d174), (.int (0 : Int32)), (.ref src)])) rfl (by rw [hml]; rfl) (rest := []) rfl (hb hby own_d_prog_34_method_4_165) (W := 0) (by show 2 * 0 + _ ≤ _; exact Nat.le_of_eq rfl) (by decide) (by decide)
  have N213 := own_fr_copy (dp := (0 : Int32).toNatClampNeg) (n := l0.toNatClampNeg) N191 gn_d174
  have f214 := f192.keep K213
  have f215 := f193.keep K213 (by simp [ne_I_d174])
  have f216 := f194.keep K213 (by simp [ne_I_d174])
  have f217 := f195.keep K213 (by simp [ne_I_d174])
  have f218 := f196.keep K213 (by simp [ne_I_d174])
  have f219 := f197.keep K213 (by simp [ne_I_d174])
  have f220 := f198.keep K213 (by simp [ne_I_d174])
  have f221 := f199.keep K213
  have f222 := f200.keep K213 (by simp [ne_bs_d174])
  have f223 := f201.keep K213 (by simp [ne_bs_d174])
  have f224 := f202.keep K213 (by simp [ne_bs_d174])
  have f225 := f203.keep K213 (by simp [ne_kA_d174])
  have f226 := f204.keep K213 (by simp [ne_sA_d174])
  have f227 := f205.keep K213 (by simp [ne_tA_d174])
  have f228 := f206.keep K213 (by simp [ne_wA_d174])
  have f229 := f207.keep K213 (by simp [ne_src_d174])
  have OL213 := OL191.keep K213 (fun x hx => by
    simp only [List.mem_cons, List.not_mem_nil, or_false] at hx
    rcases hx with rfl
    · exact gn_d174)
  have KP213 : Keep h0 h213 [I, sA] := KP191.trans K213 (fun x hx => by
    simp only [List.mem_cons, List.not_mem_nil, or_false] at hx
    rcases hx with rfl
    · exact Or.inr sz_d174)
  obtain ⟨T230, X230, e230, st230⟩ := getF X213 hx hZ hown (host := "") (Or.inl (own_at hw 13 rfl)) Via.refl e213 f216 (g := (mkF m 169 #[.val (.ref I), .val (.ref src), .val (.int (0 : Int32)), .val (.int l0), .val (.int (0 : Int32)), .val (.long (((0 : Int32).toInt64) + (l0.toInt64))), .second, .val (.long ((1024 : Int64) * (l0.toInt64))), .second] [(.ref I)])) rfl rfl (hb hby own_d_prog_34_method_4_169)
  obtain ⟨T231, X231, e231, st231⟩ := getF X230 hx hZ hown (host := "") (Or.inl (own_at hw 77 rfl)) Via.refl e230 f219 (g := (mkF m 173 #[.val (.ref I), .val (.ref src), .val (.int (0 : Int32)), .val (.int l0), .val (.int (0 : Int32)), .val (.long (((0 : Int32).toInt64) + (l0.toInt64))), .second, .val (.long ((1024 : Int64) * (l0.toInt64))), .second] [(.ref I), (.ref sA)])) rfl rfl (hb hby own_d_prog_34_method_4_173)
  obtain ⟨cl233, Ar233, q233, G233⟩ := id f226
  obtain ⟨T233, h233, X233, e233, W233, st233⟩ := stI X231 hx hZ e231 Ar233 (j := ((0 : Int32) + (1 : Int32))) (own_inb G233 1024 List.length_replicate (by decide)) (g := (mkF m 181 #[.val (.ref I), .val (.ref src), .val (.int (0 : Int32)), .val (.int l0), .val (.int (0 : Int32)), .val (.long (((0 : Int32).toInt64) + (l0.toInt64))), .second, .val (.long ((1024 : Int64) * (l0.toInt64))), .second] [(.int l0), (.int ((0 : Int32) + (1 : Int32))), (.ref sA)])) rfl rfl (hb hby own_d_prog_34_method_4_181)
  have N233 := Fr.snoc X233 N213 g_sA
  have v232 := own_lst_set Ar233 q233 G233 W233
  have f234 := f214.wr W233
  have f235 := f215.other W233 (Or.inl ne_I_sA)
  have f236 := f216.other W233 (Or.inl ne_I_sA)
  have f237 := f217.other W233 (Or.inl ne_I_sA)
  have f238 := f218.other W233 (Or.inl ne_I_sA)
  have f239 := f219.other W233 (Or.inl ne_I_sA)
  have f240 := f220.other W233 (Or.inl ne_I_sA)
  have f241 := f221.wr W233
  have f242 := f222.other W233 (Or.inl (Ne.symm ne_sA_bs))
  have f243 := f223.other W233 (Or.inl (Ne.symm ne_sA_bs))
  have f244 := f224.other W233 (Or.inl (Ne.symm ne_sA_bs))
  have f245 := f225.other W233 ne_kA_sA
  have f246 : OwnLst Z h233 sA .int cs (List.set (List.replicate 1024 (.int (0 : Int32))) ((0 : Int32) + (1 : Int32)).toNatClampNeg (.int l0)) := v232
  have f247 := f227.other W233 (Ne.symm ne_sA_tA)
  have f248 := f228.other W233 (Ne.symm ne_sA_wA)
  have f249 := f229.other W233 ns_sA
  have f250 := V213.other W233 (Ne.symm ne_sA_d174)
  have OL233 := OL213.wr W233 g_sA
  have KP233 : Keep h0 h233 [I, sA] := KP213.wr W233 (Or.inl (by simp))
  obtain ⟨T251, X251, e251, st251⟩ := getF X233 hx hZ hown (host := "") (Or.inl (own_at hw 77 rfl)) Via.refl e233 f239 (g := (mkF m 184 #[.val (.ref I), .val (.ref src), .val (.int (0 : Int32)), .val (.int l0), .val (.int (0 : Int32)), .val (.long (((0 : Int32).toInt64) + (l0.toInt64))), .second, .val (.long ((1024 : Int64) * (l0.toInt64))), .second] [(.ref I), (.ref I)])) rfl rfl (hb hby own_d_prog_34_method_4_184)
  obtain ⟨T252, h252, X252, e252, W252, st252⟩ := putF X251 hx hZ hown (host := "") (Or.inl (own_at hw 77 rfl)) Via.refl e251 f239 f234 (Or.inl (own_at hw 78 rfl)) (own_at hw 2 rfl) (ty := .int) (by decide) rfl rfl (g := (mkF m 189 #[.val (.ref I), .val (.ref src), .val (.int (0 : Int32)), .val (.int l0), .val (.int (0 : Int32)), .val (.long (((0 : Int32).toInt64) + (l0.toInt64))), .second, .val (.long ((1024 : Int64) * (l0.toInt64))), .second] [(.int ((0 : Int32) + (1 : Int32))), (.ref I)])) rfl rfl (hb hby own_d_prog_34_method_4_189)
  have N252 := Fr.snoc X252 N233 g_I
  have f253 := f234.wr W252
  have f254 := f235.other W252 (Or.inr (slot_ne (Or.inl (own_at hw 11 rfl)) (Or.inl (own_at hw 78 rfl)) (by decide) (t := (.array .long)) (t' := .int) (by decide) (by decide)))
  have f255 := f236.other W252 (Or.inr (slot_ne (Or.inl (own_at hw 14 rfl)) (Or.inl (own_at hw 78 rfl)) (by decide) (t := (.array .int)) (t' := .int) (by decide) (by decide)))
  have f256 := f237.other W252 (Or.inr (slot_ne (Or.inl (own_at hw 23 rfl)) (Or.inl (own_at hw 78 rfl)) (by decide) (t := (.array .int)) (t' := .int) (by decide) (by decide)))
  have f257 := f238.other W252 (Or.inr (slot_ne (Or.inr (own_at hw 46 rfl)) (Or.inl (own_at hw 78 rfl)) (by decide) (t := (.object "java/util/BitSet")) (t' := .int) (by decide) (by decide)))
  have f258 : Fld Z h252 I "com/example/orbitfold/orbitfold/StateIndex" "size" "I" (.int ((0 : Int32) + (1 : Int32))) := f239.same W252
  have f259 := f240.other W252 (Or.inr (slot_ne (Or.inl (own_at hw 110 rfl)) (Or.inl (own_at hw 78 rfl)) (by decide) (t := .int) (t' := .int) (by decide) (by decide)))
  have f260 := f241.wr W252
  have f261 := f242.other W252 (Or.inl (Ne.symm ne_I_bs))
  have f262 := f243.other W252 (Or.inl (Ne.symm ne_I_bs))
  have f263 := f244.other W252 (Or.inl (Ne.symm ne_I_bs))
  have f264 := f245.other W252 (Ne.symm ne_I_kA)
  have f265 := f246.other W252 (Ne.symm ne_I_sA)
  have f266 := f247.other W252 (Ne.symm ne_I_tA)
  have f267 := f248.other W252 (Ne.symm ne_I_wA)
  have f268 := f249.other W252 ns_I
  have f269 := f250.other W252 (Ne.symm ne_I_d174)
  have OL252 := OL233.wr W252 g_I
  have KP252 : Keep h0 h252 [I, sA] := KP233.wr W252 (Or.inl (by simp))
  obtain ⟨T270, X270, e270, st270⟩ := getF X252 hx hZ hown (host := "") (Or.inl (own_at hw 77 rfl)) Via.refl e252 f258 (g := (mkF m 193 #[.val (.ref I), .val (.ref src), .val (.int (0 : Int32)), .val (.int l0), .val (.int (0 : Int32)), .val (.long (((0 : Int32).toInt64) + (l0.toInt64))), .second, .val (.long ((1024 : Int64) * (l0.toInt64))), .second] [(.ref I)])) rfl rfl (hb hby own_d_prog_34_method_4_193)
  obtain ⟨fs, hr, hrun, hended, hW, hsame⟩ := X270.leave (v := some (.int (((0 : Int32) + (1 : Int32)) - (1 : Int32)))) (fun h => by rw [Bd.returns] at h; cases h)
  refine ⟨_, _, pre0 _ ?_, hrun, hended, _, _, rfl, ?_, ⟨_, rfl⟩, hW, hsame.mono (by decide) (by decide)⟩
  · show Steps p.tables e below (s₁.setTop (mkF m 0 #[.val (.ref I), .val (.ref src), .val (.int (0 : Int32)), .val (.int l0), .unset, .unset, .unset, .unset, .unset] [])) _
    refine XS.aloadN X0.here hx rfl (hb hby own_d_prog_34_method_4_0) rfl rfl ?_
    refine st161 _ ?_
    refine X161.ldcI hx hown (mvT hZ (own_at hw 79 rfl)) (g := (mkF m 4 #[.val (.ref I), .val (.ref src), .val (.int (0 : Int32)), .val (.int l0), .unset, .unset, .unset, .unset, .unset] [(.int (0 : Int32))])) rfl (hb hby own_d_prog_34_method_4_4) ?_
    refine XS.icmpYes X161.here hx rfl (pc0 := 6) (pc' := 17) rfl (hb hby own_d_prog_34_method_4_6) rfl (flt (show ¬ ((536870911 : Int32) < (0 : Int32)) by decide)).2.2.2 (by decide) (by decide) ?_
    show Steps p.tables e below (T161.setTop (mkF m 17 #[.val (.ref I), .val (.ref src), .val (.int (0 : Int32)), .val (.int l0), .unset, .unset, .unset, .unset, .unset] [])) _
    refine XS.aloadN X161.here hx rfl (hb hby own_d_prog_34_method_4_17) rfl rfl ?_
    refine st162 _ ?_
    refine XS.aloadN X162.here hx rfl (hb hby own_d_prog_34_method_4_21) rfl rfl ?_
    refine st163 _ ?_
    show Steps p.tables e below (T163.setTop (mkF m 25 #[.val (.ref I), .val (.ref src), .val (.int (0 : Int32)), .val (.int l0), .unset, .unset, .unset, .unset, .unset] [(.int (0 : Int32)), (.ref sA)])) _
    refine X163.iaload hx (j := (0 : Int32)) (v := (.int (0 : Int32))) (by rw [e163]; exact Ar164.1) (State.isArrayOf_alike hZ.alike Ar164.2.1) Ar164.2.2 (own_inb G164 1024 List.length_replicate (by decide)) (own_get G164 (own_rep (by decide))) (g := (mkF m 25 #[.val (.ref I), .val (.ref src), .val (.int (0 : Int32)), .val (.int l0), .unset, .unset, .unset, .unset, .unset] [(.int (0 : Int32)), (.ref sA)])) rfl rfl (hb hby own_d_prog_34_method_4_25) _ ?_
    refine XS.istore X163.here hx rfl (hb hby own_d_prog_34_method_4_26) rfl (l' := #[.val (.ref I), .val (.ref src), .val (.int (0 : Int32)), .val (.int l0), .val (.int (0 : Int32)), .unset, .unset, .unset, .unset]) rfl ?_
    refine XS.iload X163.here hx rfl (hb hby own_d_prog_34_method_4_28) rfl ?_
    refine XS.i2l X163.here hx rfl (hb hby own_d_prog_34_method_4_30) rfl ?_
    show Steps p.tables e below (T163.setTop (mkF m 31 #[.val (.ref I), .val (.ref src), .val (.int (0 : Int32)), .val (.int l0), .val (.int (0 : Int32)), .unset, .unset, .unset, .unset] [(.long ((0 : Int32).toInt64))])) _
    refine XS.iloadN X163.here hx rfl (hb hby own_d_prog_34_method_4_31) rfl ?_
    refine XS.i2l X163.here hx rfl (hb hby own_d_prog_34_method_4_32) rfl ?_
    refine XS.ladd X163.here hx rfl (hb hby own_d_prog_34_method_4_33) rfl ?_
    refine XS.lstore X163.here hx rfl (hb hby own_d_prog_34_method_4_34) rfl (l' := #[.val (.ref I), .val (.ref src), .val (.int (0 : Int32)), .val (.int l0), .val (.int (0 : Int32)), .val (.long (((0 : Int32).toInt64) + (l0.toInt64))), .second, .unset, .unset]) rfl ?_
    show Steps p.tables e below (T163.setTop (mkF m 36 #[.val (.ref I), .val (.ref src), .val (.int (0 : Int32)), .val (.int l0), .val (.int (0 : Int32)), .val (.long (((0 : Int32).toInt64) + (l0.toInt64))), .second, .unset, .unset] [])) _
    refine XS.lload X163.here hx rfl (hb hby own_d_prog_34_method_4_36) rfl ?_
    refine XS.aloadN X163.here hx rfl (hb hby own_d_prog_34_method_4_38) rfl rfl ?_
    refine st165 _ ?_
    refine X165.arraylength hx (cell := cl166) (by rw [e165]; exact Ar166.1) (State.isArrayOf_alike hZ.alike Ar166.2.1) (g := (mkF m 42 #[.val (.ref I), .val (.ref src), .val (.int (0 : Int32)), .val (.int l0), .val (.int (0 : Int32)), .val (.long (((0 : Int32).toInt64) + (l0.toInt64))), .second, .unset, .unset] [(.ref kA), (.long (((0 : Int32).toInt64) + (l0.toInt64)))])) rfl (rest := [(.long (((0 : Int32).toInt64) + (l0.toInt64)))]) rfl (hb hby own_d_prog_34_method_4_42) _ ?_
    rw [own_len (z := (0 : Int32)) G166 rfl]
    show Steps p.tables e below (T165.setTop (mkF m 43 #[.val (.ref I), .val (.ref src), .val (.int (0 : Int32)), .val (.int l0), .val (.int (0 : Int32)), .val (.long (((0 : Int32).toInt64) + (l0.toInt64))), .second, .unset, .unset] [(.int (0 : Int32)), (.long (((0 : Int32).toInt64) + (l0.toInt64)))])) _
    refine XS.i2l X165.here hx rfl (hb hby own_d_prog_34_method_4_43) rfl ?_
    refine XS.lcmp X165.here hx rfl (hb hby own_d_prog_34_method_4_44) rfl ?_
    refine XS.ifNo X165.here hx rfl (hb hby own_d_prog_34_method_4_45) rfl ((if0 _ _).trans (tlt (own_k1a hln)).2.2.2) ?_
    refine XS.lload X165.here hx rfl (hb hby own_d_prog_34_method_4_48) rfl ?_
    show Steps p.tables e below (T165.setTop (mkF m 50 #[.val (.ref I), .val (.ref src), .val (.int (0 : Int32)), .val (.int l0), .val (.int (0 : Int32)), .val (.long (((0 : Int32).toInt64) + (l0.toInt64))), .second, .unset, .unset] [(.long (((0 : Int32).toInt64) + (l0.toInt64)))])) _
    refine X165.ldc2J hx hown (mvT hZ (own_at hw 80 rfl)) (g := (mkF m 50 #[.val (.ref I), .val (.ref src), .val (.int (0 : Int32)), .val (.int l0), .val (.int (0 : Int32)), .val (.long (((0 : Int32).toInt64) + (l0.toInt64))), .second, .unset, .unset] [(.long (((0 : Int32).toInt64) + (l0.toInt64)))])) rfl (hb hby own_d_prog_34_method_4_50) ?_
    refine XS.lcmp X165.here hx rfl (hb hby own_d_prog_34_method_4_53) rfl ?_
    refine XS.ifYes X165.here hx rfl (pc0 := 54) (pc' := 65) rfl (hb hby own_d_prog_34_method_4_54) rfl ((if0 _ _).trans (flt (own_k1b hln)).2.2.2) (by decide) (by decide) ?_
    refine XS.aloadN X165.here hx rfl (hb hby own_d_prog_34_method_4_65) rfl rfl ?_
    show Steps p.tables e below (T165.setTop (mkF m 66 #[.val (.ref I), .val (.ref src), .val (.int (0 : Int32)), .val (.int l0), .val (.int (0 : Int32)), .val (.long (((0 : Int32).toInt64) + (l0.toInt64))), .second, .unset, .unset] [(.ref I)])) _
    refine st167 _ ?_
    refine XS.ifNo X167.here hx rfl (hb hby own_d_prog_34_method_4_69) rfl ((if0 _ _).trans (teq (rfl : (0 : Int32) = (0 : Int32))).2) ?_
    refine X167.ldc2J hx hown (mvT hZ (own_at hw 81 rfl)) (g := (mkF m 72 #[.val (.ref I), .val (.ref src), .val (.int (0 : Int32)), .val (.int l0), .val (.int (0 : Int32)), .val (.long (((0 : Int32).toInt64) + (l0.toInt64))), .second, .unset, .unset] [])) rfl (hb hby own_d_prog_34_method_4_72) ?_
    refine XS.iloadN X167.here hx rfl (hb hby own_d_prog_34_method_4_75) rfl ?_
    show Steps p.tables e below (T167.setTop (mkF m 76 #[.val (.ref I), .val (.ref src), .val (.int (0 : Int32)), .val (.int l0), .val (.int (0 : Int32)), .val (.long (((0 : Int32).toInt64) + (l0.toInt64))), .second, .unset, .unset] [(.int l0), (.long (1024 : Int64))])) _
    refine XS.i2l X167.here hx rfl (hb hby own_d_prog_34_method_4_76) rfl ?_
    refine XS.lmul X167.here hx rfl (hb hby own_d_prog_34_method_4_77) rfl ?_
    refine X167.ldc2J hx hown (mvT hZ (own_at hw 82 rfl)) (g := (mkF m 78 #[.val (.ref I), .val (.ref src), .val (.int (0 : Int32)), .val (.int l0), .val (.int (0 : Int32)), .val (.long (((0 : Int32).toInt64) + (l0.toInt64))), .second, .unset, .unset] [(.long ((1024 : Int64) * (l0.toInt64)))])) rfl (hb hby own_d_prog_34_method_4_78) ?_
    refine st168 _ ?_
    show Steps p.tables e below (T168.setTop (mkF m 84 #[.val (.ref I), .val (.ref src), .val (.int (0 : Int32)), .val (.int l0), .val (.int (0 : Int32)), .val (.long (((0 : Int32).toInt64) + (l0.toInt64))), .second, .unset, .unset] [(.long ((1024 : Int64) * (l0.toInt64)))])) _
    refine XS.goto X168.here hx rfl (pc0 := 84) (pc' := 88) rfl (hb hby own_d_prog_34_method_4_84) (by decide) (by decide) ?_
    refine XS.lstore X168.here hx rfl (hb hby own_d_prog_34_method_4_88) rfl (l' := #[.val (.ref I), .val (.ref src), .val (.int (0 : Int32)), .val (.int l0), .val (.int (0 : Int32)), .val (.long (((0 : Int32).toInt64) + (l0.toInt64))), .second, .val (.long ((1024 : Int64) * (l0.toInt64))), .second]) rfl ?_
    refine XS.aloadN X168.here hx rfl (hb hby own_d_prog_34_method_4_90) rfl rfl ?_
    refine XS.aloadN X168.here hx rfl (hb hby own_d_prog_34_method_4_91) rfl rfl ?_
    show Steps p.tables e below (T168.setTop (mkF m 92 #[.val (.ref I), .val (.ref src), .val (.int (0 : Int32)), .val (.int l0), .val (.int (0 : Int32)), .val (.long (((0 : Int32).toInt64) + (l0.toInt64))), .second, .val (.long ((1024 : Int64) * (l0.toInt64))), .second] [(.ref I), (.ref I)])) _
    refine st169 _ ?_
    refine XS.aloadN X169.here hx rfl (hb hby own_d_prog_34_method_4_95) rfl rfl ?_
    refine st170 _ ?_
    refine X170.arraylength hx (cell := cl171) (by rw [e170]; exact Ar171.1) (State.isArrayOf_alike hZ.alike Ar171.2.1) (g := (mkF m 99 #[.val (.ref I), .val (.ref src), .val (.int (0 : Int32)), .val (.int l0), .val (.int (0 : Int32)), .val (.long (((0 : Int32).toInt64) + (l0.toInt64))), .second, .val (.long ((1024 : Int64) * (l0.toInt64))), .second] [(.ref kA), (.ref kA), (.ref I)])) rfl (rest := [(.ref kA), (.ref I)]) rfl (hb hby own_d_prog_34_method_4_99) _ ?_
    rw [own_len (z := (0 : Int32)) G171 rfl]
    show Steps p.tables e below (T170.setTop (mkF m 100 #[.val (.ref I), .val (.ref src), .val (.int (0 : Int32)), .val (.int l0), .val (.int (0 : Int32)), .val (.long (((0 : Int32).toInt64) + (l0.toInt64))), .second, .val (.long ((1024 : Int64) * (l0.toInt64))), .second] [(.int (0 : Int32)), (.ref kA), (.ref I)])) _
    refine XS.lload X170.here hx rfl (hb hby own_d_prog_34_method_4_100) rfl ?_
    refine XS.lload X170.here hx rfl (hb hby own_d_prog_34_method_4_102) rfl ?_
    refine st172 _ ?_
    refine XS.l2i X172.here hx rfl (hb hby own_d_prog_34_method_4_107) rfl ?_
    show Steps p.tables e below (T172.setTop (mkF m 108 #[.val (.ref I), .val (.ref src), .val (.int (0 : Int32)), .val (.int l0), .val (.int (0 : Int32)), .val (.long (((0 : Int32).toInt64) + (l0.toInt64))), .second, .val (.long ((1024 : Int64) * (l0.toInt64))), .second] [(.int (((1024 : Int64) * (l0.toInt64)).toInt32)), (.int (0 : Int32)), (.ref kA), (.ref I)])) _
    rw [own_k1e hln]
    refine st173 _ ?_
    refine st174 _ ?_
    refine st191 _ ?_
    show Steps p.tables e below (T191.setTop (mkF m 117 #[.val (.ref I), .val (.ref src), .val (.int (0 : Int32)), .val (.int l0), .val (.int (0 : Int32)), .val (.long (((0 : Int32).toInt64) + (l0.toInt64))), .second, .val (.long ((1024 : Int64) * (l0.toInt64))), .second] [])) _
    refine XS.aloadN X191.here hx rfl (hb hby own_d_prog_34_method_4_117) rfl rfl ?_
    refine st209 _ ?_
    refine XS.iconst X209.here hx rfl (hb hby own_d_prog_34_method_4_121) ?_
    refine XS.iadd X209.here hx rfl (hb hby own_d_prog_34_method_4_122) rfl ?_
    show Steps p.tables e below (T209.setTop (mkF m 123 #[.val (.ref I), .val (.ref src), .val (.int (0 : Int32)), .val (.int l0), .val (.int (0 : Int32)), .val (.long (((0 : Int32).toInt64) + (l0.toInt64))), .second, .val (.long ((1024 : Int64) * (l0.toInt64))), .second] [(.int ((0 : Int32) + (1 : Int32)))])) _
    refine XS.aloadN X209.here hx rfl (hb hby own_d_prog_34_method_4_123) rfl rfl ?_
    refine st210 _ ?_
    refine X210.arraylength hx (cell := cl211) (by rw [e210]; exact Ar211.1) (State.isArrayOf_alike hZ.alike Ar211.2.1) (g := (mkF m 127 #[.val (.ref I), .val (.ref src), .val (.int (0 : Int32)), .val (.int l0), .val (.int (0 : Int32)), .val (.long (((0 : Int32).toInt64) + (l0.toInt64))), .second, .val (.long ((1024 : Int64) * (l0.toInt64))), .second] [(.ref sA), (.int ((0 : Int32) + (1 : Int32)))])) rfl (rest := [(.int ((0 : Int32) + (1 : Int32)))]) rfl (hb hby own_d_prog_34_method_4_127) _ ?_
    rw [own_len (z := (1024 : Int32)) G211 (by rw [List.length_replicate]; decide)]
    show Steps p.tables e below (T210.setTop (mkF m 128 #[.val (.ref I), .val (.ref src), .val (.int (0 : Int32)), .val (.int l0), .val (.int (0 : Int32)), .val (.long (((0 : Int32).toInt64) + (l0.toInt64))), .second, .val (.long ((1024 : Int64) * (l0.toInt64))), .second] [(.int (1024 : Int32)), (.int ((0 : Int32) + (1 : Int32)))])) _
    refine XS.icmpYes X210.here hx rfl (pc0 := 128) (pc' := 156) rfl (hb hby own_d_prog_34_method_4_128) rfl (feq (show ¬ (((0 : Int32) + (1 : Int32)) = (1024 : Int32)) by decide)).2 (by decide) (by decide) ?_
    refine XS.aloadN X210.here hx rfl (hb hby own_d_prog_34_method_4_156) rfl rfl ?_
    refine XS.iloadN X210.here hx rfl (hb hby own_d_prog_34_method_4_157) rfl ?_
    refine XS.aloadN X210.here hx rfl (hb hby own_d_prog_34_method_4_158) rfl rfl ?_
    show Steps p.tables e below (T210.setTop (mkF m 159 #[.val (.ref I), .val (.ref src), .val (.int (0 : Int32)), .val (.int l0), .val (.int (0 : Int32)), .val (.long (((0 : Int32).toInt64) + (l0.toInt64))), .second, .val (.long ((1024 : Int64) * (l0.toInt64))), .second] [(.ref I), (.int (0 : Int32)), (.ref src)])) _
    refine st212 _ ?_
    refine XS.iload X212.here hx rfl (hb hby own_d_prog_34_method_4_162) rfl ?_
    refine XS.iloadN X212.here hx rfl (hb hby own_d_prog_34_method_4_164) rfl ?_
    show Steps p.tables e below (T212.setTop (mkF m 165 #[.val (.ref I), .val (.ref src), .val (.int (0 : Int32)), .val (.int l0), .val (.int (0 : Int32)), .val (.long (((0 : Int32).toInt64) + (l0.toInt64))), .second, .val (.long ((1024 : Int64) * (l0.toInt64))), .second] [(.int l0), (.int (0 : Int32)), (.ref d174), (.int (0 : Int32)), (.ref src)])) _
    refine st213 _ ?_
    refine XS.aloadN X213.here hx rfl (hb hby own_d_prog_34_method_4_168) rfl rfl ?_
    refine st230 _ ?_
    refine XS.aloadN X230.here hx rfl (hb hby own_d_prog_34_method_4_172) rfl rfl ?_
    show Steps p.tables e below (T230.setTop (mkF m 173 #[.val (.ref I), .val (.ref src), .val (.int (0 : Int32)), .val (.int l0), .val (.int (0 : Int32)), .val (.long (((0 : Int32).toInt64) + (l0.toInt64))), .second, .val (.long ((1024 : Int64) * (l0.toInt64))), .second] [(.ref I), (.ref sA)])) _
    refine st231 _ ?_
    refine XS.iconst X231.here hx rfl (hb hby own_d_prog_34_method_4_176) ?_
    refine XS.iadd X231.here hx rfl (hb hby own_d_prog_34_method_4_177) rfl ?_
    refine XS.lload X231.here hx rfl (hb hby own_d_prog_34_method_4_178) rfl ?_
    show Steps p.tables e below (T231.setTop (mkF m 180 #[.val (.ref I), .val (.ref src), .val (.int (0 : Int32)), .val (.int l0), .val (.int (0 : Int32)), .val (.long (((0 : Int32).toInt64) + (l0.toInt64))), .second, .val (.long ((1024 : Int64) * (l0.toInt64))), .second] [(.long (((0 : Int32).toInt64) + (l0.toInt64))), (.int ((0 : Int32) + (1 : Int32))), (.ref sA)])) _
    refine XS.l2i X231.here hx rfl (hb hby own_d_prog_34_method_4_180) rfl ?_
    show Steps p.tables e below (T231.setTop (mkF m 181 #[.val (.ref I), .val (.ref src), .val (.int (0 : Int32)), .val (.int l0), .val (.int (0 : Int32)), .val (.long (((0 : Int32).toInt64) + (l0.toInt64))), .second, .val (.long ((1024 : Int64) * (l0.toInt64))), .second] [(.int ((((0 : Int32).toInt64) + (l0.toInt64)).toInt32)), (.int ((0 : Int32) + (1 : Int32))), (.ref sA)])) _
    rw [own_k1i hln]
    refine st233 _ ?_
    refine XS.aloadN X233.here hx rfl (hb hby own_d_prog_34_method_4_182) rfl rfl ?_
    refine XS.dup X233.here hx rfl (hb hby own_d_prog_34_method_4_183) rfl rfl ?_
    show Steps p.tables e below (T233.setTop (mkF m 184 #[.val (.ref I), .val (.ref src), .val (.int (0 : Int32)), .val (.int l0), .val (.int (0 : Int32)), .val (.long (((0 : Int32).toInt64) + (l0.toInt64))), .second, .val (.long ((1024 : Int64) * (l0.toInt64))), .second] [(.ref I), (.ref I)])) _
    refine st251 _ ?_
    refine XS.iconst X251.here hx rfl (hb hby own_d_prog_34_method_4_187) ?_
    refine XS.iadd X251.here hx rfl (hb hby own_d_prog_34_method_4_188) rfl ?_
    refine st252 _ ?_
    show Steps p.tables e below (T252.setTop (mkF m 192 #[.val (.ref I), .val (.ref src), .val (.int (0 : Int32)), .val (.int l0), .val (.int (0 : Int32)), .val (.long (((0 : Int32).toInt64) + (l0.toInt64))), .second, .val (.long ((1024 : Int64) * (l0.toInt64))), .second] [])) _
    refine XS.aloadN X252.here hx rfl (hb hby own_d_prog_34_method_4_192) rfl rfl ?_
    refine st270 _ ?_
    refine XS.iconst X270.here hx rfl (hb hby own_d_prog_34_method_4_196) ?_
    refine XS.isub X270.here hx rfl (hb hby own_d_prog_34_method_4_197) rfl ?_
    show Steps p.tables e below (T270.setTop (mkF m 198 #[.val (.ref I), .val (.ref src), .val (.int (0 : Int32)), .val (.int l0), .val (.int (0 : Int32)), .val (.long (((0 : Int32).toInt64) + (l0.toInt64))), .second, .val (.long ((1024 : Int64) * (l0.toInt64))), .second] [(.int (((0 : Int32) + (1 : Int32)) - (1 : Int32)))])) _
    exact own_retI X270 hx Bd.returns (hb hby own_d_prog_34_method_4_198) hr
  · show rm_keep1_Q Z I kA sA tA bs wA ck cs ct cw ts sea wiu ww src cS x0 x1 x2 x3 l0 nd h0 n0 _ T270.heap _
    rw [e270]
    exact ⟨d174, kd174, rfl, N252, KP252, sz_d174, ⟨f253, f254, f255, f256, f257, f258, f259, f260, f261, f262, f263, f269, f265, f266, f267⟩, ⟨ne_I_d174, ne_I_sA, ne_I_tA, ne_I_bs, ne_I_wA, (Ne.symm ne_sA_d174), (Ne.symm ne_tA_d174), (Ne.symm ne_bs_d174), (Ne.symm ne_wA_d174), ne_sA_tA, ne_sA_bs, ne_sA_wA, ne_tA_bs, ne_tA_wA, ne_bs_wA⟩⟩
theorem rm_keep2_ef (m : MethodId) (x0 : Addr) (x1 : Addr) (x2 : Int32) (x3 : Int32) : entryFrame m #[(.ref x0), (.ref x1), (.int x2), (.int x3)] 9 = mkF m 0 #[.val (.ref x0), .val (.ref x1), .val (.int x2), .val (.int x3), .unset, .unset, .unset, .unset, .unset] [] := by first | (simp [entryFrame, mkF, argsToLocals, Value.category]; done) | rfl
def rm_keep2_Q (Z : State) (I : Addr) (kA : Addr) (sA : Addr) (tA : Addr) (bs : Addr) (wA : Addr) (ck : ClassId) (cs : ClassId) (ct : ClassId) (cw : ClassId) (ks : List Value) (ss : List Value) (ts : List Value) (sea : Int32) (wiu : Int32) (ww : Int64) (src : Addr) (cS : ClassId) (x0 : Int64) (x1 : Int64) (x2 : Int64) (x3 : Int64) (l0 : Int32) (nd : Int32) (off : Int32) (len : Int32) (h0 : Heap) (n0 : Nat) (v : Option Value) (h : Heap) (L : List Loc) : Prop := v = some (.int (1 : Int32)) ∧ Fr n0 L ∧ Keep h0 h [I, sA, kA] ∧ OwnIdx Z h I kA sA tA bs wA ck cs ct cw (own_cp ks [.long x0, .long x1, .long x2, .long x3] off.toNatClampNeg l0.toNatClampNeg len.toNatClampNeg) (List.set ss ((1 : Int32) + (1 : Int32)).toNatClampNeg (.int (l0 + len))) ts ((1 : Int32) + (1 : Int32)) sea wiu ww
set_option maxRecDepth 65536 in
set_option maxHeartbeats 40000000 in
theorem rm_keep2 (l : Launch) (Z : State) (a0 : Array Value) (hw : ∀ d ∈ tables_1, d.before a0 Z = true) (ws : List Jvm.Cond) (I : Addr) (kA : Addr) (sA : Addr) (tA : Addr) (bs : Addr) (wA : Addr) (ck : ClassId) (cs : ClassId) (ct : ClassId) (cw : ClassId) (ks : List Value) (ss : List Value) (ts : List Value) (sea : Int32) (wiu : Int32) (ww : Int64) (src : Addr) (cS : ClassId) (x0 : Int64) (x1 : Int64) (x2 : Int64) (x3 : Int64) (l0 : Int32) (nd : Int32) (off : Int32) (len : Int32) (h0 : Heap) (n0 : Nat) (Z0 : n0 ≤ h0.size) (OL : Old Z n0 h0) (D : OwnIdx Z h0 I kA sA tA bs wA ck cs ct cw ks ss ts (1 : Int32) sea wiu ww) (NE : OwnNe I kA sA tA bs wA) (GE : OwnGe n0 I kA sA tA bs wA) (Lx : OwnLst Z h0 src .long cS [.long x0, .long x1, .long x2, .long x3]) (NS : OwnNs src I kA sA tA bs wA) (BA : OwnBase ks ss l0 nd x0 x1 x2) (hln : (l0 = (1 : Int32) ∧ nd = (1024 : Int32)) ∨ (l0 = (2 : Int32) ∧ nd = (2048 : Int32)) ∨ (l0 = (3 : Int32) ∧ nd = (3072 : Int32))) (hol : (off = (0 : Int32) ∧ len = (1 : Int32)) ∨ (off = (0 : Int32) ∧ len = (2 : Int32)) ∨ (off = (1 : Int32) ∧ len = (1 : Int32)) ∨ (off = (1 : Int32) ∧ len = (2 : Int32))) :
    MetFree l (⟨"com/example/orbitfold/orbitfold/StateIndex", "keep", "([JII)I"⟩ : MethodName) (head1 (Jvm.Cond.code (⟨"com/example/orbitfold/orbitfold/StateIndex", "keep", "([JII)I"⟩ : MethodName) prog_34_method_4_code 9 (some .int) :: ws) ({ frames := 1, cells := 0, slots := 0, locals := 18 } : Room)) (fun a₀ U₀ => a₀ = #[(.ref I), (.ref src), (.int off), (.int len)] ∧ Z.Warmed39 U₀.vm ∧ U₀.heap = h0) (fun _ _ _ _ _ => True) (fun _ U₀ o₀ U₁ => ∃ v₀ L₀, o₀ = .returned v₀ ∧ rm_keep2_Q Z I kA sA tA bs wA ck cs ct cw ks ss ts sea wiu ww src cS x0 x1 x2 x3 l0 nd off len h0 n0 v₀ U₁.heap L₀ ∧ FrameEnd U₀ o₀ U₁ L₀ ({ frames := 1, cells := 0, slots := 0, locals := 18 } : Room).cells ({ frames := 1, cells := 0, slots := 0, locals := 18 } : Room).slots) := by
  refine MetFree.of_bodySF (plainFor_of_name own_pn4) hisR ?_
  intro p e s m args below meth c s₁ Bd hml0 hP hK
  obtain ⟨rfl, hZ, hh⟩ := hP
  have hx := Bd.exec
  have hby := Bd.bytes
  have hml : c.maxLocals = 9 := hml0
  have hown : s.vm.findClass "com/example/orbitfold/orbitfold/StateIndex" = some m.cls := findClass_of_methodNamed Bd.named
  have hnm := (name_of_methodNamed Bd.named Bd.method).1
  have X0 : Stand p l e ({ frames := 1, cells := 0, slots := 0, locals := 18 } : Room) s m #[(.ref I), (.ref src), (.int off), (.int len)] below meth c s₁ [] 0 0 := Stand.of_body Bd
  have e0 : s₁.heap = h0 := by rw [← hh, Bd.state]; rfl
  have N0 := Fr.nil n0
  have pre0 : ∀ t, Steps p.tables e below (s₁.setTop (mkF m 0 #[.val (.ref I), .val (.ref src), .val (.int off), .val (.int len), .unset, .unset, .unset, .unset, .unset] [])) t → Steps p.tables e below (s₁.setTop (entryFrame m #[(.ref I), (.ref src), (.int off), (.int len)] 9)) t := fun t kk₀ => castTop (rm_keep2_ef m I src off len) kk₀
  obtain ⟨dE, dK, dS, dT, dB, dZ, dR, bE, bW, bY, bO, lK, lS, lT, lW⟩ := id D
  obtain ⟨ne_I_kA, ne_I_sA, ne_I_tA, ne_I_bs, ne_I_wA, ne_kA_sA, ne_kA_tA, ne_kA_bs, ne_kA_wA, ne_sA_tA, ne_sA_bs, ne_sA_wA, ne_tA_bs, ne_tA_wA, ne_bs_wA⟩ := id NE
  obtain ⟨g_I, g_kA, g_sA, g_tA, g_bs, g_wA⟩ := id GE
  obtain ⟨ns_I, ns_kA, ns_sA, ns_tA, ns_bs, ns_wA⟩ := id NS
  obtain ⟨hkl, hsl, hs0, hs1, hk0, hk1, hk2⟩ := id BA
  obtain ⟨T271, X271, e271, st271⟩ := getF X0 hx hZ hown (host := "") (Or.inl (own_at hw 77 rfl)) Via.refl e0 dZ (g := (mkF m 1 #[.val (.ref I), .val (.ref src), .val (.int off), .val (.int len), .unset, .unset, .unset, .unset, .unset] [(.ref I)])) rfl rfl (hb hby own_d_prog_34_method_4_1)
  obtain ⟨T272, X272, e272, st272⟩ := getF X271 hx hZ hown (host := "") (Or.inl (own_at hw 13 rfl)) Via.refl e271 dS (g := (mkF m 18 #[.val (.ref I), .val (.ref src), .val (.int off), .val (.int len), .unset, .unset, .unset, .unset, .unset] [(.ref I)])) rfl rfl (hb hby own_d_prog_34_method_4_18)
  obtain ⟨T273, X273, e273, st273⟩ := getF X272 hx hZ hown (host := "") (Or.inl (own_at hw 77 rfl)) Via.refl e272 dZ (g := (mkF m 22 #[.val (.ref I), .val (.ref src), .val (.int off), .val (.int len), .unset, .unset, .unset, .unset, .unset] [(.ref I), (.ref sA)])) rfl rfl (hb hby own_d_prog_34_method_4_22)
  obtain ⟨cl274, Ar274, q274, G274⟩ := id lS
  obtain ⟨T275, X275, e275, st275⟩ := getF X273 hx hZ hown (host := "") (Or.inl (own_at hw 10 rfl)) Via.refl e273 dK (g := (mkF m 39 #[.val (.ref I), .val (.ref src), .val (.int off), .val (.int len), .val (.int l0), .val (.long ((l0.toInt64) + (len.toInt64))), .second, .unset, .unset] [(.ref I), (.long ((l0.toInt64) + (len.toInt64)))])) rfl rfl (hb hby own_d_prog_34_method_4_39)
  obtain ⟨cl276, Ar276, q276, G276⟩ := id lK
  obtain ⟨T277, X277, e277, st277⟩ := getF X275 hx hZ hown (host := "") (Or.inl (own_at hw 77 rfl)) Via.refl e275 dZ (g := (mkF m 118 #[.val (.ref I), .val (.ref src), .val (.int off), .val (.int len), .val (.int l0), .val (.long ((l0.toInt64) + (len.toInt64))), .second, .unset, .unset] [(.ref I)])) rfl rfl (hb hby own_d_prog_34_method_4_118)
  obtain ⟨T278, X278, e278, st278⟩ := getF X277 hx hZ hown (host := "") (Or.inl (own_at hw 13 rfl)) Via.refl e277 dS (g := (mkF m 124 #[.val (.ref I), .val (.ref src), .val (.int off), .val (.int len), .val (.int l0), .val (.long ((l0.toInt64) + (len.toInt64))), .second, .unset, .unset] [(.ref I), (.int ((1 : Int32) + (1 : Int32)))])) rfl rfl (hb hby own_d_prog_34_method_4_124)
  obtain ⟨cl279, Ar279, q279, G279⟩ := id lS
  obtain ⟨T280, X280, e280, st280⟩ := getF X278 hx hZ hown (host := "") (Or.inl (own_at hw 10 rfl)) Via.refl e278 dK (g := (mkF m 159 #[.val (.ref I), .val (.ref src), .val (.int off), .val (.int len), .val (.int l0), .val (.long ((l0.toInt64) + (len.toInt64))), .second, .unset, .unset] [(.ref I), (.int off), (.ref src)])) rfl rfl (hb hby own_d_prog_34_method_4_159)
  obtain ⟨T281, h281, X281, e281, K281, V281, st281⟩ := own_ac X280 hx hZ hown (own_at hw 108 rfl) (own_at hw 107 rfl) (own_at hw 105 rfl) (own_at hw 106 rfl) e280 Lx lK (sp := off) (dp := l0) (n := len) (own_k2b hln hol).1 (own_k2b hln hol).2.1 (own_k2b hln hol).2.2 (own_k2c hln hol).1 (by rw [hkl]; exact (own_k2c hln hol).2) (fun i hi => own_xl x0 x1 x2 x3 _ (Nat.lt_of_lt_of_le (Nat.add_lt_add_left hi _) (own_k2d hln hol))) (g := (mkF m 165 #[.val (.ref I), .val (.ref src), .val (.int off), .val (.int len), .val (.int l0), .val (.long ((l0.toInt64) + (len.toInt64))), .second, .unset, .unset] [(.int len), (.int l0), (.ref kA), (.int off), (.ref src)])) rfl (by rw [hml]; rfl) (rest := []) rfl (hb hby own_d_prog_34_method_4_165) (W := 0) (by show 2 * 0 + _ ≤ _; exact Nat.le_of_eq rfl) (by decide) (by decide)
  have N281 := own_fr_copy (dp := l0.toNatClampNeg) (n := len.toNatClampNeg) N0 g_kA
  have f282 := dE.keep K281
  have f283 := dK.keep K281 (by simp [ne_I_kA])
  have f284 := dS.keep K281 (by simp [ne_I_kA])
  have f285 := dT.keep K281 (by simp [ne_I_kA])
  have f286 := dB.keep K281 (by simp [ne_I_kA])
  have f287 := dZ.keep K281 (by simp [ne_I_kA])
  have f288 := dR.keep K281 (by simp [ne_I_kA])
  have f289 := bE.keep K281
  have f290 := bW.keep K281 (by simp [(Ne.symm ne_kA_bs)])
  have f291 := bY.keep K281 (by simp [(Ne.symm ne_kA_bs)])
  have f292 := bO.keep K281 (by simp [(Ne.symm ne_kA_bs)])
  have f293 := lS.keep K281 (by simp [(Ne.symm ne_kA_sA)])
  have f294 := lT.keep K281 (by simp [(Ne.symm ne_kA_tA)])
  have f295 := lW.keep K281 (by simp [(Ne.symm ne_kA_wA)])
  have f296 := Lx.keep K281 (by simp [ns_kA])
  have OL281 := OL.keep K281 (fun x hx => by
    simp only [List.mem_cons, List.not_mem_nil, or_false] at hx
    rcases hx with rfl
    · exact g_kA)
  have KP281 : Keep h0 h281 [I, sA, kA] := (Keep.refl _ _).trans K281 (fun x hx => by
    simp only [List.mem_cons, List.not_mem_nil, or_false] at hx
    rcases hx with rfl
    · exact Or.inl (by simp))
  obtain ⟨T297, X297, e297, st297⟩ := getF X281 hx hZ hown (host := "") (Or.inl (own_at hw 13 rfl)) Via.refl e281 f284 (g := (mkF m 169 #[.val (.ref I), .val (.ref src), .val (.int off), .val (.int len), .val (.int l0), .val (.long ((l0.toInt64) + (len.toInt64))), .second, .unset, .unset] [(.ref I)])) rfl rfl (hb hby own_d_prog_34_method_4_169)
  obtain ⟨T298, X298, e298, st298⟩ := getF X297 hx hZ hown (host := "") (Or.inl (own_at hw 77 rfl)) Via.refl e297 f287 (g := (mkF m 173 #[.val (.ref I), .val (.ref src), .val (.int off), .val (.int len), .val (.int l0), .val (.long ((l0.toInt64) + (len.toInt64))), .second, .unset, .unset] [(.ref I), (.ref sA)])) rfl rfl (hb hby own_d_prog_34_method_4_173)
  obtain ⟨cl300, Ar300, q300, G300⟩ := id f293
  obtain ⟨T300, h300, X300, e300, W300, st300⟩ := stI X298 hx hZ e298 Ar300 (j := ((1 : Int32) + (1 : Int32))) (own_inb G300 1024 hsl (by decide)) (g := (mkF m 181 #[.val (.ref I), .val (.ref src), .val (.int off), .val (.int len), .val (.int l0), .val (.long ((l0.toInt64) + (len.toInt64))), .second, .unset, .unset] [(.int (l0 + len)), (.int ((1 : Int32) + (1 : Int32))), (.ref sA)])) rfl rfl (hb hby own_d_prog_34_method_4_181)
  have N300 := Fr.snoc X300 N281 g_sA
  have v299 := own_lst_set Ar300 q300 G300 W300
  have f301 := f282.wr W300
  have f302 := f283.other W300 (Or.inl ne_I_sA)
  have f303 := f284.other W300 (Or.inl ne_I_sA)
  have f304 := f285.other W300 (Or.inl ne_I_sA)
  have f305 := f286.other W300 (Or.inl ne_I_sA)
  have f306 := f287.other W300 (Or.inl ne_I_sA)
  have f307 := f288.other W300 (Or.inl ne_I_sA)
  have f308 := f289.wr W300
  have f309 := f290.other W300 (Or.inl (Ne.symm ne_sA_bs))
  have f310 := f291.other W300 (Or.inl (Ne.symm ne_sA_bs))
  have f311 := f292.other W300 (Or.inl (Ne.symm ne_sA_bs))
  have f312 : OwnLst Z h300 sA .int cs (List.set ss ((1 : Int32) + (1 : Int32)).toNatClampNeg (.int (l0 + len))) := v299
  have f313 := f294.other W300 (Ne.symm ne_sA_tA)
  have f314 := f295.other W300 (Ne.symm ne_sA_wA)
  have f315 := f296.other W300 ns_sA
  have f316 := V281.other W300 ne_kA_sA
  have OL300 := OL281.wr W300 g_sA
  have KP300 : Keep h0 h300 [I, sA, kA] := KP281.wr W300 (Or.inl (by simp))
  obtain ⟨T317, X317, e317, st317⟩ := getF X300 hx hZ hown (host := "") (Or.inl (own_at hw 77 rfl)) Via.refl e300 f306 (g := (mkF m 184 #[.val (.ref I), .val (.ref src), .val (.int off), .val (.int len), .val (.int l0), .val (.long ((l0.toInt64) + (len.toInt64))), .second, .unset, .unset] [(.ref I), (.ref I)])) rfl rfl (hb hby own_d_prog_34_method_4_184)
  obtain ⟨T318, h318, X318, e318, W318, st318⟩ := putF X317 hx hZ hown (host := "") (Or.inl (own_at hw 77 rfl)) Via.refl e317 f306 f301 (Or.inl (own_at hw 78 rfl)) (own_at hw 2 rfl) (ty := .int) (by decide) rfl rfl (g := (mkF m 189 #[.val (.ref I), .val (.ref src), .val (.int off), .val (.int len), .val (.int l0), .val (.long ((l0.toInt64) + (len.toInt64))), .second, .unset, .unset] [(.int ((1 : Int32) + (1 : Int32))), (.ref I)])) rfl rfl (hb hby own_d_prog_34_method_4_189)
  have N318 := Fr.snoc X318 N300 g_I
  have f319 := f301.wr W318
  have f320 := f302.other W318 (Or.inr (slot_ne (Or.inl (own_at hw 11 rfl)) (Or.inl (own_at hw 78 rfl)) (by decide) (t := (.array .long)) (t' := .int) (by decide) (by decide)))
  have f321 := f303.other W318 (Or.inr (slot_ne (Or.inl (own_at hw 14 rfl)) (Or.inl (own_at hw 78 rfl)) (by decide) (t := (.array .int)) (t' := .int) (by decide) (by decide)))
  have f322 := f304.other W318 (Or.inr (slot_ne (Or.inl (own_at hw 23 rfl)) (Or.inl (own_at hw 78 rfl)) (by decide) (t := (.array .int)) (t' := .int) (by decide) (by decide)))
  have f323 := f305.other W318 (Or.inr (slot_ne (Or.inr (own_at hw 46 rfl)) (Or.inl (own_at hw 78 rfl)) (by decide) (t := (.object "java/util/BitSet")) (t' := .int) (by decide) (by decide)))
  have f324 : Fld Z h318 I "com/example/orbitfold/orbitfold/StateIndex" "size" "I" (.int ((1 : Int32) + (1 : Int32))) := f306.same W318
  have f325 := f307.other W318 (Or.inr (slot_ne (Or.inl (own_at hw 110 rfl)) (Or.inl (own_at hw 78 rfl)) (by decide) (t := .int) (t' := .int) (by decide) (by decide)))
  have f326 := f308.wr W318
  have f327 := f309.other W318 (Or.inl (Ne.symm ne_I_bs))
  have f328 := f310.other W318 (Or.inl (Ne.symm ne_I_bs))
  have f329 := f311.other W318 (Or.inl (Ne.symm ne_I_bs))
  have f330 := f312.other W318 (Ne.symm ne_I_sA)
  have f331 := f313.other W318 (Ne.symm ne_I_tA)
  have f332 := f314.other W318 (Ne.symm ne_I_wA)
  have f333 := f315.other W318 ns_I
  have f334 := f316.other W318 (Ne.symm ne_I_kA)
  have OL318 := OL300.wr W318 g_I
  have KP318 : Keep h0 h318 [I, sA, kA] := KP300.wr W318 (Or.inl (by simp))
  obtain ⟨T335, X335, e335, st335⟩ := getF X318 hx hZ hown (host := "") (Or.inl (own_at hw 77 rfl)) Via.refl e318 f324 (g := (mkF m 193 #[.val (.ref I), .val (.ref src), .val (.int off), .val (.int len), .val (.int l0), .val (.long ((l0.toInt64) + (len.toInt64))), .second, .unset, .unset] [(.ref I)])) rfl rfl (hb hby own_d_prog_34_method_4_193)
  obtain ⟨fs, hr, hrun, hended, hW, hsame⟩ := X335.leave (v := some (.int (((1 : Int32) + (1 : Int32)) - (1 : Int32)))) (fun h => by rw [Bd.returns] at h; cases h)
  refine ⟨_, _, pre0 _ ?_, hrun, hended, _, _, rfl, ?_, ⟨_, rfl⟩, hW, hsame.mono (by decide) (by decide)⟩
  · show Steps p.tables e below (s₁.setTop (mkF m 0 #[.val (.ref I), .val (.ref src), .val (.int off), .val (.int len), .unset, .unset, .unset, .unset, .unset] [])) _
    refine XS.aloadN X0.here hx rfl (hb hby own_d_prog_34_method_4_0) rfl rfl ?_
    refine st271 _ ?_
    refine X271.ldcI hx hown (mvT hZ (own_at hw 79 rfl)) (g := (mkF m 4 #[.val (.ref I), .val (.ref src), .val (.int off), .val (.int len), .unset, .unset, .unset, .unset, .unset] [(.int (1 : Int32))])) rfl (hb hby own_d_prog_34_method_4_4) ?_
    refine XS.icmpYes X271.here hx rfl (pc0 := 6) (pc' := 17) rfl (hb hby own_d_prog_34_method_4_6) rfl (flt (show ¬ ((536870911 : Int32) < (1 : Int32)) by decide)).2.2.2 (by decide) (by decide) ?_
    show Steps p.tables e below (T271.setTop (mkF m 17 #[.val (.ref I), .val (.ref src), .val (.int off), .val (.int len), .unset, .unset, .unset, .unset, .unset] [])) _
    refine XS.aloadN X271.here hx rfl (hb hby own_d_prog_34_method_4_17) rfl rfl ?_
    refine st272 _ ?_
    refine XS.aloadN X272.here hx rfl (hb hby own_d_prog_34_method_4_21) rfl rfl ?_
    refine st273 _ ?_
    show Steps p.tables e below (T273.setTop (mkF m 25 #[.val (.ref I), .val (.ref src), .val (.int off), .val (.int len), .unset, .unset, .unset, .unset, .unset] [(.int (1 : Int32)), (.ref sA)])) _
    refine X273.iaload hx (j := (1 : Int32)) (v := (.int l0)) (by rw [e273]; exact Ar274.1) (State.isArrayOf_alike hZ.alike Ar274.2.1) Ar274.2.2 (own_inb G274 1024 hsl (by decide)) (own_get G274 hs1) (g := (mkF m 25 #[.val (.ref I), .val (.ref src), .val (.int off), .val (.int len), .unset, .unset, .unset, .unset, .unset] [(.int (1 : Int32)), (.ref sA)])) rfl rfl (hb hby own_d_prog_34_method_4_25) _ ?_
    refine XS.istore X273.here hx rfl (hb hby own_d_prog_34_method_4_26) rfl (l' := #[.val (.ref I), .val (.ref src), .val (.int off), .val (.int len), .val (.int l0), .unset, .unset, .unset, .unset]) rfl ?_
    refine XS.iload X273.here hx rfl (hb hby own_d_prog_34_method_4_28) rfl ?_
    refine XS.i2l X273.here hx rfl (hb hby own_d_prog_34_method_4_30) rfl ?_
    show Steps p.tables e below (T273.setTop (mkF m 31 #[.val (.ref I), .val (.ref src), .val (.int off), .val (.int len), .val (.int l0), .unset, .unset, .unset, .unset] [(.long (l0.toInt64))])) _
    refine XS.iloadN X273.here hx rfl (hb hby own_d_prog_34_method_4_31) rfl ?_
    refine XS.i2l X273.here hx rfl (hb hby own_d_prog_34_method_4_32) rfl ?_
    refine XS.ladd X273.here hx rfl (hb hby own_d_prog_34_method_4_33) rfl ?_
    refine XS.lstore X273.here hx rfl (hb hby own_d_prog_34_method_4_34) rfl (l' := #[.val (.ref I), .val (.ref src), .val (.int off), .val (.int len), .val (.int l0), .val (.long ((l0.toInt64) + (len.toInt64))), .second, .unset, .unset]) rfl ?_
    show Steps p.tables e below (T273.setTop (mkF m 36 #[.val (.ref I), .val (.ref src), .val (.int off), .val (.int len), .val (.int l0), .val (.long ((l0.toInt64) + (len.toInt64))), .second, .unset, .unset] [])) _
    refine XS.lload X273.here hx rfl (hb hby own_d_prog_34_method_4_36) rfl ?_
    refine XS.aloadN X273.here hx rfl (hb hby own_d_prog_34_method_4_38) rfl rfl ?_
    refine st275 _ ?_
    refine X275.arraylength hx (cell := cl276) (by rw [e275]; exact Ar276.1) (State.isArrayOf_alike hZ.alike Ar276.2.1) (g := (mkF m 42 #[.val (.ref I), .val (.ref src), .val (.int off), .val (.int len), .val (.int l0), .val (.long ((l0.toInt64) + (len.toInt64))), .second, .unset, .unset] [(.ref kA), (.long ((l0.toInt64) + (len.toInt64)))])) rfl (rest := [(.long ((l0.toInt64) + (len.toInt64)))]) rfl (hb hby own_d_prog_34_method_4_42) _ ?_
    rw [own_len (z := nd) G276 (by rw [hkl]; exact (back32 (own_nd1 (own_hnd hln))).1)]
    show Steps p.tables e below (T275.setTop (mkF m 43 #[.val (.ref I), .val (.ref src), .val (.int off), .val (.int len), .val (.int l0), .val (.long ((l0.toInt64) + (len.toInt64))), .second, .unset, .unset] [(.int nd), (.long ((l0.toInt64) + (len.toInt64)))])) _
    refine XS.i2l X275.here hx rfl (hb hby own_d_prog_34_method_4_43) rfl ?_
    refine XS.lcmp X275.here hx rfl (hb hby own_d_prog_34_method_4_44) rfl ?_
    refine XS.ifYes X275.here hx rfl (pc0 := 45) (pc' := 117) rfl (hb hby own_d_prog_34_method_4_45) rfl ((if0 _ _).trans (flt (own_k2a hln hol)).2.2.2) (by decide) (by decide) ?_
    refine XS.aloadN X275.here hx rfl (hb hby own_d_prog_34_method_4_117) rfl rfl ?_
    show Steps p.tables e below (T275.setTop (mkF m 118 #[.val (.ref I), .val (.ref src), .val (.int off), .val (.int len), .val (.int l0), .val (.long ((l0.toInt64) + (len.toInt64))), .second, .unset, .unset] [(.ref I)])) _
    refine st277 _ ?_
    refine XS.iconst X277.here hx rfl (hb hby own_d_prog_34_method_4_121) ?_
    refine XS.iadd X277.here hx rfl (hb hby own_d_prog_34_method_4_122) rfl ?_
    refine XS.aloadN X277.here hx rfl (hb hby own_d_prog_34_method_4_123) rfl rfl ?_
    show Steps p.tables e below (T277.setTop (mkF m 124 #[.val (.ref I), .val (.ref src), .val (.int off), .val (.int len), .val (.int l0), .val (.long ((l0.toInt64) + (len.toInt64))), .second, .unset, .unset] [(.ref I), (.int ((1 : Int32) + (1 : Int32)))])) _
    refine st278 _ ?_
    refine X278.arraylength hx (cell := cl279) (by rw [e278]; exact Ar279.1) (State.isArrayOf_alike hZ.alike Ar279.2.1) (g := (mkF m 127 #[.val (.ref I), .val (.ref src), .val (.int off), .val (.int len), .val (.int l0), .val (.long ((l0.toInt64) + (len.toInt64))), .second, .unset, .unset] [(.ref sA), (.int ((1 : Int32) + (1 : Int32)))])) rfl (rest := [(.int ((1 : Int32) + (1 : Int32)))]) rfl (hb hby own_d_prog_34_method_4_127) _ ?_
    rw [own_len (z := (1024 : Int32)) G279 (by rw [hsl]; decide)]
    refine XS.icmpYes X278.here hx rfl (pc0 := 128) (pc' := 156) rfl (hb hby own_d_prog_34_method_4_128) rfl (feq (show ¬ (((1 : Int32) + (1 : Int32)) = (1024 : Int32)) by decide)).2 (by decide) (by decide) ?_
    show Steps p.tables e below (T278.setTop (mkF m 156 #[.val (.ref I), .val (.ref src), .val (.int off), .val (.int len), .val (.int l0), .val (.long ((l0.toInt64) + (len.toInt64))), .second, .unset, .unset] [])) _
    refine XS.aloadN X278.here hx rfl (hb hby own_d_prog_34_method_4_156) rfl rfl ?_
    refine XS.iloadN X278.here hx rfl (hb hby own_d_prog_34_method_4_157) rfl ?_
    refine XS.aloadN X278.here hx rfl (hb hby own_d_prog_34_method_4_158) rfl rfl ?_
    refine st280 _ ?_
    show Steps p.tables e below (T280.setTop (mkF m 162 #[.val (.ref I), .val (.ref src), .val (.int off), .val (.int len), .val (.int l0), .val (.long ((l0.toInt64) + (len.toInt64))), .second, .unset, .unset] [(.ref kA), (.int off), (.ref src)])) _
    refine XS.iload X280.here hx rfl (hb hby own_d_prog_34_method_4_162) rfl ?_
    refine XS.iloadN X280.here hx rfl (hb hby own_d_prog_34_method_4_164) rfl ?_
    show Steps p.tables e below (T280.setTop (mkF m 165 #[.val (.ref I), .val (.ref src), .val (.int off), .val (.int len), .val (.int l0), .val (.long ((l0.toInt64) + (len.toInt64))), .second, .unset, .unset] [(.int len), (.int l0), (.ref kA), (.int off), (.ref src)])) _
    refine st281 _ ?_
    refine XS.aloadN X281.here hx rfl (hb hby own_d_prog_34_method_4_168) rfl rfl ?_
    refine st297 _ ?_
    refine XS.aloadN X297.here hx rfl (hb hby own_d_prog_34_method_4_172) rfl rfl ?_
    show Steps p.tables e below (T297.setTop (mkF m 173 #[.val (.ref I), .val (.ref src), .val (.int off), .val (.int len), .val (.int l0), .val (.long ((l0.toInt64) + (len.toInt64))), .second, .unset, .unset] [(.ref I), (.ref sA)])) _
    refine st298 _ ?_
    refine XS.iconst X298.here hx rfl (hb hby own_d_prog_34_method_4_176) ?_
    refine XS.iadd X298.here hx rfl (hb hby own_d_prog_34_method_4_177) rfl ?_
    refine XS.lload X298.here hx rfl (hb hby own_d_prog_34_method_4_178) rfl ?_
    show Steps p.tables e below (T298.setTop (mkF m 180 #[.val (.ref I), .val (.ref src), .val (.int off), .val (.int len), .val (.int l0), .val (.long ((l0.toInt64) + (len.toInt64))), .second, .unset, .unset] [(.long ((l0.toInt64) + (len.toInt64))), (.int ((1 : Int32) + (1 : Int32))), (.ref sA)])) _
    refine XS.l2i X298.here hx rfl (hb hby own_d_prog_34_method_4_180) rfl ?_
    show Steps p.tables e below (T298.setTop (mkF m 181 #[.val (.ref I), .val (.ref src), .val (.int off), .val (.int len), .val (.int l0), .val (.long ((l0.toInt64) + (len.toInt64))), .second, .unset, .unset] [(.int (((l0.toInt64) + (len.toInt64)).toInt32)), (.int ((1 : Int32) + (1 : Int32))), (.ref sA)])) _
    rw [own_k2e hln hol]
    refine st300 _ ?_
    refine XS.aloadN X300.here hx rfl (hb hby own_d_prog_34_method_4_182) rfl rfl ?_
    refine XS.dup X300.here hx rfl (hb hby own_d_prog_34_method_4_183) rfl rfl ?_
    show Steps p.tables e below (T300.setTop (mkF m 184 #[.val (.ref I), .val (.ref src), .val (.int off), .val (.int len), .val (.int l0), .val (.long ((l0.toInt64) + (len.toInt64))), .second, .unset, .unset] [(.ref I), (.ref I)])) _
    refine st317 _ ?_
    refine XS.iconst X317.here hx rfl (hb hby own_d_prog_34_method_4_187) ?_
    refine XS.iadd X317.here hx rfl (hb hby own_d_prog_34_method_4_188) rfl ?_
    refine st318 _ ?_
    show Steps p.tables e below (T318.setTop (mkF m 192 #[.val (.ref I), .val (.ref src), .val (.int off), .val (.int len), .val (.int l0), .val (.long ((l0.toInt64) + (len.toInt64))), .second, .unset, .unset] [])) _
    refine XS.aloadN X318.here hx rfl (hb hby own_d_prog_34_method_4_192) rfl rfl ?_
    refine st335 _ ?_
    refine XS.iconst X335.here hx rfl (hb hby own_d_prog_34_method_4_196) ?_
    refine XS.isub X335.here hx rfl (hb hby own_d_prog_34_method_4_197) rfl ?_
    show Steps p.tables e below (T335.setTop (mkF m 198 #[.val (.ref I), .val (.ref src), .val (.int off), .val (.int len), .val (.int l0), .val (.long ((l0.toInt64) + (len.toInt64))), .second, .unset, .unset] [(.int (((1 : Int32) + (1 : Int32)) - (1 : Int32)))])) _
    exact own_retI X335 hx Bd.returns (hb hby own_d_prog_34_method_4_198) hr
  · show rm_keep2_Q Z I kA sA tA bs wA ck cs ct cw ks ss ts sea wiu ww src cS x0 x1 x2 x3 l0 nd off len h0 n0 _ T335.heap _
    rw [e335]
    exact ⟨rfl, N318, KP318, ⟨f319, f320, f321, f322, f323, f324, f325, f326, f327, f328, f329, f334, f330, f331, f332⟩⟩
theorem rm_ci_ef (m : MethodId) (x0 : Addr) : entryFrame m #[(.ref x0)] 1 = mkF m 0 #[.val (.ref x0)] [] := by first | (simp [entryFrame, mkF, argsToLocals, Value.category]; done) | rfl
def rm_ci_Q (Z : State) (bs : Addr) (h0 : Heap) (n0 : Nat) (v : Option Value) (h : Heap) (L : List Loc) : Prop := v = none ∧ Fr n0 L ∧ h = h0
set_option maxRecDepth 65536 in
set_option maxHeartbeats 40000000 in
theorem rm_ci (l : Launch) (Z : State) (a0 : Array Value) (hw : ∀ d ∈ tables_1, d.before a0 Z = true) (ws : List Jvm.Cond) (bs : Addr) (h0 : Heap) (n0 : Nat) (Z0 : n0 ≤ h0.size) (OL : Old Z n0 h0) (S_A : Sta Z Z.heap "java/util/BitSet" "$assertionsDisabled" "Z" (.int (1 : Int32))) :
    MetFree l (⟨"java/util/BitSet", "checkInvariants", "()V"⟩ : MethodName) (head1 (Jvm.Cond.code (⟨"java/util/BitSet", "checkInvariants", "()V"⟩ : MethodName) jdk_92_method_2_code 1 none :: ws) ({ frames := 0, cells := 0, slots := 0, locals := 0 } : Room)) (fun a₀ U₀ => a₀ = #[(.ref bs)] ∧ Z.Warmed39 U₀.vm ∧ U₀.heap = h0) (fun _ _ _ _ _ => True) (fun _ U₀ o₀ U₁ => ∃ v₀ L₀, o₀ = .returned v₀ ∧ rm_ci_Q Z bs h0 n0 v₀ U₁.heap L₀ ∧ FrameEnd U₀ o₀ U₁ L₀ ({ frames := 0, cells := 0, slots := 0, locals := 0 } : Room).cells ({ frames := 0, cells := 0, slots := 0, locals := 0 } : Room).slots) := by
  refine MetFree.of_bodySF (plainFor_of_name own_pn2) hisR ?_
  intro p e s m args below meth c s₁ Bd hml0 hP hK
  obtain ⟨rfl, hZ, hh⟩ := hP
  have hx := Bd.exec
  have hby := Bd.bytes
  have hml : c.maxLocals = 1 := hml0
  have hown : s.vm.findClass "java/util/BitSet" = some m.cls := findClass_of_methodNamed Bd.named
  have hnm := (name_of_methodNamed Bd.named Bd.method).1
  have X0 : Stand p l e ({ frames := 0, cells := 0, slots := 0, locals := 0 } : Room) s m #[(.ref bs)] below meth c s₁ [] 0 0 := Stand.of_body Bd
  have e0 : s₁.heap = h0 := by rw [← hh, Bd.state]; rfl
  have N0 := Fr.nil n0
  have pre0 : ∀ t, Steps p.tables e below (s₁.setTop (mkF m 0 #[.val (.ref bs)] [])) t → Steps p.tables e below (s₁.setTop (entryFrame m #[(.ref bs)] 1)) t := fun t kk₀ => castTop (rm_ci_ef m bs) kk₀
  obtain ⟨T336, X336, e336, st336⟩ := getS X0 hx hZ (host := "") hown (own_at hw 146 rfl) Via.refl e0 (S_A.ext OL.2) (g := (mkF m 0 #[.val (.ref bs)] [])) rfl (hb hby own_d_jdk_92_method_2_0)
  obtain ⟨T337, X337, e337, st337⟩ := getS X336 hx hZ (host := "") hown (own_at hw 146 rfl) Via.refl e336 (S_A.ext OL.2) (g := (mkF m 37 #[.val (.ref bs)] [])) rfl (hb hby own_d_jdk_92_method_2_37)
  obtain ⟨T338, X338, e338, st338⟩ := getS X337 hx hZ (host := "") hown (own_at hw 146 rfl) Via.refl e337 (S_A.ext OL.2) (g := (mkF m 70 #[.val (.ref bs)] [])) rfl (hb hby own_d_jdk_92_method_2_70)
  obtain ⟨fs, hr, hrun, hended, hW, hsame⟩ := X338.leave (v := none) (fun _ => rfl)
  refine ⟨_, _, pre0 _ ?_, hrun, hended, _, _, rfl, ?_, ⟨_, rfl⟩, hW, hsame.mono (by decide) (by decide)⟩
  · show Steps p.tables e below (s₁.setTop (mkF m 0 #[.val (.ref bs)] [])) _
    refine st336 _ ?_
    refine XS.ifYes X336.here hx rfl (pc0 := 3) (pc' := 37) rfl (hb hby own_d_jdk_92_method_2_3) rfl ((if0 _ _).trans (feq (show ¬ ((1 : Int32) = (0 : Int32)) by decide)).2) (by decide) (by decide) ?_
    refine st337 _ ?_
    refine XS.ifYes X337.here hx rfl (pc0 := 40) (pc' := 70) rfl (hb hby own_d_jdk_92_method_2_40) rfl ((if0 _ _).trans (feq (show ¬ ((1 : Int32) = (0 : Int32)) by decide)).2) (by decide) (by decide) ?_
    show Steps p.tables e below (T337.setTop (mkF m 70 #[.val (.ref bs)] [])) _
    refine st338 _ ?_
    refine XS.ifYes X338.here hx rfl (pc0 := 73) (pc' := 110) rfl (hb hby own_d_jdk_92_method_2_73) rfl ((if0 _ _).trans (feq (show ¬ ((1 : Int32) = (0 : Int32)) by decide)).2) (by decide) (by decide) ?_
    exact X338.returnOut hx Bd.returns (hb hby own_d_jdk_92_method_2_110) hr
  · show rm_ci_Q Z bs h0 n0 _ T338.heap _
    rw [e338]
    exact ⟨rfl, N0, rfl⟩
theorem rm_ec_ef (m : MethodId) (x0 : Addr) (x1 : Int32) : entryFrame m #[(.ref x0), (.int x1)] 3 = mkF m 0 #[.val (.ref x0), .val (.int x1), .unset] [] := by first | (simp [entryFrame, mkF, argsToLocals, Value.category]; done) | rfl
def rm_ec_Q (Z : State) (bs : Addr) (rq : Int32) (wA : Addr) (cw : ClassId) (ww : Int64) (h0 : Heap) (n0 : Nat) (v : Option Value) (h : Heap) (L : List Loc) : Prop := v = none ∧ Fr n0 L ∧ h = h0
set_option maxRecDepth 65536 in
set_option maxHeartbeats 40000000 in
theorem rm_ec (l : Launch) (Z : State) (a0 : Array Value) (hw : ∀ d ∈ tables_1, d.before a0 Z = true) (ws : List Jvm.Cond) (bs : Addr) (rq : Int32) (wA : Addr) (cw : ClassId) (ww : Int64) (h0 : Heap) (n0 : Nat) (Z0 : n0 ≤ h0.size) (F_wo : Fld Z h0 bs "java/util/BitSet" "words" "[J" (.ref wA)) (Lw : OwnLst Z h0 wA .long cw [.long ww]) (hrq : ¬ ((1 : Int32) < rq)) :
    MetFree l (⟨"java/util/BitSet", "ensureCapacity", "(I)V"⟩ : MethodName) (head1 (Jvm.Cond.code (⟨"java/util/BitSet", "ensureCapacity", "(I)V"⟩ : MethodName) jdk_92_method_14_code 3 none :: ws) ({ frames := 0, cells := 0, slots := 0, locals := 0 } : Room)) (fun a₀ U₀ => a₀ = #[(.ref bs), (.int rq)] ∧ Z.Warmed39 U₀.vm ∧ U₀.heap = h0) (fun _ _ _ _ _ => True) (fun _ U₀ o₀ U₁ => ∃ v₀ L₀, o₀ = .returned v₀ ∧ rm_ec_Q Z bs rq wA cw ww h0 n0 v₀ U₁.heap L₀ ∧ FrameEnd U₀ o₀ U₁ L₀ ({ frames := 0, cells := 0, slots := 0, locals := 0 } : Room).cells ({ frames := 0, cells := 0, slots := 0, locals := 0 } : Room).slots) := by
  refine MetFree.of_bodySF (plainFor_of_name own_pn2) hisR ?_
  intro p e s m args below meth c s₁ Bd hml0 hP hK
  obtain ⟨rfl, hZ, hh⟩ := hP
  have hx := Bd.exec
  have hby := Bd.bytes
  have hml : c.maxLocals = 3 := hml0
  have hown : s.vm.findClass "java/util/BitSet" = some m.cls := findClass_of_methodNamed Bd.named
  have hnm := (name_of_methodNamed Bd.named Bd.method).1
  have X0 : Stand p l e ({ frames := 0, cells := 0, slots := 0, locals := 0 } : Room) s m #[(.ref bs), (.int rq)] below meth c s₁ [] 0 0 := Stand.of_body Bd
  have e0 : s₁.heap = h0 := by rw [← hh, Bd.state]; rfl
  have N0 := Fr.nil n0
  have pre0 : ∀ t, Steps p.tables e below (s₁.setTop (mkF m 0 #[.val (.ref bs), .val (.int rq), .unset] [])) t → Steps p.tables e below (s₁.setTop (entryFrame m #[(.ref bs), (.int rq)] 3)) t := fun t kk₀ => castTop (rm_ec_ef m bs rq) kk₀
  obtain ⟨T339, X339, e339, st339⟩ := getF X0 hx hZ hown (host := "") (Or.inl (own_at hw 43 rfl)) Via.refl e0 F_wo (g := (mkF m 1 #[.val (.ref bs), .val (.int rq), .unset] [(.ref bs)])) rfl rfl (hb hby own_d_jdk_92_method_14_1)
  obtain ⟨cl340, Ar340, q340, G340⟩ := id Lw
  obtain ⟨fs, hr, hrun, hended, hW, hsame⟩ := X339.leave (v := none) (fun _ => rfl)
  refine ⟨_, _, pre0 _ ?_, hrun, hended, _, _, rfl, ?_, ⟨_, rfl⟩, hW, hsame.mono (by decide) (by decide)⟩
  · show Steps p.tables e below (s₁.setTop (mkF m 0 #[.val (.ref bs), .val (.int rq), .unset] [])) _
    refine XS.aloadN X0.here hx rfl (hb hby own_d_jdk_92_method_14_0) rfl rfl ?_
    refine st339 _ ?_
    refine X339.arraylength hx (cell := cl340) (by rw [e339]; exact Ar340.1) (State.isArrayOf_alike hZ.alike Ar340.2.1) (g := (mkF m 4 #[.val (.ref bs), .val (.int rq), .unset] [(.ref wA)])) rfl (rest := []) rfl (hb hby own_d_jdk_92_method_14_4) _ ?_
    rw [own_len (z := (1 : Int32)) G340 rfl]
    show Steps p.tables e below (T339.setTop (mkF m 5 #[.val (.ref bs), .val (.int rq), .unset] [(.int (1 : Int32))])) _
    refine XS.iloadN X339.here hx rfl (hb hby own_d_jdk_92_method_14_5) rfl ?_
    refine XS.icmpYes X339.here hx rfl (pc0 := 6) (pc' := 38) rfl (hb hby own_d_jdk_92_method_14_6) rfl (flt hrq).2.1 (by decide) (by decide) ?_
    exact X339.returnOut hx Bd.returns (hb hby own_d_jdk_92_method_14_38) hr
  · show rm_ec_Q Z bs rq wA cw ww h0 n0 _ T339.heap _
    rw [e339]
    exact ⟨rfl, N0, rfl⟩
theorem rm_ex_ef (m : MethodId) (x0 : Addr) (x1 : Int32) : entryFrame m #[(.ref x0), (.int x1)] 3 = mkF m 0 #[.val (.ref x0), .val (.int x1), .unset] [] := by first | (simp [entryFrame, mkF, argsToLocals, Value.category]; done) | rfl
def rm_ex_Q (Z : State) (bs : Addr) (wA : Addr) (cw : ClassId) (wiu : Int32) (ww : Int64) (h0 : Heap) (n0 : Nat) (v : Option Value) (h : Heap) (L : List Loc) : Prop := v = none ∧ Fr n0 L ∧ Keep h0 h [bs] ∧ Exa Z h bs "java/util/BitSet" ∧ Fld Z h bs "java/util/BitSet" "wordsInUse" "I" (.int (1 : Int32)) ∧ Fld Z h bs "java/util/BitSet" "sizeIsSticky" "Z" (.int (0 : Int32)) ∧ Fld Z h bs "java/util/BitSet" "words" "[J" (.ref wA)
set_option maxRecDepth 65536 in
set_option maxHeartbeats 40000000 in
theorem rm_ex (l : Launch) (Z : State) (a0 : Array Value) (hw : ∀ d ∈ tables_1, d.before a0 Z = true) (ws : List Jvm.Cond) (bs : Addr) (wA : Addr) (cw : ClassId) (wiu : Int32) (ww : Int64) (h0 : Heap) (n0 : Nat) (Z0 : n0 ≤ h0.size) (OL : Old Z n0 h0) (E_b : Exa Z h0 bs "java/util/BitSet") (F_wiu : Fld Z h0 bs "java/util/BitSet" "wordsInUse" "I" (.int wiu)) (F_st : Fld Z h0 bs "java/util/BitSet" "sizeIsSticky" "Z" (.int (0 : Int32))) (F_wo : Fld Z h0 bs "java/util/BitSet" "words" "[J" (.ref wA)) (Lw : OwnLst Z h0 wA .long cw [.long ww]) (g_b : n0 ≤ bs) (g_w : n0 ≤ wA) (ne_bw : bs ≠ wA) (hwiu : wiu = (0 : Int32) ∨ wiu = (1 : Int32)) :
    MetFree l (⟨"java/util/BitSet", "expandTo", "(I)V"⟩ : MethodName) (head1 (Jvm.Cond.code (⟨"java/util/BitSet", "expandTo", "(I)V"⟩ : MethodName) jdk_92_method_15_code 3 none :: ws) ({ frames := 1, cells := 0, slots := 0, locals := 14 } : Room)) (fun a₀ U₀ => a₀ = #[(.ref bs), (.int (0 : Int32))] ∧ Z.Warmed39 U₀.vm ∧ U₀.heap = h0) (fun _ _ _ _ _ => True) (fun _ U₀ o₀ U₁ => ∃ v₀ L₀, o₀ = .returned v₀ ∧ rm_ex_Q Z bs wA cw wiu ww h0 n0 v₀ U₁.heap L₀ ∧ FrameEnd U₀ o₀ U₁ L₀ ({ frames := 1, cells := 0, slots := 0, locals := 14 } : Room).cells ({ frames := 1, cells := 0, slots := 0, locals := 14 } : Room).slots) := by
  refine MetFree.of_bodySF (plainFor_of_name own_pn2) hisR ?_
  intro p e s m args below meth c s₁ Bd hml0 hP hK
  obtain ⟨rfl, hZ, hh⟩ := hP
  have hx := Bd.exec
  have hby := Bd.bytes
  have hml : c.maxLocals = 3 := hml0
  have hown : s.vm.findClass "java/util/BitSet" = some m.cls := findClass_of_methodNamed Bd.named
  have hnm := (name_of_methodNamed Bd.named Bd.method).1
  have X0 : Stand p l e ({ frames := 1, cells := 0, slots := 0, locals := 14 } : Room) s m #[(.ref bs), (.int (0 : Int32))] below meth c s₁ [] 0 0 := Stand.of_body Bd
  have e0 : s₁.heap = h0 := by rw [← hh, Bd.state]; rfl
  have N0 := Fr.nil n0
  have pre0 : ∀ t, Steps p.tables e below (s₁.setTop (mkF m 0 #[.val (.ref bs), .val (.int (0 : Int32)), .unset] [])) t → Steps p.tables e below (s₁.setTop (entryFrame m #[(.ref bs), (.int (0 : Int32))] 3)) t := fun t kk₀ => castTop (rm_ex_ef m bs (0 : Int32)) kk₀
  rcases hwiu with q | q
  · obtain ⟨T341, X341, e341, st341⟩ := getF X0 hx hZ hown (host := "") (Or.inl (own_at hw 31 rfl)) Via.refl e0 F_wiu (g := (mkF m 5 #[.val (.ref bs), .val (.int (0 : Int32)), .val (.int ((0 : Int32) + (1 : Int32)))] [(.ref bs)])) rfl rfl (hb hby own_d_jdk_92_method_15_5)
    obtain ⟨cq342, q342, q342'⟩ := E_b.cell
    obtain ⟨_, _, ⟨T342, L342, k342, n342⟩, -, X342, ⟨Lc342, hQ342, l342, y342, z342⟩, st342⟩ := X341.privateBack hx (y := (⟨"java/util/BitSet", "ensureCapacity", "(I)V"⟩ : MethodName)) hown (mvT hZ (own_at hw 136 rfl)) (mvT hZ (own_at hw 137 rfl)) (mvT hZ (own_at hw 139 rfl)) (Cond.privateMethod_at (mvP hZ (own_at hw 138 rfl) (args := #[]))) (mvT hZ (own_at hw 140 rfl)) (by decide) (backOf (W := 0) (rm_ec l Z a0 hw [] bs ((0 : Int32) + (1 : Int32)) wA cw ww h0 n0 Z0 F_wo Lw (by decide)) hZ (own_at hw 140 rfl) (own_at hw 26 rfl) (by decide) (by decide)) (g := (mkF m 14 #[.val (.ref bs), .val (.int (0 : Int32)), .val (.int ((0 : Int32) + (1 : Int32)))] [(.int ((0 : Int32) + (1 : Int32))), (.ref bs)])) rfl (by rw [hml]; rfl) (Steps.refl _) (a := bs) (by rw [e341]; exact q342) q342' (argsL := [(.int ((0 : Int32) + (1 : Int32)))]) (rest := []) (lenOf own_pd1 rfl) rfl (by show 2 * 0 + _ ≤ _; exact Nat.le_of_eq rfl) (hb hby own_d_jdk_92_method_15_14) (fun _ _ => ⟨rfl, e341, (by decide : 0 + 0 ≤ _), (by decide : 0 + 0 ≤ _)⟩)
    dsimp only [Pt.U, Pt.locs, Pt.cells, Pt.slots] at X342 l342 y342 z342 st342 hQ342
    subst l342 y342 z342
    obtain ⟨rfl, Nq342, eh342⟩ := hQ342
    have N342 := Fr.app N0 Nq342
    obtain ⟨T343, h343, X343, e343, W343, st343⟩ := putF X342 hx hZ hown (host := "") (Or.inl (own_at hw 31 rfl)) Via.refl eh342 F_wiu E_b (Or.inl (own_at hw 32 rfl)) (own_at hw 25 rfl) (ty := .int) (by decide) rfl rfl (g := (mkF m 19 #[.val (.ref bs), .val (.int (0 : Int32)), .val (.int ((0 : Int32) + (1 : Int32)))] [(.int ((0 : Int32) + (1 : Int32))), (.ref bs)])) rfl rfl (hb hby own_d_jdk_92_method_15_19)
    have N343 := Fr.snoc X343 N342 g_b
    have f344 := E_b.wr W343
    have f345 : Fld Z h343 bs "java/util/BitSet" "wordsInUse" "I" (.int ((0 : Int32) + (1 : Int32))) := F_wiu.same W343
    have f346 := F_st.other W343 (Or.inr (slot_ne (Or.inl (own_at hw 34 rfl)) (Or.inl (own_at hw 32 rfl)) (by decide) (t := .boolean) (t' := .int) (by decide) (by decide)))
    have f347 := F_wo.other W343 (Or.inr (slot_ne (Or.inl (own_at hw 44 rfl)) (Or.inl (own_at hw 32 rfl)) (by decide) (t := (.array .long)) (t' := .int) (by decide) (by decide)))
    have f348 := Lw.other W343 (Ne.symm ne_bw)
    have OL343 := OL.wr W343 g_b
    have KP343 : Keep h0 h343 [bs] := (Keep.refl _ _).wr W343 (Or.inl (by simp))
    obtain ⟨fs, hr, hrun, hended, hW, hsame⟩ := X343.leave (v := none) (fun _ => rfl)
    refine ⟨_, _, pre0 _ ?_, hrun, hended, _, _, rfl, ?_, ⟨_, rfl⟩, hW, hsame.mono (by decide) (by decide)⟩
    · show Steps p.tables e below (s₁.setTop (mkF m 0 #[.val (.ref bs), .val (.int (0 : Int32)), .unset] [])) _
      refine XS.iloadN X0.here hx rfl (hb hby own_d_jdk_92_method_15_0) rfl ?_
      refine XS.iconst X0.here hx rfl (hb hby own_d_jdk_92_method_15_1) ?_
      refine XS.iadd X0.here hx rfl (hb hby own_d_jdk_92_method_15_2) rfl ?_
      refine XS.istoreN X0.here hx rfl (hb hby own_d_jdk_92_method_15_3) rfl (l' := #[.val (.ref bs), .val (.int (0 : Int32)), .val (.int ((0 : Int32) + (1 : Int32)))]) rfl ?_
      show Steps p.tables e below (s₁.setTop (mkF m 4 #[.val (.ref bs), .val (.int (0 : Int32)), .val (.int ((0 : Int32) + (1 : Int32)))] [])) _
      refine XS.aloadN X0.here hx rfl (hb hby own_d_jdk_92_method_15_4) rfl rfl ?_
      refine st341 _ ?_
      refine XS.iloadN X341.here hx rfl (hb hby own_d_jdk_92_method_15_8) rfl ?_
      refine XS.icmpNo X341.here hx rfl (hb hby own_d_jdk_92_method_15_9) rfl (tlt (show wiu < ((0 : Int32) + (1 : Int32)) by rw [q]; decide)).2.1 ?_
      show Steps p.tables e below (T341.setTop (mkF m 12 #[.val (.ref bs), .val (.int (0 : Int32)), .val (.int ((0 : Int32) + (1 : Int32)))] [])) _
      refine XS.aloadN X341.here hx rfl (hb hby own_d_jdk_92_method_15_12) rfl rfl ?_
      refine XS.iloadN X341.here hx rfl (hb hby own_d_jdk_92_method_15_13) rfl ?_
      refine st342.trans ?_
      refine XS.aloadN X342.here hx rfl (hb hby own_d_jdk_92_method_15_17) rfl rfl ?_
      show Steps p.tables e below (T342.setTop (mkF m 18 #[.val (.ref bs), .val (.int (0 : Int32)), .val (.int ((0 : Int32) + (1 : Int32)))] [(.ref bs)])) _
      refine XS.iloadN X342.here hx rfl (hb hby own_d_jdk_92_method_15_18) rfl ?_
      refine st343 _ ?_
      exact X343.returnOut hx Bd.returns (hb hby own_d_jdk_92_method_15_22) hr
    · show rm_ex_Q Z bs wA cw wiu ww h0 n0 _ T343.heap _
      rw [e343]
      exact ⟨rfl, N343, KP343, f344, f345, f346, f347⟩
  · obtain ⟨T349, X349, e349, st349⟩ := getF X0 hx hZ hown (host := "") (Or.inl (own_at hw 31 rfl)) Via.refl e0 F_wiu (g := (mkF m 5 #[.val (.ref bs), .val (.int (0 : Int32)), .val (.int ((0 : Int32) + (1 : Int32)))] [(.ref bs)])) rfl rfl (hb hby own_d_jdk_92_method_15_5)
    obtain ⟨fs, hr, hrun, hended, hW, hsame⟩ := X349.leave (v := none) (fun _ => rfl)
    refine ⟨_, _, pre0 _ ?_, hrun, hended, _, _, rfl, ?_, ⟨_, rfl⟩, hW, hsame.mono (by decide) (by decide)⟩
    · show Steps p.tables e below (s₁.setTop (mkF m 0 #[.val (.ref bs), .val (.int (0 : Int32)), .unset] [])) _
      refine XS.iloadN X0.here hx rfl (hb hby own_d_jdk_92_method_15_0) rfl ?_
      refine XS.iconst X0.here hx rfl (hb hby own_d_jdk_92_method_15_1) ?_
      refine XS.iadd X0.here hx rfl (hb hby own_d_jdk_92_method_15_2) rfl ?_
      refine XS.istoreN X0.here hx rfl (hb hby own_d_jdk_92_method_15_3) rfl (l' := #[.val (.ref bs), .val (.int (0 : Int32)), .val (.int ((0 : Int32) + (1 : Int32)))]) rfl ?_
      show Steps p.tables e below (s₁.setTop (mkF m 4 #[.val (.ref bs), .val (.int (0 : Int32)), .val (.int ((0 : Int32) + (1 : Int32)))] [])) _
      refine XS.aloadN X0.here hx rfl (hb hby own_d_jdk_92_method_15_4) rfl rfl ?_
      refine st349 _ ?_
      refine XS.iloadN X349.here hx rfl (hb hby own_d_jdk_92_method_15_8) rfl ?_
      refine XS.icmpYes X349.here hx rfl (pc0 := 9) (pc' := 22) rfl (hb hby own_d_jdk_92_method_15_9) rfl (flt (show ¬ (wiu < ((0 : Int32) + (1 : Int32))) by rw [q]; decide)).2.1 (by decide) (by decide) ?_
      show Steps p.tables e below (T349.setTop (mkF m 22 #[.val (.ref bs), .val (.int (0 : Int32)), .val (.int ((0 : Int32) + (1 : Int32)))] [])) _
      exact X349.returnOut hx Bd.returns (hb hby own_d_jdk_92_method_15_22) hr
    · show rm_ex_Q Z bs wA cw wiu ww h0 n0 _ T349.heap _
      rw [e349]
      exact ⟨rfl, N0, (Keep.refl _ _), E_b, by rw [← q]; exact F_wiu, F_st, F_wo⟩
theorem rm_wi0_ef (m : MethodId) (x0 : Int32) : entryFrame m #[(.int x0)] 1 = mkF m 0 #[.val (.int x0)] [] := by first | (simp [entryFrame, mkF, argsToLocals, Value.category]; done) | rfl
def rm_wi0_Q (Z : State) (iv : Int32) (h0 : Heap) (n0 : Nat) (v : Option Value) (h : Heap) (L : List Loc) : Prop := v = some (.int (0 : Int32)) ∧ Fr n0 L ∧ h = h0
set_option maxRecDepth 65536 in
set_option maxHeartbeats 40000000 in
theorem rm_wi0 (l : Launch) (Z : State) (a0 : Array Value) (hw : ∀ d ∈ tables_1, d.before a0 Z = true) (ws : List Jvm.Cond) (iv : Int32) (h0 : Heap) (n0 : Nat) (Z0 : n0 ≤ h0.size) (hiv : iv = (0 : Int32) ∨ iv = (1 : Int32)) :
    MetFree l (⟨"java/util/BitSet", "wordIndex", "(I)I"⟩ : MethodName) (head1 (Jvm.Cond.code (⟨"java/util/BitSet", "wordIndex", "(I)I"⟩ : MethodName) jdk_92_method_1_code 1 (some .int) :: ws) ({ frames := 0, cells := 0, slots := 0, locals := 0 } : Room)) (fun a₀ U₀ => a₀ = #[(.int iv)] ∧ Z.Warmed39 U₀.vm ∧ U₀.heap = h0) (fun _ _ _ _ _ => True) (fun _ U₀ o₀ U₁ => ∃ v₀ L₀, o₀ = .returned v₀ ∧ rm_wi0_Q Z iv h0 n0 v₀ U₁.heap L₀ ∧ FrameEnd U₀ o₀ U₁ L₀ ({ frames := 0, cells := 0, slots := 0, locals := 0 } : Room).cells ({ frames := 0, cells := 0, slots := 0, locals := 0 } : Room).slots) := by
  refine MetFree.of_bodySF (plainFor_of_name own_pn2) hisR ?_
  intro p e s m args below meth c s₁ Bd hml0 hP hK
  obtain ⟨rfl, hZ, hh⟩ := hP
  have hx := Bd.exec
  have hby := Bd.bytes
  have hml : c.maxLocals = 1 := hml0
  have hown : s.vm.findClass "java/util/BitSet" = some m.cls := findClass_of_methodNamed Bd.named
  have hnm := (name_of_methodNamed Bd.named Bd.method).1
  have X0 : Stand p l e ({ frames := 0, cells := 0, slots := 0, locals := 0 } : Room) s m #[(.int iv)] below meth c s₁ [] 0 0 := Stand.of_body Bd
  have e0 : s₁.heap = h0 := by rw [← hh, Bd.state]; rfl
  have N0 := Fr.nil n0
  have pre0 : ∀ t, Steps p.tables e below (s₁.setTop (mkF m 0 #[.val (.int iv)] [])) t → Steps p.tables e below (s₁.setTop (entryFrame m #[(.int iv)] 1)) t := fun t kk₀ => castTop (rm_wi0_ef m iv) kk₀
  obtain ⟨fs, hr, hrun, hended, hW, hsame⟩ := X0.leave (v := some (.int (iv >>> ((6 : Int32) &&& 31)))) (fun h => by rw [Bd.returns] at h; cases h)
  refine ⟨_, _, pre0 _ ?_, hrun, hended, _, _, rfl, ?_, ⟨_, rfl⟩, hW, hsame.mono (by decide) (by decide)⟩
  · show Steps p.tables e below (s₁.setTop (mkF m 0 #[.val (.int iv)] [])) _
    refine XS.iloadN X0.here hx rfl (hb hby own_d_jdk_92_method_1_0) rfl ?_
    refine XS.bipush X0.here hx rfl (hb hby own_d_jdk_92_method_1_1) ?_
    refine XS.ishr X0.here hx rfl (hb hby own_d_jdk_92_method_1_3) rfl ?_
    exact own_retI X0 hx Bd.returns (hb hby own_d_jdk_92_method_1_4) hr
  · show rm_wi0_Q Z iv h0 n0 _ s₁.heap _
    rw [e0]
    exact ⟨by rw [show (iv >>> ((6 : Int32) &&& 31)) = (0 : Int32) by rcases hiv with q | q <;> rw [q] <;> decide], N0, rfl⟩
theorem rm_set_ef (m : MethodId) (x0 : Addr) (x1 : Int32) : entryFrame m #[(.ref x0), (.int x1)] 3 = mkF m 0 #[.val (.ref x0), .val (.int x1), .unset] [] := by first | (simp [entryFrame, mkF, argsToLocals, Value.category]; done) | rfl
def rm_set_Q (Z : State) (bs : Addr) (wA : Addr) (cw : ClassId) (wiu : Int32) (ww : Int64) (nb : Int32) (h0 : Heap) (n0 : Nat) (v : Option Value) (h : Heap) (L : List Loc) : Prop := ∃ wy : Int64, v = none ∧ Fr n0 L ∧ Keep h0 h [bs, wA] ∧ Exa Z h bs "java/util/BitSet" ∧ Fld Z h bs "java/util/BitSet" "wordsInUse" "I" (.int (1 : Int32)) ∧ Fld Z h bs "java/util/BitSet" "sizeIsSticky" "Z" (.int (0 : Int32)) ∧ Fld Z h bs "java/util/BitSet" "words" "[J" (.ref wA) ∧ OwnLst Z h wA .long cw [.long wy]
set_option maxRecDepth 65536 in
set_option maxHeartbeats 40000000 in
theorem rm_set (l : Launch) (Z : State) (a0 : Array Value) (hw : ∀ d ∈ tables_1, d.before a0 Z = true) (ws : List Jvm.Cond) (bs : Addr) (wA : Addr) (cw : ClassId) (wiu : Int32) (ww : Int64) (nb : Int32) (h0 : Heap) (n0 : Nat) (Z0 : n0 ≤ h0.size) (OL : Old Z n0 h0) (E_b : Exa Z h0 bs "java/util/BitSet") (F_wiu : Fld Z h0 bs "java/util/BitSet" "wordsInUse" "I" (.int wiu)) (F_st : Fld Z h0 bs "java/util/BitSet" "sizeIsSticky" "Z" (.int (0 : Int32))) (F_wo : Fld Z h0 bs "java/util/BitSet" "words" "[J" (.ref wA)) (Lw : OwnLst Z h0 wA .long cw [.long ww]) (g_b : n0 ≤ bs) (g_w : n0 ≤ wA) (ne_bw : bs ≠ wA) (hwiu : wiu = (0 : Int32) ∨ wiu = (1 : Int32)) (S_A : Sta Z Z.heap "java/util/BitSet" "$assertionsDisabled" "Z" (.int (1 : Int32))) (hnb : nb = (0 : Int32) ∨ nb = (1 : Int32)) :
    MetFree l (⟨"java/util/BitSet", "set", "(I)V"⟩ : MethodName) (head1 (Jvm.Cond.code (⟨"java/util/BitSet", "set", "(I)V"⟩ : MethodName) jdk_92_method_19_code 3 none :: ws) ({ frames := 2, cells := 0, slots := 0, locals := 28 } : Room)) (fun a₀ U₀ => a₀ = #[(.ref bs), (.int nb)] ∧ Z.Warmed39 U₀.vm ∧ U₀.heap = h0) (fun _ _ _ _ _ => True) (fun _ U₀ o₀ U₁ => ∃ v₀ L₀, o₀ = .returned v₀ ∧ rm_set_Q Z bs wA cw wiu ww nb h0 n0 v₀ U₁.heap L₀ ∧ FrameEnd U₀ o₀ U₁ L₀ ({ frames := 2, cells := 0, slots := 0, locals := 28 } : Room).cells ({ frames := 2, cells := 0, slots := 0, locals := 28 } : Room).slots) := by
  refine MetFree.of_bodySF (plainFor_of_name own_pn2) hisR ?_
  intro p e s m args below meth c s₁ Bd hml0 hP hK
  obtain ⟨rfl, hZ, hh⟩ := hP
  have hx := Bd.exec
  have hby := Bd.bytes
  have hml : c.maxLocals = 3 := hml0
  have hown : s.vm.findClass "java/util/BitSet" = some m.cls := findClass_of_methodNamed Bd.named
  have hnm := (name_of_methodNamed Bd.named Bd.method).1
  have X0 : Stand p l e ({ frames := 2, cells := 0, slots := 0, locals := 28 } : Room) s m #[(.ref bs), (.int nb)] below meth c s₁ [] 0 0 := Stand.of_body Bd
  have e0 : s₁.heap = h0 := by rw [← hh, Bd.state]; rfl
  have N0 := Fr.nil n0
  have pre0 : ∀ t, Steps p.tables e below (s₁.setTop (mkF m 0 #[.val (.ref bs), .val (.int nb), .unset] [])) t → Steps p.tables e below (s₁.setTop (entryFrame m #[(.ref bs), (.int nb)] 3)) t := fun t kk₀ => castTop (rm_set_ef m bs nb) kk₀
  obtain ⟨_, _, ⟨T350, L350, k350, n350⟩, -, X350, ⟨Lc350, hQ350, l350, y350, z350⟩, st350⟩ := Jvm.LawKit.callS X0 hx (y := (⟨"java/util/BitSet", "wordIndex", "(I)I"⟩ : MethodName)) hown (mvT hZ (own_at hw 40 rfl)) (mvT hZ (own_at hw 41 rfl)) (mvT hZ (own_at hw 26 rfl)) (mvT hZ (own_at hw 42 rfl)) (by decide) (backOf (W := 0) (rm_wi0 l Z a0 hw [] nb h0 n0 Z0 hnb) hZ (own_at hw 42 rfl) (own_at hw 26 rfl) (by decide) (by decide)) (g := (mkF m 32 #[.val (.ref bs), .val (.int nb), .unset] [(.int nb)])) rfl (by rw [hml]; rfl) (argsL := [(.int nb)]) (rest := []) (lenOf own_pd0 rfl) rfl (by show 2 * 0 + _ ≤ _; exact Nat.le_of_eq rfl) (hb hby own_d_jdk_92_method_19_32) (fun _ _ => ⟨rfl, e0, (by decide : 0 + 0 ≤ _), (by decide : 0 + 0 ≤ _)⟩)
  dsimp only [Pt.U, Pt.locs, Pt.cells, Pt.slots] at X350 l350 y350 z350 st350 hQ350
  subst l350 y350 z350
  obtain ⟨rfl, Nq350, eh350⟩ := hQ350
  have N350 := Fr.app N0 Nq350
  obtain ⟨cq351, q351, q351'⟩ := E_b.cell
  obtain ⟨_, _, ⟨T351, L351, k351, n351⟩, -, X351, ⟨Lc351, hQ351, l351, y351, z351⟩, st351⟩ := X350.privateBack hx (y := (⟨"java/util/BitSet", "expandTo", "(I)V"⟩ : MethodName)) hown (mvT hZ (own_at hw 131 rfl)) (mvT hZ (own_at hw 132 rfl)) (mvT hZ (own_at hw 134 rfl)) (Cond.privateMethod_at (mvP hZ (own_at hw 133 rfl) (args := #[]))) (mvT hZ (own_at hw 135 rfl)) (by decide) (backOf (W := 0) (rm_ex l Z a0 hw [] bs wA cw wiu ww h0 n0 Z0 OL E_b F_wiu F_st F_wo Lw g_b g_w ne_bw hwiu) hZ (own_at hw 135 rfl) (own_at hw 26 rfl) (by decide) (by decide)) (g := (mkF m 38 #[.val (.ref bs), .val (.int nb), .val (.int (0 : Int32))] [(.int (0 : Int32)), (.ref bs)])) rfl (by rw [hml]; rfl) (Steps.refl _) (a := bs) (by rw [eh350]; exact q351) q351' (argsL := [(.int (0 : Int32))]) (rest := []) (lenOf own_pd1 rfl) rfl (by show 2 * 0 + _ ≤ _; exact Nat.le_of_eq rfl) (hb hby own_d_jdk_92_method_19_38) (fun _ _ => ⟨rfl, eh350, (by decide : 0 + 0 ≤ _), (by decide : 0 + 0 ≤ _)⟩)
  dsimp only [Pt.U, Pt.locs, Pt.cells, Pt.slots] at X351 l351 y351 z351 st351 hQ351
  subst l351 y351 z351
  obtain ⟨rfl, Nq351, K351, c351_0, c351_1, c351_2, c351_3⟩ := hQ351
  have N351 := Fr.app N350 Nq351
  have f352 := Lw.keep K351 (by simp [(Ne.symm ne_bw)])
  have OL351 := OL.keep K351 (fun x hx => by
    simp only [List.mem_cons, List.not_mem_nil, or_false] at hx
    rcases hx with rfl
    · exact g_b)
  have KP351 : Keep h0 T351.heap [bs, wA] := (Keep.refl _ _).trans K351 (fun x hx => by
    simp only [List.mem_cons, List.not_mem_nil, or_false] at hx
    rcases hx with rfl
    · exact Or.inl (by simp))
  obtain ⟨T353, X353, e353, st353⟩ := getF X351 hx hZ hown (host := "") (Or.inl (own_at hw 43 rfl)) Via.refl rfl c351_3 (g := (mkF m 42 #[.val (.ref bs), .val (.int nb), .val (.int (0 : Int32))] [(.ref bs)])) rfl rfl (hb hby own_d_jdk_92_method_19_42)
  obtain ⟨cl354, Ar354, q354, G354⟩ := id f352
  obtain ⟨cl356, Ar356, q356, G356⟩ := id f352
  obtain ⟨T356, h356, X356, e356, W356, st356⟩ := stJ X353 hx hZ e353 Ar356 (j := (0 : Int32)) (own_inb G356 1 rfl (by decide)) (g := (mkF m 52 #[.val (.ref bs), .val (.int nb), .val (.int (0 : Int32))] [(.long (ww ||| ((1 : Int64) <<< (nb &&& 0x3f).toInt64))), (.int (0 : Int32)), (.ref wA)])) rfl rfl (hb hby own_d_jdk_92_method_19_52)
  have N356 := Fr.snoc X356 N351 g_w
  have v355 := own_lst_set Ar356 q356 G356 W356
  have f357 : OwnLst Z h356 wA .long cw [.long (ww ||| ((1 : Int64) <<< (nb &&& 0x3f).toInt64))] := v355
  have f358 := c351_0.wr W356
  have f359 := c351_1.other W356 (Or.inl ne_bw)
  have f360 := c351_2.other W356 (Or.inl ne_bw)
  have f361 := c351_3.other W356 (Or.inl ne_bw)
  have OL356 := OL351.wr W356 g_w
  have KP356 : Keep h0 h356 [bs, wA] := KP351.wr W356 (Or.inl (by simp))
  obtain ⟨cq362, q362, q362'⟩ := f358.cell
  obtain ⟨_, _, ⟨T362, L362, k362, n362⟩, -, X362, ⟨Lc362, hQ362, l362, y362, z362⟩, st362⟩ := X356.privateBack hx (y := (⟨"java/util/BitSet", "checkInvariants", "()V"⟩ : MethodName)) hown (mvT hZ (own_at hw 141 rfl)) (mvT hZ (own_at hw 142 rfl)) (mvT hZ (own_at hw 144 rfl)) (Cond.privateMethod_at (mvP hZ (own_at hw 143 rfl) (args := #[]))) (mvT hZ (own_at hw 145 rfl)) (by decide) (backOf (W := 0) (rm_ci l Z a0 hw [] bs h356 n0 (Nat.le_trans Z0 KP356.1) OL356 S_A) hZ (own_at hw 145 rfl) (own_at hw 26 rfl) (by decide) (by decide)) (g := (mkF m 54 #[.val (.ref bs), .val (.int nb), .val (.int (0 : Int32))] [(.ref bs)])) rfl (by rw [hml]; rfl) (Steps.refl _) (a := bs) (by rw [e356]; exact q362) q362' (argsL := []) (rest := []) (lenOf own_pd4 rfl) rfl (by show 2 * 0 + _ ≤ _; exact Nat.le_of_eq rfl) (hb hby own_d_jdk_92_method_19_54) (fun _ _ => ⟨rfl, e356, (by decide : 0 + 0 ≤ _), (by decide : 0 + 0 ≤ _)⟩)
  dsimp only [Pt.U, Pt.locs, Pt.cells, Pt.slots] at X362 l362 y362 z362 st362 hQ362
  subst l362 y362 z362
  obtain ⟨rfl, Nq362, eh362⟩ := hQ362
  have N362 := Fr.app N356 Nq362
  obtain ⟨fs, hr, hrun, hended, hW, hsame⟩ := X362.leave (v := none) (fun _ => rfl)
  refine ⟨_, _, pre0 _ ?_, hrun, hended, _, _, rfl, ?_, ⟨_, rfl⟩, hW, hsame.mono (by decide) (by decide)⟩
  · show Steps p.tables e below (s₁.setTop (mkF m 0 #[.val (.ref bs), .val (.int nb), .unset] [])) _
    refine XS.iloadN X0.here hx rfl (hb hby own_d_jdk_92_method_19_0) rfl ?_
    refine XS.ifYes X0.here hx rfl (pc0 := 1) (pc' := 31) rfl (hb hby own_d_jdk_92_method_19_1) rfl ((if0 _ _).trans (flt (show ¬ (nb < (0 : Int32)) by rcases hnb with q | q <;> rw [q] <;> decide)).2.1) (by decide) (by decide) ?_
    refine XS.iloadN X0.here hx rfl (hb hby own_d_jdk_92_method_19_31) rfl ?_
    refine st350 _ ?_
    show Steps p.tables e below (T350.setTop (mkF m 35 #[.val (.ref bs), .val (.int nb), .unset] [(.int (0 : Int32))])) _
    refine XS.istoreN X350.here hx rfl (hb hby own_d_jdk_92_method_19_35) rfl (l' := #[.val (.ref bs), .val (.int nb), .val (.int (0 : Int32))]) rfl ?_
    refine XS.aloadN X350.here hx rfl (hb hby own_d_jdk_92_method_19_36) rfl rfl ?_
    refine XS.iloadN X350.here hx rfl (hb hby own_d_jdk_92_method_19_37) rfl ?_
    refine st351.trans ?_
    show Steps p.tables e below (T351.setTop (mkF m 41 #[.val (.ref bs), .val (.int nb), .val (.int (0 : Int32))] [])) _
    refine XS.aloadN X351.here hx rfl (hb hby own_d_jdk_92_method_19_41) rfl rfl ?_
    refine st353 _ ?_
    refine XS.iloadN X353.here hx rfl (hb hby own_d_jdk_92_method_19_45) rfl ?_
    refine Jvm.Free.XT.dup2 X353.here hx rfl (hb hby own_d_jdk_92_method_19_46) rfl rfl rfl ?_
    show Steps p.tables e below (T353.setTop (mkF m 47 #[.val (.ref bs), .val (.int nb), .val (.int (0 : Int32))] [(.int (0 : Int32)), (.ref wA), (.int (0 : Int32)), (.ref wA)])) _
    refine X353.laload hx (j := (0 : Int32)) (v := (.long ww)) (by rw [e353]; exact Ar354.1) (State.isArrayOf_alike hZ.alike Ar354.2.1) Ar354.2.2 (own_inb G354 1 rfl (by decide)) (own_get G354 rfl) (g := (mkF m 47 #[.val (.ref bs), .val (.int nb), .val (.int (0 : Int32))] [(.int (0 : Int32)), (.ref wA), (.int (0 : Int32)), (.ref wA)])) rfl rfl (hb hby own_d_jdk_92_method_19_47) _ ?_
    refine XS.lconst X353.here hx rfl (hb hby own_d_jdk_92_method_19_48) ?_
    refine XS.iloadN X353.here hx rfl (hb hby own_d_jdk_92_method_19_49) rfl ?_
    refine XS.lshl X353.here hx rfl (hb hby own_d_jdk_92_method_19_50) rfl ?_
    show Steps p.tables e below (T353.setTop (mkF m 51 #[.val (.ref bs), .val (.int nb), .val (.int (0 : Int32))] [(.long ((1 : Int64) <<< (nb &&& 0x3f).toInt64)), (.long ww), (.int (0 : Int32)), (.ref wA)])) _
    refine XS.lor X353.here hx rfl (hb hby own_d_jdk_92_method_19_51) rfl ?_
    refine st356 _ ?_
    refine XS.aloadN X356.here hx rfl (hb hby own_d_jdk_92_method_19_53) rfl rfl ?_
    refine st362.trans ?_
    show Steps p.tables e below (T362.setTop (mkF m 57 #[.val (.ref bs), .val (.int nb), .val (.int (0 : Int32))] [])) _
    exact X362.returnOut hx Bd.returns (hb hby own_d_jdk_92_method_19_57) hr
  · show rm_set_Q Z bs wA cw wiu ww nb h0 n0 _ T362.heap _
    rw [eh362]
    exact ⟨(ww ||| ((1 : Int64) <<< (nb &&& 0x3f).toInt64)), rfl, N362, KP356, f358, f359, f360, f361, f357⟩
theorem rm_app1_ef (m : MethodId) (x0 : Addr) (x1 : Addr) (x2 : Int32) (x3 : Int32) : entryFrame m #[(.ref x0), (.ref x1), (.int x2), (.int x3)] 5 = mkF m 0 #[.val (.ref x0), .val (.ref x1), .val (.int x2), .val (.int x3), .unset] [] := by first | (simp [entryFrame, mkF, argsToLocals, Value.category]; done) | rfl
def rm_app1_Q (Z : State) (I : Addr) (kA : Addr) (sA : Addr) (tA : Addr) (bs : Addr) (wA : Addr) (ck : ClassId) (cs : ClassId) (ct : ClassId) (cw : ClassId) (ts : List Value) (sea : Int32) (wiu : Int32) (ww : Int64) (src : Addr) (cS : ClassId) (x0 : Int64) (x1 : Int64) (x2 : Int64) (x3 : Int64) (l0 : Int32) (nd : Int32) (h0 : Heap) (n0 : Nat) (v : Option Value) (h : Heap) (L : List Loc) : Prop := ∃ (kB : Addr) (cB : ClassId) (tsB : List Value) (seB wiB : Int32) (wwB : Int64), v = some (.int (0 : Int32)) ∧ Fr n0 L ∧ Keep h0 h [I, sA, tA, bs, wA] ∧ h0.size ≤ kB ∧ OwnIdx Z h I kB sA tA bs wA cB cs ct cw (own_cp (List.replicate nd.toNatClampNeg (.long (0 : Int64))) [.long x0, .long x1, .long x2, .long x3] (0 : Int32).toNatClampNeg (0 : Int32).toNatClampNeg l0.toNatClampNeg) (List.set (List.replicate 1024 (.int (0 : Int32))) ((0 : Int32) + (1 : Int32)).toNatClampNeg (.int l0)) tsB ((0 : Int32) + (1 : Int32)) seB wiB wwB ∧ OwnNe I kB sA tA bs wA ∧ OwnTs tsB ∧ (wiB = (0 : Int32) ∨ wiB = (1 : Int32)) ∧ (seB = (0 : Int32) ∨ seB = (1 : Int32))
set_option maxRecDepth 65536 in
set_option maxHeartbeats 40000000 in
theorem rm_app1 (l : Launch) (Z : State) (a0 : Array Value) (hw : ∀ d ∈ tables_1, d.before a0 Z = true) (ws : List Jvm.Cond) (I : Addr) (kA : Addr) (sA : Addr) (tA : Addr) (bs : Addr) (wA : Addr) (ck : ClassId) (cs : ClassId) (ct : ClassId) (cw : ClassId) (ts : List Value) (sea : Int32) (wiu : Int32) (ww : Int64) (src : Addr) (cS : ClassId) (x0 : Int64) (x1 : Int64) (x2 : Int64) (x3 : Int64) (l0 : Int32) (nd : Int32) (h0 : Heap) (n0 : Nat) (Z0 : n0 ≤ h0.size) (OL : Old Z n0 h0) (D : OwnIdx Z h0 I kA sA tA bs wA ck cs ct cw [] (List.replicate 1024 (.int (0 : Int32))) ts (0 : Int32) sea wiu ww) (NE : OwnNe I kA sA tA bs wA) (GE : OwnGe n0 I kA sA tA bs wA) (Lx : OwnLst Z h0 src .long cS [.long x0, .long x1, .long x2, .long x3]) (NS : OwnNs src I kA sA tA bs wA) (hln : (l0 = (1 : Int32) ∧ nd = (1024 : Int32)) ∨ (l0 = (2 : Int32) ∧ nd = (2048 : Int32)) ∨ (l0 = (3 : Int32) ∧ nd = (3072 : Int32))) (S_A : Sta Z Z.heap "java/util/BitSet" "$assertionsDisabled" "Z" (.int (1 : Int32))) (hwiu : wiu = (0 : Int32) ∨ wiu = (1 : Int32)) (hts : ts = (List.replicate 2048 (.int (-1 : Int32)))) (hsea : sea = (0 : Int32)) :
    MetFree l (⟨"com/example/orbitfold/orbitfold/StateIndex", "append", "([JII)I"⟩ : MethodName) (head1 (Jvm.Cond.code (⟨"com/example/orbitfold/orbitfold/StateIndex", "append", "([JII)I"⟩ : MethodName) prog_34_method_3_code 5 (some .int) :: ws) ({ frames := 3, cells := 1, slots := 3072, locals := 53 } : Room)) (fun a₀ U₀ => a₀ = #[(.ref I), (.ref src), (.int (0 : Int32)), (.int l0)] ∧ Z.Warmed39 U₀.vm ∧ U₀.heap = h0) (fun _ _ _ _ _ => True) (fun _ U₀ o₀ U₁ => ∃ v₀ L₀, o₀ = .returned v₀ ∧ rm_app1_Q Z I kA sA tA bs wA ck cs ct cw ts sea wiu ww src cS x0 x1 x2 x3 l0 nd h0 n0 v₀ U₁.heap L₀ ∧ FrameEnd U₀ o₀ U₁ L₀ ({ frames := 3, cells := 1, slots := 3072, locals := 53 } : Room).cells ({ frames := 3, cells := 1, slots := 3072, locals := 53 } : Room).slots) := by
  refine MetFree.of_bodySF (plainFor_of_name own_pn4) hisR ?_
  intro p e s m args below meth c s₁ Bd hml0 hP hK
  obtain ⟨rfl, hZ, hh⟩ := hP
  have hx := Bd.exec
  have hby := Bd.bytes
  have hml : c.maxLocals = 5 := hml0
  have hown : s.vm.findClass "com/example/orbitfold/orbitfold/StateIndex" = some m.cls := findClass_of_methodNamed Bd.named
  have hnm := (name_of_methodNamed Bd.named Bd.method).1
  have X0 : Stand p l e ({ frames := 3, cells := 1, slots := 3072, locals := 53 } : Room) s m #[(.ref I), (.ref src), (.int (0 : Int32)), (.int l0)] below meth c s₁ [] 0 0 := Stand.of_body Bd
  have e0 : s₁.heap = h0 := by rw [← hh, Bd.state]; rfl
  have N0 := Fr.nil n0
  have pre0 : ∀ t, Steps p.tables e below (s₁.setTop (mkF m 0 #[.val (.ref I), .val (.ref src), .val (.int (0 : Int32)), .val (.int l0), .unset] [])) t → Steps p.tables e below (s₁.setTop (entryFrame m #[(.ref I), (.ref src), (.int (0 : Int32)), (.int l0)] 5)) t := fun t kk₀ => castTop (rm_app1_ef m I src (0 : Int32) l0) kk₀
  obtain ⟨dE, dK, dS, dT, dB, dZ, dR, bE, bW, bY, bO, lK, lS, lT, lW⟩ := id D
  obtain ⟨ne_I_kA, ne_I_sA, ne_I_tA, ne_I_bs, ne_I_wA, ne_kA_sA, ne_kA_tA, ne_kA_bs, ne_kA_wA, ne_sA_tA, ne_sA_bs, ne_sA_wA, ne_tA_bs, ne_tA_wA, ne_bs_wA⟩ := id NE
  obtain ⟨g_I, g_kA, g_sA, g_tA, g_bs, g_wA⟩ := id GE
  obtain ⟨ns_I, ns_kA, ns_sA, ns_tA, ns_bs, ns_wA⟩ := id NS
  obtain ⟨cq363, q363, q363'⟩ := dE.cell
  obtain ⟨_, _, ⟨T363, L363, k363, n363⟩, -, X363, ⟨Lc363, hQ363, l363, y363, z363⟩, st363⟩ := X0.privateBack hx (y := (⟨"com/example/orbitfold/orbitfold/StateIndex", "keep", "([JII)I"⟩ : MethodName)) hown (mvT hZ (own_at hw 73 rfl)) (mvT hZ (own_at hw 74 rfl)) (own_selp hZ (own_at hw 2 rfl) (own_at hw 75 rfl) (own_at hw 74 rfl) (by decide)) (Cond.privateMethod_at (mvP hZ (own_at hw 75 rfl) (args := #[]))) (mvT hZ (own_at hw 76 rfl)) (by decide) (backOf (W := 0) (rm_keep1 l Z a0 hw [] I kA sA tA bs wA ck cs ct cw ts sea wiu ww src cS x0 x1 x2 x3 l0 nd h0 n0 Z0 OL D NE GE Lx NS hln) hZ (own_at hw 76 rfl) (own_at hw 3 rfl) (by decide) (by decide)) (g := (mkF m 4 #[.val (.ref I), .val (.ref src), .val (.int (0 : Int32)), .val (.int l0), .unset] [(.int l0), (.int (0 : Int32)), (.ref src), (.ref I)])) rfl (by rw [hml]; rfl) (Steps.refl _) (a := I) (by rw [e0]; exact q363) q363' (argsL := [(.ref src), (.int (0 : Int32)), (.int l0)]) (rest := []) (lenOf own_pd9 rfl) rfl (by show 2 * 0 + _ ≤ _; exact Nat.le_of_eq rfl) (hb hby own_d_prog_34_method_3_4) (fun _ _ => ⟨rfl, e0, (by decide : 0 + 1 ≤ _), (by decide : 0 + 3072 ≤ _)⟩)
  dsimp only [Pt.U, Pt.locs, Pt.cells, Pt.slots] at X363 l363 y363 z363 st363 hQ363
  subst l363 y363 z363
  obtain ⟨kB363, cB363, rfl, Nq363, K363, le363, D363, NE363⟩ := hQ363
  have N363 := Fr.app N0 Nq363
  have ne_I_kB363 : I ≠ kB363 := own_ne_le dE.lt le363
  have ne_bs_kB363 : bs ≠ kB363 := own_ne_le bE.lt le363
  have ne_kA_kB363 : kA ≠ kB363 := own_ne_le lK.lt le363
  have ne_sA_kB363 : sA ≠ kB363 := own_ne_le lS.lt le363
  have ne_tA_kB363 : tA ≠ kB363 := own_ne_le lT.lt le363
  have ne_wA_kB363 : wA ≠ kB363 := own_ne_le lW.lt le363
  have ne_src_kB363 : src ≠ kB363 := own_ne_le Lx.lt le363
  have sz_kB363 : h0.size ≤ kB363 := Nat.le_trans (Nat.le_refl _) le363
  have gn_kB363 : n0 ≤ kB363 := Nat.le_trans Z0 sz_kB363
  obtain ⟨i363_0, i363_1, i363_2, i363_3, i363_4, i363_5, i363_6, i363_7, i363_8, i363_9, i363_10, i363_11, i363_12, i363_13, i363_14⟩ := id D363
  have f364 := Lx.keep K363 (by simp [ns_I, ns_sA])
  have OL363 := OL.keep K363 (fun x hx => by
    simp only [List.mem_cons, List.not_mem_nil, or_false] at hx
    rcases hx with rfl | rfl
    · exact g_I
    · exact g_sA)
  have KP363 : Keep h0 T363.heap [I, sA, tA, bs, wA] := (Keep.refl _ _).trans K363 (fun x hx => by
    simp only [List.mem_cons, List.not_mem_nil, or_false] at hx
    rcases hx with rfl | rfl
    · exact Or.inl (by simp)
    · exact Or.inl (by simp))
  obtain ⟨T365, X365, e365, st365⟩ := getF X363 hx hZ hown (host := "") (Or.inl (own_at hw 45 rfl)) Via.refl rfl i363_4 (g := (mkF m 10 #[.val (.ref I), .val (.ref src), .val (.int (0 : Int32)), .val (.int l0), .val (.int (0 : Int32))] [(.ref I)])) rfl rfl (hb hby own_d_prog_34_method_3_10)
  obtain ⟨cq366, kq366, q366a, q366b, q366c⟩ := isOf hZ e365 i363_7
  obtain ⟨_, _, ⟨T366, L366, k366, n366⟩, -, X366, ⟨Lc366, hQ366, l366, y366, z366⟩, st366⟩ := X365.virtualBack hx (y := (⟨"java/util/BitSet", "set", "(I)V"⟩ : MethodName)) (z := (⟨"java/util/BitSet", "set", "(I)V"⟩ : MethodName)) hown (mvT hZ (own_at hw 126 rfl)) (mvT hZ (own_at hw 127 rfl)) (notFace_of_selects (args := #[]) (mvT hZ (own_at hw 129 rfl))) (mvT hZ (own_at hw 129 rfl)) (mvT hZ (own_at hw 128 rfl)) (by decide) (backOf (W := 0) (rm_set l Z a0 hw [] bs wA cw wiu ww (0 : Int32) T363.heap n0 (Nat.le_trans Z0 KP363.1) OL363 i363_7 i363_8 i363_9 i363_10 i363_14 g_bs g_wA ne_bs_wA hwiu S_A (Or.inl rfl)) hZ (own_at hw 130 rfl) (own_at hw 26 rfl) (by decide) (by decide)) q366a q366c (g := (mkF m 15 #[.val (.ref I), .val (.ref src), .val (.int (0 : Int32)), .val (.int l0), .val (.int (0 : Int32))] [(.int (0 : Int32)), (.ref bs)])) rfl (by rw [hml]; rfl) (Steps.refl _) (argsL := [(.int (0 : Int32))]) (rest := []) (lenOf own_pd1 rfl) rfl (by show 2 * 0 + _ ≤ _; exact Nat.le_of_eq rfl) (hb hby own_d_prog_34_method_3_15) (fun _ _ => ⟨rfl, e365, (by decide : 1 + 0 ≤ _), (by decide : 3072 + 0 ≤ _)⟩)
  dsimp only [Pt.U, Pt.locs, Pt.cells, Pt.slots] at X366 l366 y366 z366 st366 hQ366
  subst l366 y366 z366
  obtain ⟨wy366, rfl, Nq366, K366, c366_0, c366_1, c366_2, c366_3, c366_4⟩ := hQ366
  have N366 := Fr.app N363 Nq366
  have f367 := f364.keep K366 (by simp [ns_bs, ns_wA])
  have f368 := i363_0.keep K366
  have f369 := i363_1.keep K366 (by simp [ne_I_bs, ne_I_wA])
  have f370 := i363_2.keep K366 (by simp [ne_I_bs, ne_I_wA])
  have f371 := i363_3.keep K366 (by simp [ne_I_bs, ne_I_wA])
  have f372 := i363_4.keep K366 (by simp [ne_I_bs, ne_I_wA])
  have f373 := i363_5.keep K366 (by simp [ne_I_bs, ne_I_wA])
  have f374 := i363_6.keep K366 (by simp [ne_I_bs, ne_I_wA])
  have f375 := i363_11.keep K366 (by simp [(Ne.symm ne_bs_kB363), (Ne.symm ne_wA_kB363)])
  have f376 := i363_12.keep K366 (by simp [ne_sA_bs, ne_sA_wA])
  have f377 := i363_13.keep K366 (by simp [ne_tA_bs, ne_tA_wA])
  have OL366 := OL363.keep K366 (fun x hx => by
    simp only [List.mem_cons, List.not_mem_nil, or_false] at hx
    rcases hx with rfl | rfl
    · exact g_bs
    · exact g_wA)
  have KP366 : Keep h0 T366.heap [I, sA, tA, bs, wA] := KP363.trans K366 (fun x hx => by
    simp only [List.mem_cons, List.not_mem_nil, or_false] at hx
    rcases hx with rfl | rfl
    · exact Or.inl (by simp)
    · exact Or.inl (by simp))
  obtain ⟨fs, hr, hrun, hended, hW, hsame⟩ := X366.leave (v := some (.int (0 : Int32))) (fun h => by rw [Bd.returns] at h; cases h)
  refine ⟨_, _, pre0 _ ?_, hrun, hended, _, _, rfl, ?_, ⟨_, rfl⟩, hW, hsame.mono (by decide) (by decide)⟩
  · show Steps p.tables e below (s₁.setTop (mkF m 0 #[.val (.ref I), .val (.ref src), .val (.int (0 : Int32)), .val (.int l0), .unset] [])) _
    refine XS.aloadN X0.here hx rfl (hb hby own_d_prog_34_method_3_0) rfl rfl ?_
    refine XS.aloadN X0.here hx rfl (hb hby own_d_prog_34_method_3_1) rfl rfl ?_
    refine XS.iloadN X0.here hx rfl (hb hby own_d_prog_34_method_3_2) rfl ?_
    refine XS.iloadN X0.here hx rfl (hb hby own_d_prog_34_method_3_3) rfl ?_
    show Steps p.tables e below (s₁.setTop (mkF m 4 #[.val (.ref I), .val (.ref src), .val (.int (0 : Int32)), .val (.int l0), .unset] [(.int l0), (.int (0 : Int32)), (.ref src), (.ref I)])) _
    refine st363.trans ?_
    refine XS.istore X363.here hx rfl (hb hby own_d_prog_34_method_3_7) rfl (l' := #[.val (.ref I), .val (.ref src), .val (.int (0 : Int32)), .val (.int l0), .val (.int (0 : Int32))]) rfl ?_
    refine XS.aloadN X363.here hx rfl (hb hby own_d_prog_34_method_3_9) rfl rfl ?_
    refine st365 _ ?_
    show Steps p.tables e below (T365.setTop (mkF m 13 #[.val (.ref I), .val (.ref src), .val (.int (0 : Int32)), .val (.int l0), .val (.int (0 : Int32))] [(.ref bs)])) _
    refine XS.iload X365.here hx rfl (hb hby own_d_prog_34_method_3_13) rfl ?_
    refine st366.trans ?_
    refine XS.iload X366.here hx rfl (hb hby own_d_prog_34_method_3_18) rfl ?_
    exact own_retI X366 hx Bd.returns (hb hby own_d_prog_34_method_3_20) hr
  · show rm_app1_Q Z I kA sA tA bs wA ck cs ct cw ts sea wiu ww src cS x0 x1 x2 x3 l0 nd h0 n0 _ T366.heap _
    exact ⟨kB363, cB363, ts, sea, (1 : Int32), wy366, rfl, N366, KP366, sz_kB363, ⟨f368, f369, f370, f371, f372, f373, f374, c366_0, c366_1, c366_2, c366_3, f375, f376, f377, c366_4⟩, ⟨ne_I_kB363, ne_I_sA, ne_I_tA, ne_I_bs, ne_I_wA, (Ne.symm ne_sA_kB363), (Ne.symm ne_tA_kB363), (Ne.symm ne_bs_kB363), (Ne.symm ne_wA_kB363), ne_sA_tA, ne_sA_bs, ne_sA_wA, ne_tA_bs, ne_tA_wA, ne_bs_wA⟩, Or.inl hts, Or.inr rfl, Or.inl hsea⟩
theorem rm_app2_ef (m : MethodId) (x0 : Addr) (x1 : Addr) (x2 : Int32) (x3 : Int32) : entryFrame m #[(.ref x0), (.ref x1), (.int x2), (.int x3)] 5 = mkF m 0 #[.val (.ref x0), .val (.ref x1), .val (.int x2), .val (.int x3), .unset] [] := by first | (simp [entryFrame, mkF, argsToLocals, Value.category]; done) | rfl
def rm_app2_Q (Z : State) (I : Addr) (kA : Addr) (sA : Addr) (tA : Addr) (bs : Addr) (wA : Addr) (ck : ClassId) (cs : ClassId) (ct : ClassId) (cw : ClassId) (ks : List Value) (ss : List Value) (ts : List Value) (sea : Int32) (wiu : Int32) (ww : Int64) (src : Addr) (cS : ClassId) (x0 : Int64) (x1 : Int64) (x2 : Int64) (x3 : Int64) (l0 : Int32) (nd : Int32) (off : Int32) (len : Int32) (h0 : Heap) (n0 : Nat) (v : Option Value) (h : Heap) (L : List Loc) : Prop := ∃ (n1 s1 : Int32) (ksB ssB tsB : List Value) (szB seB wiB : Int32) (wwB : Int64), v = some (.int n1) ∧ Fr n0 L ∧ Keep h0 h [I, kA, sA, tA, bs, wA] ∧ OwnIdx Z h I kA sA tA bs wA ck cs ct cw ksB ssB tsB szB seB wiB wwB ∧ OwnBase ksB ssB l0 nd x0 x1 x2 ∧ OwnHas ksB ssB off len x0 x1 x2 x3 n1 s1
set_option maxRecDepth 65536 in
set_option maxHeartbeats 40000000 in
theorem rm_app2 (l : Launch) (Z : State) (a0 : Array Value) (hw : ∀ d ∈ tables_1, d.before a0 Z = true) (ws : List Jvm.Cond) (I : Addr) (kA : Addr) (sA : Addr) (tA : Addr) (bs : Addr) (wA : Addr) (ck : ClassId) (cs : ClassId) (ct : ClassId) (cw : ClassId) (ks : List Value) (ss : List Value) (ts : List Value) (sea : Int32) (wiu : Int32) (ww : Int64) (src : Addr) (cS : ClassId) (x0 : Int64) (x1 : Int64) (x2 : Int64) (x3 : Int64) (l0 : Int32) (nd : Int32) (off : Int32) (len : Int32) (h0 : Heap) (n0 : Nat) (Z0 : n0 ≤ h0.size) (OL : Old Z n0 h0) (D : OwnIdx Z h0 I kA sA tA bs wA ck cs ct cw ks ss ts (1 : Int32) sea wiu ww) (NE : OwnNe I kA sA tA bs wA) (GE : OwnGe n0 I kA sA tA bs wA) (Lx : OwnLst Z h0 src .long cS [.long x0, .long x1, .long x2, .long x3]) (NS : OwnNs src I kA sA tA bs wA) (BA : OwnBase ks ss l0 nd x0 x1 x2) (hln : (l0 = (1 : Int32) ∧ nd = (1024 : Int32)) ∨ (l0 = (2 : Int32) ∧ nd = (2048 : Int32)) ∨ (l0 = (3 : Int32) ∧ nd = (3072 : Int32))) (hol : (off = (0 : Int32) ∧ len = (1 : Int32)) ∨ (off = (0 : Int32) ∧ len = (2 : Int32)) ∨ (off = (1 : Int32) ∧ len = (1 : Int32)) ∨ (off = (1 : Int32) ∧ len = (2 : Int32))) (S_A : Sta Z Z.heap "java/util/BitSet" "$assertionsDisabled" "Z" (.int (1 : Int32))) (hwiu : wiu = (0 : Int32) ∨ wiu = (1 : Int32)) :
    MetFree l (⟨"com/example/orbitfold/orbitfold/StateIndex", "append", "([JII)I"⟩ : MethodName) (head1 (Jvm.Cond.code (⟨"com/example/orbitfold/orbitfold/StateIndex", "append", "([JII)I"⟩ : MethodName) prog_34_method_3_code 5 (some .int) :: ws) ({ frames := 3, cells := 0, slots := 0, locals := 42 } : Room)) (fun a₀ U₀ => a₀ = #[(.ref I), (.ref src), (.int off), (.int len)] ∧ Z.Warmed39 U₀.vm ∧ U₀.heap = h0) (fun _ _ _ _ _ => True) (fun _ U₀ o₀ U₁ => ∃ v₀ L₀, o₀ = .returned v₀ ∧ rm_app2_Q Z I kA sA tA bs wA ck cs ct cw ks ss ts sea wiu ww src cS x0 x1 x2 x3 l0 nd off len h0 n0 v₀ U₁.heap L₀ ∧ FrameEnd U₀ o₀ U₁ L₀ ({ frames := 3, cells := 0, slots := 0, locals := 42 } : Room).cells ({ frames := 3, cells := 0, slots := 0, locals := 42 } : Room).slots) := by
  refine MetFree.of_bodySF (plainFor_of_name own_pn4) hisR ?_
  intro p e s m args below meth c s₁ Bd hml0 hP hK
  obtain ⟨rfl, hZ, hh⟩ := hP
  have hx := Bd.exec
  have hby := Bd.bytes
  have hml : c.maxLocals = 5 := hml0
  have hown : s.vm.findClass "com/example/orbitfold/orbitfold/StateIndex" = some m.cls := findClass_of_methodNamed Bd.named
  have hnm := (name_of_methodNamed Bd.named Bd.method).1
  have X0 : Stand p l e ({ frames := 3, cells := 0, slots := 0, locals := 42 } : Room) s m #[(.ref I), (.ref src), (.int off), (.int len)] below meth c s₁ [] 0 0 := Stand.of_body Bd
  have e0 : s₁.heap = h0 := by rw [← hh, Bd.state]; rfl
  have N0 := Fr.nil n0
  have pre0 : ∀ t, Steps p.tables e below (s₁.setTop (mkF m 0 #[.val (.ref I), .val (.ref src), .val (.int off), .val (.int len), .unset] [])) t → Steps p.tables e below (s₁.setTop (entryFrame m #[(.ref I), (.ref src), (.int off), (.int len)] 5)) t := fun t kk₀ => castTop (rm_app2_ef m I src off len) kk₀
  obtain ⟨dE, dK, dS, dT, dB, dZ, dR, bE, bW, bY, bO, lK, lS, lT, lW⟩ := id D
  obtain ⟨ne_I_kA, ne_I_sA, ne_I_tA, ne_I_bs, ne_I_wA, ne_kA_sA, ne_kA_tA, ne_kA_bs, ne_kA_wA, ne_sA_tA, ne_sA_bs, ne_sA_wA, ne_tA_bs, ne_tA_wA, ne_bs_wA⟩ := id NE
  obtain ⟨g_I, g_kA, g_sA, g_tA, g_bs, g_wA⟩ := id GE
  obtain ⟨ns_I, ns_kA, ns_sA, ns_tA, ns_bs, ns_wA⟩ := id NS
  obtain ⟨cq378, q378, q378'⟩ := dE.cell
  obtain ⟨_, _, ⟨T378, L378, k378, n378⟩, -, X378, ⟨Lc378, hQ378, l378, y378, z378⟩, st378⟩ := X0.privateBack hx (y := (⟨"com/example/orbitfold/orbitfold/StateIndex", "keep", "([JII)I"⟩ : MethodName)) hown (mvT hZ (own_at hw 73 rfl)) (mvT hZ (own_at hw 74 rfl)) (own_selp hZ (own_at hw 2 rfl) (own_at hw 75 rfl) (own_at hw 74 rfl) (by decide)) (Cond.privateMethod_at (mvP hZ (own_at hw 75 rfl) (args := #[]))) (mvT hZ (own_at hw 76 rfl)) (by decide) (backOf (W := 0) (rm_keep2 l Z a0 hw [] I kA sA tA bs wA ck cs ct cw ks ss ts sea wiu ww src cS x0 x1 x2 x3 l0 nd off len h0 n0 Z0 OL ⟨dE, dK, dS, dT, dB, dZ, dR, bE, bW, bY, bO, lK, lS, lT, lW⟩ NE GE Lx NS BA hln hol) hZ (own_at hw 76 rfl) (own_at hw 3 rfl) (by decide) (by decide)) (g := (mkF m 4 #[.val (.ref I), .val (.ref src), .val (.int off), .val (.int len), .unset] [(.int len), (.int off), (.ref src), (.ref I)])) rfl (by rw [hml]; rfl) (Steps.refl _) (a := I) (by rw [e0]; exact q378) q378' (argsL := [(.ref src), (.int off), (.int len)]) (rest := []) (lenOf own_pd9 rfl) rfl (by show 2 * 0 + _ ≤ _; exact Nat.le_of_eq rfl) (hb hby own_d_prog_34_method_3_4) (fun _ _ => ⟨rfl, e0, (by decide : 0 + 0 ≤ _), (by decide : 0 + 0 ≤ _)⟩)
  dsimp only [Pt.U, Pt.locs, Pt.cells, Pt.slots] at X378 l378 y378 z378 st378 hQ378
  subst l378 y378 z378
  obtain ⟨rfl, Nq378, K378, D378⟩ := hQ378
  have N378 := Fr.app N0 Nq378
  obtain ⟨i378_0, i378_1, i378_2, i378_3, i378_4, i378_5, i378_6, i378_7, i378_8, i378_9, i378_10, i378_11, i378_12, i378_13, i378_14⟩ := id D378
  have f379 := Lx.keep K378 (by simp [ns_I, ns_sA, ns_kA])
  have OL378 := OL.keep K378 (fun x hx => by
    simp only [List.mem_cons, List.not_mem_nil, or_false] at hx
    rcases hx with rfl | rfl | rfl
    · exact g_I
    · exact g_sA
    · exact g_kA)
  have KP378 : Keep h0 T378.heap [I, kA, sA, tA, bs, wA] := (Keep.refl _ _).trans K378 (fun x hx => by
    simp only [List.mem_cons, List.not_mem_nil, or_false] at hx
    rcases hx with rfl | rfl | rfl
    · exact Or.inl (by simp)
    · exact Or.inl (by simp)
    · exact Or.inl (by simp))
  obtain ⟨T380, X380, e380, st380⟩ := getF X378 hx hZ hown (host := "") (Or.inl (own_at hw 45 rfl)) Via.refl rfl i378_4 (g := (mkF m 10 #[.val (.ref I), .val (.ref src), .val (.int off), .val (.int len), .val (.int (1 : Int32))] [(.ref I)])) rfl rfl (hb hby own_d_prog_34_method_3_10)
  obtain ⟨cq381, kq381, q381a, q381b, q381c⟩ := isOf hZ e380 i378_7
  obtain ⟨_, _, ⟨T381, L381, k381, n381⟩, -, X381, ⟨Lc381, hQ381, l381, y381, z381⟩, st381⟩ := X380.virtualBack hx (y := (⟨"java/util/BitSet", "set", "(I)V"⟩ : MethodName)) (z := (⟨"java/util/BitSet", "set", "(I)V"⟩ : MethodName)) hown (mvT hZ (own_at hw 126 rfl)) (mvT hZ (own_at hw 127 rfl)) (notFace_of_selects (args := #[]) (mvT hZ (own_at hw 129 rfl))) (mvT hZ (own_at hw 129 rfl)) (mvT hZ (own_at hw 128 rfl)) (by decide) (backOf (W := 0) (rm_set l Z a0 hw [] bs wA cw wiu ww (1 : Int32) T378.heap n0 (Nat.le_trans Z0 KP378.1) OL378 i378_7 i378_8 i378_9 i378_10 i378_14 g_bs g_wA ne_bs_wA hwiu S_A (Or.inr rfl)) hZ (own_at hw 130 rfl) (own_at hw 26 rfl) (by decide) (by decide)) q381a q381c (g := (mkF m 15 #[.val (.ref I), .val (.ref src), .val (.int off), .val (.int len), .val (.int (1 : Int32))] [(.int (1 : Int32)), (.ref bs)])) rfl (by rw [hml]; rfl) (Steps.refl _) (argsL := [(.int (1 : Int32))]) (rest := []) (lenOf own_pd1 rfl) rfl (by show 2 * 0 + _ ≤ _; exact Nat.le_of_eq rfl) (hb hby own_d_prog_34_method_3_15) (fun _ _ => ⟨rfl, e380, (by decide : 0 + 0 ≤ _), (by decide : 0 + 0 ≤ _)⟩)
  dsimp only [Pt.U, Pt.locs, Pt.cells, Pt.slots] at X381 l381 y381 z381 st381 hQ381
  subst l381 y381 z381
  obtain ⟨wy381, rfl, Nq381, K381, c381_0, c381_1, c381_2, c381_3, c381_4⟩ := hQ381
  have N381 := Fr.app N378 Nq381
  have f382 := f379.keep K381 (by simp [ns_bs, ns_wA])
  have f383 := i378_0.keep K381
  have f384 := i378_1.keep K381 (by simp [ne_I_bs, ne_I_wA])
  have f385 := i378_2.keep K381 (by simp [ne_I_bs, ne_I_wA])
  have f386 := i378_3.keep K381 (by simp [ne_I_bs, ne_I_wA])
  have f387 := i378_4.keep K381 (by simp [ne_I_bs, ne_I_wA])
  have f388 := i378_5.keep K381 (by simp [ne_I_bs, ne_I_wA])
  have f389 := i378_6.keep K381 (by simp [ne_I_bs, ne_I_wA])
  have f390 := i378_11.keep K381 (by simp [ne_kA_bs, ne_kA_wA])
  have f391 := i378_12.keep K381 (by simp [ne_sA_bs, ne_sA_wA])
  have f392 := i378_13.keep K381 (by simp [ne_tA_bs, ne_tA_wA])
  have OL381 := OL378.keep K381 (fun x hx => by
    simp only [List.mem_cons, List.not_mem_nil, or_false] at hx
    rcases hx with rfl | rfl
    · exact g_bs
    · exact g_wA)
  have KP381 : Keep h0 T381.heap [I, kA, sA, tA, bs, wA] := KP378.trans K381 (fun x hx => by
    simp only [List.mem_cons, List.not_mem_nil, or_false] at hx
    rcases hx with rfl | rfl
    · exact Or.inl (by simp)
    · exact Or.inl (by simp))
  obtain ⟨fs, hr, hrun, hended, hW, hsame⟩ := X381.leave (v := some (.int (1 : Int32))) (fun h => by rw [Bd.returns] at h; cases h)
  refine ⟨_, _, pre0 _ ?_, hrun, hended, _, _, rfl, ?_, ⟨_, rfl⟩, hW, hsame.mono (by decide) (by decide)⟩
  · show Steps p.tables e below (s₁.setTop (mkF m 0 #[.val (.ref I), .val (.ref src), .val (.int off), .val (.int len), .unset] [])) _
    refine XS.aloadN X0.here hx rfl (hb hby own_d_prog_34_method_3_0) rfl rfl ?_
    refine XS.aloadN X0.here hx rfl (hb hby own_d_prog_34_method_3_1) rfl rfl ?_
    refine XS.iloadN X0.here hx rfl (hb hby own_d_prog_34_method_3_2) rfl ?_
    refine XS.iloadN X0.here hx rfl (hb hby own_d_prog_34_method_3_3) rfl ?_
    show Steps p.tables e below (s₁.setTop (mkF m 4 #[.val (.ref I), .val (.ref src), .val (.int off), .val (.int len), .unset] [(.int len), (.int off), (.ref src), (.ref I)])) _
    refine st378.trans ?_
    refine XS.istore X378.here hx rfl (hb hby own_d_prog_34_method_3_7) rfl (l' := #[.val (.ref I), .val (.ref src), .val (.int off), .val (.int len), .val (.int (1 : Int32))]) rfl ?_
    refine XS.aloadN X378.here hx rfl (hb hby own_d_prog_34_method_3_9) rfl rfl ?_
    refine st380 _ ?_
    show Steps p.tables e below (T380.setTop (mkF m 13 #[.val (.ref I), .val (.ref src), .val (.int off), .val (.int len), .val (.int (1 : Int32))] [(.ref bs)])) _
    refine XS.iload X380.here hx rfl (hb hby own_d_prog_34_method_3_13) rfl ?_
    refine st381.trans ?_
    refine XS.iload X381.here hx rfl (hb hby own_d_prog_34_method_3_18) rfl ?_
    exact own_retI X381 hx Bd.returns (hb hby own_d_prog_34_method_3_20) hr
  · show rm_app2_Q Z I kA sA tA bs wA ck cs ct cw ks ss ts sea wiu ww src cS x0 x1 x2 x3 l0 nd off len h0 n0 _ T381.heap _
    exact ⟨(1 : Int32), l0, _, _, _, _, _, _, _, rfl, N381, KP381, ⟨f383, f384, f385, f386, f387, f388, f389, c381_0, c381_1, c381_2, c381_3, f390, f391, f392, c381_4⟩, (own_has2 hln hol x0 x1 x2 x3 BA).1, (own_has2 hln hol x0 x1 x2 x3 BA).2⟩
theorem rm_mat_ef (m : MethodId) (x0 : Addr) (x1 : Int32) (x2 : Addr) (x3 : Int32) (x4 : Int32) : entryFrame m #[(.ref x0), (.int x1), (.ref x2), (.int x3), (.int x4)] 7 = mkF m 0 #[.val (.ref x0), .val (.int x1), .val (.ref x2), .val (.int x3), .val (.int x4), .unset, .unset] [] := by first | (simp [entryFrame, mkF, argsToLocals, Value.category]; done) | rfl
def rm_mat_Q (Z : State) (I : Addr) (kA : Addr) (sA : Addr) (ck : ClassId) (cs : ClassId) (ks : List Value) (ss : List Value) (src : Addr) (cS : ClassId) (x0 : Int64) (x1 : Int64) (x2 : Int64) (x3 : Int64) (l0 : Int32) (nd : Int32) (off : Int32) (len : Int32) (h0 : Heap) (n0 : Nat) (v : Option Value) (h : Heap) (L : List Loc) : Prop := ∃ rv : Int32, v = some (.int rv) ∧ Fr n0 L ∧ h = h0 ∧ (rv = (0 : Int32) ∨ (rv = (1 : Int32) ∧ l0 = len ∧ (off = (0 : Int32) ∨ (x1 = x0 ∧ (len = (1 : Int32) ∨ x2 = x1)))))
set_option maxRecDepth 65536 in
set_option maxHeartbeats 40000000 in
theorem rm_mat (l : Launch) (Z : State) (a0 : Array Value) (hw : ∀ d ∈ tables_1, d.before a0 Z = true) (ws : List Jvm.Cond) (I : Addr) (kA : Addr) (sA : Addr) (ck : ClassId) (cs : ClassId) (ks : List Value) (ss : List Value) (src : Addr) (cS : ClassId) (x0 : Int64) (x1 : Int64) (x2 : Int64) (x3 : Int64) (l0 : Int32) (nd : Int32) (off : Int32) (len : Int32) (h0 : Heap) (n0 : Nat) (Z0 : n0 ≤ h0.size) (dK : Fld Z h0 I "com/example/orbitfold/orbitfold/StateIndex" "keys" "[J" (.ref kA)) (dS : Fld Z h0 I "com/example/orbitfold/orbitfold/StateIndex" "starts" "[I" (.ref sA)) (lK : OwnLst Z h0 kA .long ck ks) (lS : OwnLst Z h0 sA .int cs ss) (Lx : OwnLst Z h0 src .long cS [.long x0, .long x1, .long x2, .long x3]) (BA : OwnBase ks ss l0 nd x0 x1 x2) (hln : (l0 = (1 : Int32) ∧ nd = (1024 : Int32)) ∨ (l0 = (2 : Int32) ∧ nd = (2048 : Int32)) ∨ (l0 = (3 : Int32) ∧ nd = (3072 : Int32))) (hol : (off = (0 : Int32) ∧ len = (1 : Int32)) ∨ (off = (0 : Int32) ∧ len = (2 : Int32)) ∨ (off = (1 : Int32) ∧ len = (1 : Int32)) ∨ (off = (1 : Int32) ∧ len = (2 : Int32))) :
    MetFree l (⟨"com/example/orbitfold/orbitfold/StateIndex", "matches", "(I[JII)Z"⟩ : MethodName) (head1 (Jvm.Cond.code (⟨"com/example/orbitfold/orbitfold/StateIndex", "matches", "(I[JII)Z"⟩ : MethodName) prog_34_method_7_code 7 (some .boolean) :: ws) ({ frames := 0, cells := 0, slots := 0, locals := 0 } : Room)) (fun a₀ U₀ => a₀ = #[(.ref I), (.int (0 : Int32)), (.ref src), (.int off), (.int len)] ∧ Z.Warmed39 U₀.vm ∧ U₀.heap = h0) (fun _ _ _ _ _ => True) (fun _ U₀ o₀ U₁ => ∃ v₀ L₀, o₀ = .returned v₀ ∧ rm_mat_Q Z I kA sA ck cs ks ss src cS x0 x1 x2 x3 l0 nd off len h0 n0 v₀ U₁.heap L₀ ∧ FrameEnd U₀ o₀ U₁ L₀ ({ frames := 0, cells := 0, slots := 0, locals := 0 } : Room).cells ({ frames := 0, cells := 0, slots := 0, locals := 0 } : Room).slots) := by
  refine MetFree.of_bodySF (plainFor_of_name own_pn4) hisR ?_
  intro p e s m args below meth c s₁ Bd hml0 hP hK
  obtain ⟨rfl, hZ, hh⟩ := hP
  have hx := Bd.exec
  have hby := Bd.bytes
  have hml : c.maxLocals = 7 := hml0
  have hown : s.vm.findClass "com/example/orbitfold/orbitfold/StateIndex" = some m.cls := findClass_of_methodNamed Bd.named
  have hnm := (name_of_methodNamed Bd.named Bd.method).1
  have X0 : Stand p l e ({ frames := 0, cells := 0, slots := 0, locals := 0 } : Room) s m #[(.ref I), (.int (0 : Int32)), (.ref src), (.int off), (.int len)] below meth c s₁ [] 0 0 := Stand.of_body Bd
  have e0 : s₁.heap = h0 := by rw [← hh, Bd.state]; rfl
  have N0 := Fr.nil n0
  have pre0 : ∀ t, Steps p.tables e below (s₁.setTop (mkF m 0 #[.val (.ref I), .val (.int (0 : Int32)), .val (.ref src), .val (.int off), .val (.int len), .unset, .unset] [])) t → Steps p.tables e below (s₁.setTop (entryFrame m #[(.ref I), (.int (0 : Int32)), (.ref src), (.int off), (.int len)] 7)) t := fun t kk₀ => castTop (rm_mat_ef m I (0 : Int32) src off len) kk₀
  obtain ⟨hkl, hsl, hs0, hs1, hk0, hk1, hk2⟩ := id BA
  have hcs : (¬ l0 = len) ∨ (l0 = len ∧ off = 0 ∧ len = 1) ∨ (l0 = len ∧ off = 0 ∧ len = 2) ∨ (l0 = len ∧ off = 1 ∧ len = 1 ∧ x1 = x0) ∨ (l0 = len ∧ off = 1 ∧ len = 1 ∧ ¬ x1 = x0) ∨ (l0 = len ∧ off = 1 ∧ len = 2 ∧ x1 = x0 ∧ x2 = x1) ∨ (l0 = len ∧ off = 1 ∧ len = 2 ∧ x1 = x0 ∧ ¬ x2 = x1) ∨ (l0 = len ∧ off = 1 ∧ len = 2 ∧ ¬ x1 = x0) := by
    by_cases ee : l0 = len
    · rcases hol with ⟨q, r⟩ | ⟨q, r⟩ | ⟨q, r⟩ | ⟨q, r⟩
      · exact Or.inr (Or.inl (⟨ee, q, r⟩))
      · exact Or.inr (Or.inr (Or.inl (⟨ee, q, r⟩)))
      · by_cases p0 : x1 = x0
        · exact Or.inr (Or.inr (Or.inr (Or.inl (⟨ee, q, r, p0⟩))))
        · exact Or.inr (Or.inr (Or.inr (Or.inr (Or.inl (⟨ee, q, r, p0⟩)))))
      · by_cases p0 : x1 = x0
        · by_cases p1 : x2 = x1
          · exact Or.inr (Or.inr (Or.inr (Or.inr (Or.inr (Or.inl (⟨ee, q, r, p0, p1⟩))))))
          · exact Or.inr (Or.inr (Or.inr (Or.inr (Or.inr (Or.inr (Or.inl (⟨ee, q, r, p0, p1⟩)))))))
        · exact Or.inr (Or.inr (Or.inr (Or.inr (Or.inr (Or.inr (Or.inr (⟨ee, q, r, p0⟩)))))))
    · exact Or.inl (ee)
  rcases hcs with ee | ⟨ee, q, r⟩ | ⟨ee, q, r⟩ | ⟨ee, q, r, p0⟩ | ⟨ee, q, r, p0⟩ | ⟨ee, q, r, p0, p1⟩ | ⟨ee, q, r, p0, p1⟩ | ⟨ee, q, r, p0⟩
  · obtain ⟨T393, X393, e393, st393⟩ := getF X0 hx hZ hown (host := "") (Or.inl (own_at hw 13 rfl)) Via.refl e0 dS (g := (mkF m 1 #[.val (.ref I), .val (.int (0 : Int32)), .val (.ref src), .val (.int off), .val (.int len), .unset, .unset] [(.ref I)])) rfl rfl (hb hby own_d_prog_34_method_7_1)
    obtain ⟨cl394, Ar394, q394, G394⟩ := id lS
    obtain ⟨T395, X395, e395, st395⟩ := getF X393 hx hZ hown (host := "") (Or.inl (own_at hw 13 rfl)) Via.refl e393 dS (g := (mkF m 9 #[.val (.ref I), .val (.int (0 : Int32)), .val (.ref src), .val (.int off), .val (.int len), .val (.int (0 : Int32)), .unset] [(.ref I)])) rfl rfl (hb hby own_d_prog_34_method_7_9)
    obtain ⟨cl396, Ar396, q396, G396⟩ := id lS
    obtain ⟨fs, hr, hrun, hended, hW, hsame⟩ := X395.leave (v := some (.int (0 : Int32))) (fun h => by rw [Bd.returns] at h; cases h)
    refine ⟨_, _, pre0 _ ?_, hrun, hended, _, _, rfl, ?_, ⟨_, rfl⟩, hW, hsame.mono (by decide) (by decide)⟩
    · show Steps p.tables e below (s₁.setTop (mkF m 0 #[.val (.ref I), .val (.int (0 : Int32)), .val (.ref src), .val (.int off), .val (.int len), .unset, .unset] [])) _
      refine XS.aloadN X0.here hx rfl (hb hby own_d_prog_34_method_7_0) rfl rfl ?_
      refine st393 _ ?_
      refine XS.iloadN X393.here hx rfl (hb hby own_d_prog_34_method_7_4) rfl ?_
      refine X393.iaload hx (j := (0 : Int32)) (v := (.int (0 : Int32))) (by rw [e393]; exact Ar394.1) (State.isArrayOf_alike hZ.alike Ar394.2.1) Ar394.2.2 (own_inb G394 1024 hsl (by decide)) (own_get G394 hs0) (g := (mkF m 5 #[.val (.ref I), .val (.int (0 : Int32)), .val (.ref src), .val (.int off), .val (.int len), .unset, .unset] [(.int (0 : Int32)), (.ref sA)])) rfl rfl (hb hby own_d_prog_34_method_7_5) _ ?_
      show Steps p.tables e below (T393.setTop (mkF m 6 #[.val (.ref I), .val (.int (0 : Int32)), .val (.ref src), .val (.int off), .val (.int len), .unset, .unset] [(.int (0 : Int32))])) _
      refine XS.istore X393.here hx rfl (hb hby own_d_prog_34_method_7_6) rfl (l' := #[.val (.ref I), .val (.int (0 : Int32)), .val (.ref src), .val (.int off), .val (.int len), .val (.int (0 : Int32)), .unset]) rfl ?_
      refine XS.aloadN X393.here hx rfl (hb hby own_d_prog_34_method_7_8) rfl rfl ?_
      refine st395 _ ?_
      refine XS.iloadN X395.here hx rfl (hb hby own_d_prog_34_method_7_12) rfl ?_
      show Steps p.tables e below (T395.setTop (mkF m 13 #[.val (.ref I), .val (.int (0 : Int32)), .val (.ref src), .val (.int off), .val (.int len), .val (.int (0 : Int32)), .unset] [(.int (0 : Int32)), (.ref sA)])) _
      refine XS.iconst X395.here hx rfl (hb hby own_d_prog_34_method_7_13) ?_
      refine XS.iadd X395.here hx rfl (hb hby own_d_prog_34_method_7_14) rfl ?_
      refine X395.iaload hx (j := ((0 : Int32) + (1 : Int32))) (v := (.int l0)) (by rw [e395]; exact Ar396.1) (State.isArrayOf_alike hZ.alike Ar396.2.1) Ar396.2.2 (own_inb G396 1024 hsl (by decide)) (own_get G396 hs1) (g := (mkF m 15 #[.val (.ref I), .val (.int (0 : Int32)), .val (.ref src), .val (.int off), .val (.int len), .val (.int (0 : Int32)), .unset] [(.int ((0 : Int32) + (1 : Int32))), (.ref sA)])) rfl rfl (hb hby own_d_prog_34_method_7_15) _ ?_
      refine XS.iload X395.here hx rfl (hb hby own_d_prog_34_method_7_16) rfl ?_
      show Steps p.tables e below (T395.setTop (mkF m 18 #[.val (.ref I), .val (.int (0 : Int32)), .val (.ref src), .val (.int off), .val (.int len), .val (.int (0 : Int32)), .unset] [(.int (0 : Int32)), (.int l0)])) _
      refine XS.isub X395.here hx rfl (hb hby own_d_prog_34_method_7_18) rfl ?_
      show Steps p.tables e below (T395.setTop (mkF m 19 #[.val (.ref I), .val (.int (0 : Int32)), .val (.ref src), .val (.int off), .val (.int len), .val (.int (0 : Int32)), .unset] [(.int (l0 - (0 : Int32)))])) _
      rw [own_sub0 l0]
      refine XS.iload X395.here hx rfl (hb hby own_d_prog_34_method_7_19) rfl ?_
      refine XS.icmpNo X395.here hx rfl (hb hby own_d_prog_34_method_7_21) rfl (feq ee).1 ?_
      refine XS.iconst X395.here hx rfl (hb hby own_d_prog_34_method_7_24) ?_
      show Steps p.tables e below (T395.setTop (mkF m 25 #[.val (.ref I), .val (.int (0 : Int32)), .val (.ref src), .val (.int off), .val (.int len), .val (.int (0 : Int32)), .unset] [(.int (0 : Int32))])) _
      exact own_retZ X395 hx rfl Bd.returns (hb hby own_d_prog_34_method_7_25) hr
    · show rm_mat_Q Z I kA sA ck cs ks ss src cS x0 x1 x2 x3 l0 nd off len h0 n0 _ T395.heap _
      rw [e395]
      exact ⟨_, rfl, N0, rfl, Or.inl rfl⟩
  · obtain ⟨T397, X397, e397, st397⟩ := getF X0 hx hZ hown (host := "") (Or.inl (own_at hw 13 rfl)) Via.refl e0 dS (g := (mkF m 1 #[.val (.ref I), .val (.int (0 : Int32)), .val (.ref src), .val (.int off), .val (.int len), .unset, .unset] [(.ref I)])) rfl rfl (hb hby own_d_prog_34_method_7_1)
    obtain ⟨cl398, Ar398, q398, G398⟩ := id lS
    obtain ⟨T399, X399, e399, st399⟩ := getF X397 hx hZ hown (host := "") (Or.inl (own_at hw 13 rfl)) Via.refl e397 dS (g := (mkF m 9 #[.val (.ref I), .val (.int (0 : Int32)), .val (.ref src), .val (.int off), .val (.int len), .val (.int (0 : Int32)), .unset] [(.ref I)])) rfl rfl (hb hby own_d_prog_34_method_7_9)
    obtain ⟨cl400, Ar400, q400, G400⟩ := id lS
    obtain ⟨T401, X401, e401, st401⟩ := getF X399 hx hZ hown (host := "") (Or.inl (own_at hw 10 rfl)) Via.refl e399 dK (g := (mkF m 37 #[.val (.ref I), .val (.int (0 : Int32)), .val (.ref src), .val (.int off), .val (.int len), .val (.int (0 : Int32)), .val (.int (0 : Int32))] [(.ref I)])) rfl rfl (hb hby own_d_prog_34_method_7_37)
    obtain ⟨cl402, Ar402, q402, G402⟩ := id lK
    obtain ⟨cl403, Ar403, q403, G403⟩ := id Lx
    obtain ⟨fs, hr, hrun, hended, hW, hsame⟩ := X401.leave (v := some (.int (1 : Int32))) (fun h => by rw [Bd.returns] at h; cases h)
    refine ⟨_, _, pre0 _ ?_, hrun, hended, _, _, rfl, ?_, ⟨_, rfl⟩, hW, hsame.mono (by decide) (by decide)⟩
    · show Steps p.tables e below (s₁.setTop (mkF m 0 #[.val (.ref I), .val (.int (0 : Int32)), .val (.ref src), .val (.int off), .val (.int len), .unset, .unset] [])) _
      refine XS.aloadN X0.here hx rfl (hb hby own_d_prog_34_method_7_0) rfl rfl ?_
      refine st397 _ ?_
      refine XS.iloadN X397.here hx rfl (hb hby own_d_prog_34_method_7_4) rfl ?_
      refine X397.iaload hx (j := (0 : Int32)) (v := (.int (0 : Int32))) (by rw [e397]; exact Ar398.1) (State.isArrayOf_alike hZ.alike Ar398.2.1) Ar398.2.2 (own_inb G398 1024 hsl (by decide)) (own_get G398 hs0) (g := (mkF m 5 #[.val (.ref I), .val (.int (0 : Int32)), .val (.ref src), .val (.int off), .val (.int len), .unset, .unset] [(.int (0 : Int32)), (.ref sA)])) rfl rfl (hb hby own_d_prog_34_method_7_5) _ ?_
      show Steps p.tables e below (T397.setTop (mkF m 6 #[.val (.ref I), .val (.int (0 : Int32)), .val (.ref src), .val (.int off), .val (.int len), .unset, .unset] [(.int (0 : Int32))])) _
      refine XS.istore X397.here hx rfl (hb hby own_d_prog_34_method_7_6) rfl (l' := #[.val (.ref I), .val (.int (0 : Int32)), .val (.ref src), .val (.int off), .val (.int len), .val (.int (0 : Int32)), .unset]) rfl ?_
      refine XS.aloadN X397.here hx rfl (hb hby own_d_prog_34_method_7_8) rfl rfl ?_
      refine st399 _ ?_
      refine XS.iloadN X399.here hx rfl (hb hby own_d_prog_34_method_7_12) rfl ?_
      show Steps p.tables e below (T399.setTop (mkF m 13 #[.val (.ref I), .val (.int (0 : Int32)), .val (.ref src), .val (.int off), .val (.int len), .val (.int (0 : Int32)), .unset] [(.int (0 : Int32)), (.ref sA)])) _
      refine XS.iconst X399.here hx rfl (hb hby own_d_prog_34_method_7_13) ?_
      refine XS.iadd X399.here hx rfl (hb hby own_d_prog_34_method_7_14) rfl ?_
      refine X399.iaload hx (j := ((0 : Int32) + (1 : Int32))) (v := (.int l0)) (by rw [e399]; exact Ar400.1) (State.isArrayOf_alike hZ.alike Ar400.2.1) Ar400.2.2 (own_inb G400 1024 hsl (by decide)) (own_get G400 hs1) (g := (mkF m 15 #[.val (.ref I), .val (.int (0 : Int32)), .val (.ref src), .val (.int off), .val (.int len), .val (.int (0 : Int32)), .unset] [(.int ((0 : Int32) + (1 : Int32))), (.ref sA)])) rfl rfl (hb hby own_d_prog_34_method_7_15) _ ?_
      refine XS.iload X399.here hx rfl (hb hby own_d_prog_34_method_7_16) rfl ?_
      show Steps p.tables e below (T399.setTop (mkF m 18 #[.val (.ref I), .val (.int (0 : Int32)), .val (.ref src), .val (.int off), .val (.int len), .val (.int (0 : Int32)), .unset] [(.int (0 : Int32)), (.int l0)])) _
      refine XS.isub X399.here hx rfl (hb hby own_d_prog_34_method_7_18) rfl ?_
      show Steps p.tables e below (T399.setTop (mkF m 19 #[.val (.ref I), .val (.int (0 : Int32)), .val (.ref src), .val (.int off), .val (.int len), .val (.int (0 : Int32)), .unset] [(.int (l0 - (0 : Int32)))])) _
      rw [own_sub0 l0]
      refine XS.iload X399.here hx rfl (hb hby own_d_prog_34_method_7_19) rfl ?_
      refine XS.icmpYes X399.here hx rfl (pc0 := 21) (pc' := 26) rfl (hb hby own_d_prog_34_method_7_21) rfl (teq ee).1 (by decide) (by decide) ?_
      refine XS.iconst X399.here hx rfl (hb hby own_d_prog_34_method_7_26) ?_
      show Steps p.tables e below (T399.setTop (mkF m 27 #[.val (.ref I), .val (.int (0 : Int32)), .val (.ref src), .val (.int off), .val (.int len), .val (.int (0 : Int32)), .unset] [(.int (0 : Int32))])) _
      refine XS.istore X399.here hx rfl (hb hby own_d_prog_34_method_7_27) rfl (l' := #[.val (.ref I), .val (.int (0 : Int32)), .val (.ref src), .val (.int off), .val (.int len), .val (.int (0 : Int32)), .val (.int (0 : Int32))]) rfl ?_
      refine XS.iload X399.here hx rfl (hb hby own_d_prog_34_method_7_29) rfl ?_
      refine XS.iload X399.here hx rfl (hb hby own_d_prog_34_method_7_31) rfl ?_
      refine XS.icmpNo X399.here hx rfl (hb hby own_d_prog_34_method_7_33) rfl (tlt (show (0 : Int32) < len by rw [r]; decide)).2.1 ?_
      show Steps p.tables e below (T399.setTop (mkF m 36 #[.val (.ref I), .val (.int (0 : Int32)), .val (.ref src), .val (.int off), .val (.int len), .val (.int (0 : Int32)), .val (.int (0 : Int32))] [])) _
      refine XS.aloadN X399.here hx rfl (hb hby own_d_prog_34_method_7_36) rfl rfl ?_
      refine st401 _ ?_
      refine XS.iload X401.here hx rfl (hb hby own_d_prog_34_method_7_40) rfl ?_
      refine XS.iload X401.here hx rfl (hb hby own_d_prog_34_method_7_42) rfl ?_
      show Steps p.tables e below (T401.setTop (mkF m 44 #[.val (.ref I), .val (.int (0 : Int32)), .val (.ref src), .val (.int off), .val (.int len), .val (.int (0 : Int32)), .val (.int (0 : Int32))] [(.int (0 : Int32)), (.int (0 : Int32)), (.ref kA)])) _
      refine XS.iadd X401.here hx rfl (hb hby own_d_prog_34_method_7_44) rfl ?_
      refine X401.laload hx (j := ((0 : Int32) + (0 : Int32))) (v := (.long x0)) (by rw [e401]; exact Ar402.1) (State.isArrayOf_alike hZ.alike Ar402.2.1) Ar402.2.2 (own_inb G402 _ hkl (own_nin (j := ((0 : Int32) + (0 : Int32))) (i := 0) (by decide) (by decide) (own_nb1 hln (by decide)))) (own_get G402 hk0) (g := (mkF m 45 #[.val (.ref I), .val (.int (0 : Int32)), .val (.ref src), .val (.int off), .val (.int len), .val (.int (0 : Int32)), .val (.int (0 : Int32))] [(.int ((0 : Int32) + (0 : Int32))), (.ref kA)])) rfl rfl (hb hby own_d_prog_34_method_7_45) _ ?_
      refine XS.aloadN X401.here hx rfl (hb hby own_d_prog_34_method_7_46) rfl rfl ?_
      refine XS.iloadN X401.here hx rfl (hb hby own_d_prog_34_method_7_47) rfl ?_
      show Steps p.tables e below (T401.setTop (mkF m 48 #[.val (.ref I), .val (.int (0 : Int32)), .val (.ref src), .val (.int off), .val (.int len), .val (.int (0 : Int32)), .val (.int (0 : Int32))] [(.int off), (.ref src), (.long x0)])) _
      refine XS.iload X401.here hx rfl (hb hby own_d_prog_34_method_7_48) rfl ?_
      refine XS.iadd X401.here hx rfl (hb hby own_d_prog_34_method_7_50) rfl ?_
      refine X401.laload hx (j := (off + (0 : Int32))) (v := (.long x0)) (by rw [e401]; exact Ar403.1) (State.isArrayOf_alike hZ.alike Ar403.2.1) Ar403.2.2 (own_inb G403 4 rfl (show ¬ ((off + (0 : Int32)) < 0 ∨ 4 ≤ ((off + (0 : Int32))).toNatClampNeg) by rw [q]; decide)) (own_get G403 (by rw [q]; rfl)) (g := (mkF m 51 #[.val (.ref I), .val (.int (0 : Int32)), .val (.ref src), .val (.int off), .val (.int len), .val (.int (0 : Int32)), .val (.int (0 : Int32))] [(.int (off + (0 : Int32))), (.ref src), (.long x0)])) rfl rfl (hb hby own_d_prog_34_method_7_51) _ ?_
      refine XS.lcmp X401.here hx rfl (hb hby own_d_prog_34_method_7_52) rfl ?_
      show Steps p.tables e below (T401.setTop (mkF m 53 #[.val (.ref I), .val (.int (0 : Int32)), .val (.ref src), .val (.int off), .val (.int len), .val (.int (0 : Int32)), .val (.int (0 : Int32))] [(.int (lcmpW x0 x0))])) _
      refine XS.ifYes X401.here hx rfl (pc0 := 53) (pc' := 58) rfl (hb hby own_d_prog_34_method_7_53) rfl ((if0 _ _).trans (teq ((lw_eq _ _).mpr rfl)).1) (by decide) (by decide) ?_
      refine XS.iinc X401.here hx rfl (hb hby own_d_prog_34_method_7_58) rfl (l' := #[.val (.ref I), .val (.int (0 : Int32)), .val (.ref src), .val (.int off), .val (.int len), .val (.int (0 : Int32)), .val (.int ((0 : Int32) + (1 : Int32)))]) rfl ?_
      refine XS.goto X401.here hx rfl (pc0 := 61) (pc' := 29) rfl (hb hby own_d_prog_34_method_7_61) (by decide) (by decide) ?_
      refine XS.iload X401.here hx rfl (hb hby own_d_prog_34_method_7_29) rfl ?_
      show Steps p.tables e below (T401.setTop (mkF m 31 #[.val (.ref I), .val (.int (0 : Int32)), .val (.ref src), .val (.int off), .val (.int len), .val (.int (0 : Int32)), .val (.int ((0 : Int32) + (1 : Int32)))] [(.int ((0 : Int32) + (1 : Int32)))])) _
      refine XS.iload X401.here hx rfl (hb hby own_d_prog_34_method_7_31) rfl ?_
      refine XS.icmpYes X401.here hx rfl (pc0 := 33) (pc' := 64) rfl (hb hby own_d_prog_34_method_7_33) rfl (flt (show ¬ (((0 : Int32) + (1 : Int32)) < len) by rw [r]; decide)).2.1 (by decide) (by decide) ?_
      refine XS.iconst X401.here hx rfl (hb hby own_d_prog_34_method_7_64) ?_
      exact own_retZ X401 hx rfl Bd.returns (hb hby own_d_prog_34_method_7_65) hr
    · show rm_mat_Q Z I kA sA ck cs ks ss src cS x0 x1 x2 x3 l0 nd off len h0 n0 _ T401.heap _
      rw [e401]
      exact ⟨_, rfl, N0, rfl, Or.inr ⟨rfl, ee, Or.inl q⟩⟩
  · obtain ⟨T404, X404, e404, st404⟩ := getF X0 hx hZ hown (host := "") (Or.inl (own_at hw 13 rfl)) Via.refl e0 dS (g := (mkF m 1 #[.val (.ref I), .val (.int (0 : Int32)), .val (.ref src), .val (.int off), .val (.int len), .unset, .unset] [(.ref I)])) rfl rfl (hb hby own_d_prog_34_method_7_1)
    obtain ⟨cl405, Ar405, q405, G405⟩ := id lS
    obtain ⟨T406, X406, e406, st406⟩ := getF X404 hx hZ hown (host := "") (Or.inl (own_at hw 13 rfl)) Via.refl e404 dS (g := (mkF m 9 #[.val (.ref I), .val (.int (0 : Int32)), .val (.ref src), .val (.int off), .val (.int len), .val (.int (0 : Int32)), .unset] [(.ref I)])) rfl rfl (hb hby own_d_prog_34_method_7_9)
    obtain ⟨cl407, Ar407, q407, G407⟩ := id lS
    obtain ⟨T408, X408, e408, st408⟩ := getF X406 hx hZ hown (host := "") (Or.inl (own_at hw 10 rfl)) Via.refl e406 dK (g := (mkF m 37 #[.val (.ref I), .val (.int (0 : Int32)), .val (.ref src), .val (.int off), .val (.int len), .val (.int (0 : Int32)), .val (.int (0 : Int32))] [(.ref I)])) rfl rfl (hb hby own_d_prog_34_method_7_37)
    obtain ⟨cl409, Ar409, q409, G409⟩ := id lK
    obtain ⟨cl410, Ar410, q410, G410⟩ := id Lx
    obtain ⟨T411, X411, e411, st411⟩ := getF X408 hx hZ hown (host := "") (Or.inl (own_at hw 10 rfl)) Via.refl e408 dK (g := (mkF m 37 #[.val (.ref I), .val (.int (0 : Int32)), .val (.ref src), .val (.int off), .val (.int len), .val (.int (0 : Int32)), .val (.int ((0 : Int32) + (1 : Int32)))] [(.ref I)])) rfl rfl (hb hby own_d_prog_34_method_7_37)
    obtain ⟨cl412, Ar412, q412, G412⟩ := id lK
    obtain ⟨cl413, Ar413, q413, G413⟩ := id Lx
    obtain ⟨fs, hr, hrun, hended, hW, hsame⟩ := X411.leave (v := some (.int (1 : Int32))) (fun h => by rw [Bd.returns] at h; cases h)
    refine ⟨_, _, pre0 _ ?_, hrun, hended, _, _, rfl, ?_, ⟨_, rfl⟩, hW, hsame.mono (by decide) (by decide)⟩
    · show Steps p.tables e below (s₁.setTop (mkF m 0 #[.val (.ref I), .val (.int (0 : Int32)), .val (.ref src), .val (.int off), .val (.int len), .unset, .unset] [])) _
      refine XS.aloadN X0.here hx rfl (hb hby own_d_prog_34_method_7_0) rfl rfl ?_
      refine st404 _ ?_
      refine XS.iloadN X404.here hx rfl (hb hby own_d_prog_34_method_7_4) rfl ?_
      refine X404.iaload hx (j := (0 : Int32)) (v := (.int (0 : Int32))) (by rw [e404]; exact Ar405.1) (State.isArrayOf_alike hZ.alike Ar405.2.1) Ar405.2.2 (own_inb G405 1024 hsl (by decide)) (own_get G405 hs0) (g := (mkF m 5 #[.val (.ref I), .val (.int (0 : Int32)), .val (.ref src), .val (.int off), .val (.int len), .unset, .unset] [(.int (0 : Int32)), (.ref sA)])) rfl rfl (hb hby own_d_prog_34_method_7_5) _ ?_
      show Steps p.tables e below (T404.setTop (mkF m 6 #[.val (.ref I), .val (.int (0 : Int32)), .val (.ref src), .val (.int off), .val (.int len), .unset, .unset] [(.int (0 : Int32))])) _
      refine XS.istore X404.here hx rfl (hb hby own_d_prog_34_method_7_6) rfl (l' := #[.val (.ref I), .val (.int (0 : Int32)), .val (.ref src), .val (.int off), .val (.int len), .val (.int (0 : Int32)), .unset]) rfl ?_
      refine XS.aloadN X404.here hx rfl (hb hby own_d_prog_34_method_7_8) rfl rfl ?_
      refine st406 _ ?_
      refine XS.iloadN X406.here hx rfl (hb hby own_d_prog_34_method_7_12) rfl ?_
      show Steps p.tables e below (T406.setTop (mkF m 13 #[.val (.ref I), .val (.int (0 : Int32)), .val (.ref src), .val (.int off), .val (.int len), .val (.int (0 : Int32)), .unset] [(.int (0 : Int32)), (.ref sA)])) _
      refine XS.iconst X406.here hx rfl (hb hby own_d_prog_34_method_7_13) ?_
      refine XS.iadd X406.here hx rfl (hb hby own_d_prog_34_method_7_14) rfl ?_
      refine X406.iaload hx (j := ((0 : Int32) + (1 : Int32))) (v := (.int l0)) (by rw [e406]; exact Ar407.1) (State.isArrayOf_alike hZ.alike Ar407.2.1) Ar407.2.2 (own_inb G407 1024 hsl (by decide)) (own_get G407 hs1) (g := (mkF m 15 #[.val (.ref I), .val (.int (0 : Int32)), .val (.ref src), .val (.int off), .val (.int len), .val (.int (0 : Int32)), .unset] [(.int ((0 : Int32) + (1 : Int32))), (.ref sA)])) rfl rfl (hb hby own_d_prog_34_method_7_15) _ ?_
      refine XS.iload X406.here hx rfl (hb hby own_d_prog_34_method_7_16) rfl ?_
      show Steps p.tables e below (T406.setTop (mkF m 18 #[.val (.ref I), .val (.int (0 : Int32)), .val (.ref src), .val (.int off), .val (.int len), .val (.int (0 : Int32)), .unset] [(.int (0 : Int32)), (.int l0)])) _
      refine XS.isub X406.here hx rfl (hb hby own_d_prog_34_method_7_18) rfl ?_
      show Steps p.tables e below (T406.setTop (mkF m 19 #[.val (.ref I), .val (.int (0 : Int32)), .val (.ref src), .val (.int off), .val (.int len), .val (.int (0 : Int32)), .unset] [(.int (l0 - (0 : Int32)))])) _
      rw [own_sub0 l0]
      refine XS.iload X406.here hx rfl (hb hby own_d_prog_34_method_7_19) rfl ?_
      refine XS.icmpYes X406.here hx rfl (pc0 := 21) (pc' := 26) rfl (hb hby own_d_prog_34_method_7_21) rfl (teq ee).1 (by decide) (by decide) ?_
      refine XS.iconst X406.here hx rfl (hb hby own_d_prog_34_method_7_26) ?_
      show Steps p.tables e below (T406.setTop (mkF m 27 #[.val (.ref I), .val (.int (0 : Int32)), .val (.ref src), .val (.int off), .val (.int len), .val (.int (0 : Int32)), .unset] [(.int (0 : Int32))])) _
      refine XS.istore X406.here hx rfl (hb hby own_d_prog_34_method_7_27) rfl (l' := #[.val (.ref I), .val (.int (0 : Int32)), .val (.ref src), .val (.int off), .val (.int len), .val (.int (0 : Int32)), .val (.int (0 : Int32))]) rfl ?_
      refine XS.iload X406.here hx rfl (hb hby own_d_prog_34_method_7_29) rfl ?_
      refine XS.iload X406.here hx rfl (hb hby own_d_prog_34_method_7_31) rfl ?_
      refine XS.icmpNo X406.here hx rfl (hb hby own_d_prog_34_method_7_33) rfl (tlt (show (0 : Int32) < len by rw [r]; decide)).2.1 ?_
      show Steps p.tables e below (T406.setTop (mkF m 36 #[.val (.ref I), .val (.int (0 : Int32)), .val (.ref src), .val (.int off), .val (.int len), .val (.int (0 : Int32)), .val (.int (0 : Int32))] [])) _
      refine XS.aloadN X406.here hx rfl (hb hby own_d_prog_34_method_7_36) rfl rfl ?_
      refine st408 _ ?_
      refine XS.iload X408.here hx rfl (hb hby own_d_prog_34_method_7_40) rfl ?_
      refine XS.iload X408.here hx rfl (hb hby own_d_prog_34_method_7_42) rfl ?_
      show Steps p.tables e below (T408.setTop (mkF m 44 #[.val (.ref I), .val (.int (0 : Int32)), .val (.ref src), .val (.int off), .val (.int len), .val (.int (0 : Int32)), .val (.int (0 : Int32))] [(.int (0 : Int32)), (.int (0 : Int32)), (.ref kA)])) _
      refine XS.iadd X408.here hx rfl (hb hby own_d_prog_34_method_7_44) rfl ?_
      refine X408.laload hx (j := ((0 : Int32) + (0 : Int32))) (v := (.long x0)) (by rw [e408]; exact Ar409.1) (State.isArrayOf_alike hZ.alike Ar409.2.1) Ar409.2.2 (own_inb G409 _ hkl (own_nin (j := ((0 : Int32) + (0 : Int32))) (i := 0) (by decide) (by decide) (own_nb1 hln (by decide)))) (own_get G409 hk0) (g := (mkF m 45 #[.val (.ref I), .val (.int (0 : Int32)), .val (.ref src), .val (.int off), .val (.int len), .val (.int (0 : Int32)), .val (.int (0 : Int32))] [(.int ((0 : Int32) + (0 : Int32))), (.ref kA)])) rfl rfl (hb hby own_d_prog_34_method_7_45) _ ?_
      refine XS.aloadN X408.here hx rfl (hb hby own_d_prog_34_method_7_46) rfl rfl ?_
      refine XS.iloadN X408.here hx rfl (hb hby own_d_prog_34_method_7_47) rfl ?_
      show Steps p.tables e below (T408.setTop (mkF m 48 #[.val (.ref I), .val (.int (0 : Int32)), .val (.ref src), .val (.int off), .val (.int len), .val (.int (0 : Int32)), .val (.int (0 : Int32))] [(.int off), (.ref src), (.long x0)])) _
      refine XS.iload X408.here hx rfl (hb hby own_d_prog_34_method_7_48) rfl ?_
      refine XS.iadd X408.here hx rfl (hb hby own_d_prog_34_method_7_50) rfl ?_
      refine X408.laload hx (j := (off + (0 : Int32))) (v := (.long x0)) (by rw [e408]; exact Ar410.1) (State.isArrayOf_alike hZ.alike Ar410.2.1) Ar410.2.2 (own_inb G410 4 rfl (show ¬ ((off + (0 : Int32)) < 0 ∨ 4 ≤ ((off + (0 : Int32))).toNatClampNeg) by rw [q]; decide)) (own_get G410 (by rw [q]; rfl)) (g := (mkF m 51 #[.val (.ref I), .val (.int (0 : Int32)), .val (.ref src), .val (.int off), .val (.int len), .val (.int (0 : Int32)), .val (.int (0 : Int32))] [(.int (off + (0 : Int32))), (.ref src), (.long x0)])) rfl rfl (hb hby own_d_prog_34_method_7_51) _ ?_
      refine XS.lcmp X408.here hx rfl (hb hby own_d_prog_34_method_7_52) rfl ?_
      show Steps p.tables e below (T408.setTop (mkF m 53 #[.val (.ref I), .val (.int (0 : Int32)), .val (.ref src), .val (.int off), .val (.int len), .val (.int (0 : Int32)), .val (.int (0 : Int32))] [(.int (lcmpW x0 x0))])) _
      refine XS.ifYes X408.here hx rfl (pc0 := 53) (pc' := 58) rfl (hb hby own_d_prog_34_method_7_53) rfl ((if0 _ _).trans (teq ((lw_eq _ _).mpr rfl)).1) (by decide) (by decide) ?_
      refine XS.iinc X408.here hx rfl (hb hby own_d_prog_34_method_7_58) rfl (l' := #[.val (.ref I), .val (.int (0 : Int32)), .val (.ref src), .val (.int off), .val (.int len), .val (.int (0 : Int32)), .val (.int ((0 : Int32) + (1 : Int32)))]) rfl ?_
      refine XS.goto X408.here hx rfl (pc0 := 61) (pc' := 29) rfl (hb hby own_d_prog_34_method_7_61) (by decide) (by decide) ?_
      refine XS.iload X408.here hx rfl (hb hby own_d_prog_34_method_7_29) rfl ?_
      show Steps p.tables e below (T408.setTop (mkF m 31 #[.val (.ref I), .val (.int (0 : Int32)), .val (.ref src), .val (.int off), .val (.int len), .val (.int (0 : Int32)), .val (.int ((0 : Int32) + (1 : Int32)))] [(.int ((0 : Int32) + (1 : Int32)))])) _
      refine XS.iload X408.here hx rfl (hb hby own_d_prog_34_method_7_31) rfl ?_
      refine XS.icmpNo X408.here hx rfl (hb hby own_d_prog_34_method_7_33) rfl (tlt (show ((0 : Int32) + (1 : Int32)) < len by rw [r]; decide)).2.1 ?_
      refine XS.aloadN X408.here hx rfl (hb hby own_d_prog_34_method_7_36) rfl rfl ?_
      refine st411 _ ?_
      show Steps p.tables e below (T411.setTop (mkF m 40 #[.val (.ref I), .val (.int (0 : Int32)), .val (.ref src), .val (.int off), .val (.int len), .val (.int (0 : Int32)), .val (.int ((0 : Int32) + (1 : Int32)))] [(.ref kA)])) _
      refine XS.iload X411.here hx rfl (hb hby own_d_prog_34_method_7_40) rfl ?_
      refine XS.iload X411.here hx rfl (hb hby own_d_prog_34_method_7_42) rfl ?_
      refine XS.iadd X411.here hx rfl (hb hby own_d_prog_34_method_7_44) rfl ?_
      refine X411.laload hx (j := ((0 : Int32) + ((0 : Int32) + (1 : Int32)))) (v := (.long x1)) (by rw [e411]; exact Ar412.1) (State.isArrayOf_alike hZ.alike Ar412.2.1) Ar412.2.2 (own_inb G412 _ hkl (own_nin (j := ((0 : Int32) + ((0 : Int32) + (1 : Int32)))) (i := 1) (by decide) (by decide) (own_nb1 hln (by decide)))) (own_get G412 (hk1 (by rw [ee, r]; decide))) (g := (mkF m 45 #[.val (.ref I), .val (.int (0 : Int32)), .val (.ref src), .val (.int off), .val (.int len), .val (.int (0 : Int32)), .val (.int ((0 : Int32) + (1 : Int32)))] [(.int ((0 : Int32) + ((0 : Int32) + (1 : Int32)))), (.ref kA)])) rfl rfl (hb hby own_d_prog_34_method_7_45) _ ?_
      show Steps p.tables e below (T411.setTop (mkF m 46 #[.val (.ref I), .val (.int (0 : Int32)), .val (.ref src), .val (.int off), .val (.int len), .val (.int (0 : Int32)), .val (.int ((0 : Int32) + (1 : Int32)))] [(.long x1)])) _
      refine XS.aloadN X411.here hx rfl (hb hby own_d_prog_34_method_7_46) rfl rfl ?_
      refine XS.iloadN X411.here hx rfl (hb hby own_d_prog_34_method_7_47) rfl ?_
      refine XS.iload X411.here hx rfl (hb hby own_d_prog_34_method_7_48) rfl ?_
      refine XS.iadd X411.here hx rfl (hb hby own_d_prog_34_method_7_50) rfl ?_
      show Steps p.tables e below (T411.setTop (mkF m 51 #[.val (.ref I), .val (.int (0 : Int32)), .val (.ref src), .val (.int off), .val (.int len), .val (.int (0 : Int32)), .val (.int ((0 : Int32) + (1 : Int32)))] [(.int (off + ((0 : Int32) + (1 : Int32)))), (.ref src), (.long x1)])) _
      refine X411.laload hx (j := (off + ((0 : Int32) + (1 : Int32)))) (v := (.long x1)) (by rw [e411]; exact Ar413.1) (State.isArrayOf_alike hZ.alike Ar413.2.1) Ar413.2.2 (own_inb G413 4 rfl (show ¬ ((off + ((0 : Int32) + (1 : Int32))) < 0 ∨ 4 ≤ ((off + ((0 : Int32) + (1 : Int32)))).toNatClampNeg) by rw [q]; decide)) (own_get G413 (by rw [q]; rfl)) (g := (mkF m 51 #[.val (.ref I), .val (.int (0 : Int32)), .val (.ref src), .val (.int off), .val (.int len), .val (.int (0 : Int32)), .val (.int ((0 : Int32) + (1 : Int32)))] [(.int (off + ((0 : Int32) + (1 : Int32)))), (.ref src), (.long x1)])) rfl rfl (hb hby own_d_prog_34_method_7_51) _ ?_
      refine XS.lcmp X411.here hx rfl (hb hby own_d_prog_34_method_7_52) rfl ?_
      refine XS.ifYes X411.here hx rfl (pc0 := 53) (pc' := 58) rfl (hb hby own_d_prog_34_method_7_53) rfl ((if0 _ _).trans (teq ((lw_eq _ _).mpr rfl)).1) (by decide) (by decide) ?_
      refine XS.iinc X411.here hx rfl (hb hby own_d_prog_34_method_7_58) rfl (l' := #[.val (.ref I), .val (.int (0 : Int32)), .val (.ref src), .val (.int off), .val (.int len), .val (.int (0 : Int32)), .val (.int (((0 : Int32) + (1 : Int32)) + (1 : Int32)))]) rfl ?_
      show Steps p.tables e below (T411.setTop (mkF m 61 #[.val (.ref I), .val (.int (0 : Int32)), .val (.ref src), .val (.int off), .val (.int len), .val (.int (0 : Int32)), .val (.int (((0 : Int32) + (1 : Int32)) + (1 : Int32)))] [])) _
      refine XS.goto X411.here hx rfl (pc0 := 61) (pc' := 29) rfl (hb hby own_d_prog_34_method_7_61) (by decide) (by decide) ?_
      refine XS.iload X411.here hx rfl (hb hby own_d_prog_34_method_7_29) rfl ?_
      refine XS.iload X411.here hx rfl (hb hby own_d_prog_34_method_7_31) rfl ?_
      refine XS.icmpYes X411.here hx rfl (pc0 := 33) (pc' := 64) rfl (hb hby own_d_prog_34_method_7_33) rfl (flt (show ¬ ((((0 : Int32) + (1 : Int32)) + (1 : Int32)) < len) by rw [r]; decide)).2.1 (by decide) (by decide) ?_
      show Steps p.tables e below (T411.setTop (mkF m 64 #[.val (.ref I), .val (.int (0 : Int32)), .val (.ref src), .val (.int off), .val (.int len), .val (.int (0 : Int32)), .val (.int (((0 : Int32) + (1 : Int32)) + (1 : Int32)))] [])) _
      refine XS.iconst X411.here hx rfl (hb hby own_d_prog_34_method_7_64) ?_
      exact own_retZ X411 hx rfl Bd.returns (hb hby own_d_prog_34_method_7_65) hr
    · show rm_mat_Q Z I kA sA ck cs ks ss src cS x0 x1 x2 x3 l0 nd off len h0 n0 _ T411.heap _
      rw [e411]
      exact ⟨_, rfl, N0, rfl, Or.inr ⟨rfl, ee, Or.inl q⟩⟩
  · obtain ⟨T414, X414, e414, st414⟩ := getF X0 hx hZ hown (host := "") (Or.inl (own_at hw 13 rfl)) Via.refl e0 dS (g := (mkF m 1 #[.val (.ref I), .val (.int (0 : Int32)), .val (.ref src), .val (.int off), .val (.int len), .unset, .unset] [(.ref I)])) rfl rfl (hb hby own_d_prog_34_method_7_1)
    obtain ⟨cl415, Ar415, q415, G415⟩ := id lS
    obtain ⟨T416, X416, e416, st416⟩ := getF X414 hx hZ hown (host := "") (Or.inl (own_at hw 13 rfl)) Via.refl e414 dS (g := (mkF m 9 #[.val (.ref I), .val (.int (0 : Int32)), .val (.ref src), .val (.int off), .val (.int len), .val (.int (0 : Int32)), .unset] [(.ref I)])) rfl rfl (hb hby own_d_prog_34_method_7_9)
    obtain ⟨cl417, Ar417, q417, G417⟩ := id lS
    obtain ⟨T418, X418, e418, st418⟩ := getF X416 hx hZ hown (host := "") (Or.inl (own_at hw 10 rfl)) Via.refl e416 dK (g := (mkF m 37 #[.val (.ref I), .val (.int (0 : Int32)), .val (.ref src), .val (.int off), .val (.int len), .val (.int (0 : Int32)), .val (.int (0 : Int32))] [(.ref I)])) rfl rfl (hb hby own_d_prog_34_method_7_37)
    obtain ⟨cl419, Ar419, q419, G419⟩ := id lK
    obtain ⟨cl420, Ar420, q420, G420⟩ := id Lx
    obtain ⟨fs, hr, hrun, hended, hW, hsame⟩ := X418.leave (v := some (.int (1 : Int32))) (fun h => by rw [Bd.returns] at h; cases h)
    refine ⟨_, _, pre0 _ ?_, hrun, hended, _, _, rfl, ?_, ⟨_, rfl⟩, hW, hsame.mono (by decide) (by decide)⟩
    · show Steps p.tables e below (s₁.setTop (mkF m 0 #[.val (.ref I), .val (.int (0 : Int32)), .val (.ref src), .val (.int off), .val (.int len), .unset, .unset] [])) _
      refine XS.aloadN X0.here hx rfl (hb hby own_d_prog_34_method_7_0) rfl rfl ?_
      refine st414 _ ?_
      refine XS.iloadN X414.here hx rfl (hb hby own_d_prog_34_method_7_4) rfl ?_
      refine X414.iaload hx (j := (0 : Int32)) (v := (.int (0 : Int32))) (by rw [e414]; exact Ar415.1) (State.isArrayOf_alike hZ.alike Ar415.2.1) Ar415.2.2 (own_inb G415 1024 hsl (by decide)) (own_get G415 hs0) (g := (mkF m 5 #[.val (.ref I), .val (.int (0 : Int32)), .val (.ref src), .val (.int off), .val (.int len), .unset, .unset] [(.int (0 : Int32)), (.ref sA)])) rfl rfl (hb hby own_d_prog_34_method_7_5) _ ?_
      show Steps p.tables e below (T414.setTop (mkF m 6 #[.val (.ref I), .val (.int (0 : Int32)), .val (.ref src), .val (.int off), .val (.int len), .unset, .unset] [(.int (0 : Int32))])) _
      refine XS.istore X414.here hx rfl (hb hby own_d_prog_34_method_7_6) rfl (l' := #[.val (.ref I), .val (.int (0 : Int32)), .val (.ref src), .val (.int off), .val (.int len), .val (.int (0 : Int32)), .unset]) rfl ?_
      refine XS.aloadN X414.here hx rfl (hb hby own_d_prog_34_method_7_8) rfl rfl ?_
      refine st416 _ ?_
      refine XS.iloadN X416.here hx rfl (hb hby own_d_prog_34_method_7_12) rfl ?_
      show Steps p.tables e below (T416.setTop (mkF m 13 #[.val (.ref I), .val (.int (0 : Int32)), .val (.ref src), .val (.int off), .val (.int len), .val (.int (0 : Int32)), .unset] [(.int (0 : Int32)), (.ref sA)])) _
      refine XS.iconst X416.here hx rfl (hb hby own_d_prog_34_method_7_13) ?_
      refine XS.iadd X416.here hx rfl (hb hby own_d_prog_34_method_7_14) rfl ?_
      refine X416.iaload hx (j := ((0 : Int32) + (1 : Int32))) (v := (.int l0)) (by rw [e416]; exact Ar417.1) (State.isArrayOf_alike hZ.alike Ar417.2.1) Ar417.2.2 (own_inb G417 1024 hsl (by decide)) (own_get G417 hs1) (g := (mkF m 15 #[.val (.ref I), .val (.int (0 : Int32)), .val (.ref src), .val (.int off), .val (.int len), .val (.int (0 : Int32)), .unset] [(.int ((0 : Int32) + (1 : Int32))), (.ref sA)])) rfl rfl (hb hby own_d_prog_34_method_7_15) _ ?_
      refine XS.iload X416.here hx rfl (hb hby own_d_prog_34_method_7_16) rfl ?_
      show Steps p.tables e below (T416.setTop (mkF m 18 #[.val (.ref I), .val (.int (0 : Int32)), .val (.ref src), .val (.int off), .val (.int len), .val (.int (0 : Int32)), .unset] [(.int (0 : Int32)), (.int l0)])) _
      refine XS.isub X416.here hx rfl (hb hby own_d_prog_34_method_7_18) rfl ?_
      show Steps p.tables e below (T416.setTop (mkF m 19 #[.val (.ref I), .val (.int (0 : Int32)), .val (.ref src), .val (.int off), .val (.int len), .val (.int (0 : Int32)), .unset] [(.int (l0 - (0 : Int32)))])) _
      rw [own_sub0 l0]
      refine XS.iload X416.here hx rfl (hb hby own_d_prog_34_method_7_19) rfl ?_
      refine XS.icmpYes X416.here hx rfl (pc0 := 21) (pc' := 26) rfl (hb hby own_d_prog_34_method_7_21) rfl (teq ee).1 (by decide) (by decide) ?_
      refine XS.iconst X416.here hx rfl (hb hby own_d_prog_34_method_7_26) ?_
      show Steps p.tables e below (T416.setTop (mkF m 27 #[.val (.ref I), .val (.int (0 : Int32)), .val (.ref src), .val (.int off), .val (.int len), .val (.int (0 : Int32)), .unset] [(.int (0 : Int32))])) _
      refine XS.istore X416.here hx rfl (hb hby own_d_prog_34_method_7_27) rfl (l' := #[.val (.ref I), .val (.int (0 : Int32)), .val (.ref src), .val (.int off), .val (.int len), .val (.int (0 : Int32)), .val (.int (0 : Int32))]) rfl ?_
      refine XS.iload X416.here hx rfl (hb hby own_d_prog_34_method_7_29) rfl ?_
      refine XS.iload X416.here hx rfl (hb hby own_d_prog_34_method_7_31) rfl ?_
      refine XS.icmpNo X416.here hx rfl (hb hby own_d_prog_34_method_7_33) rfl (tlt (show (0 : Int32) < len by rw [r]; decide)).2.1 ?_
      show Steps p.tables e below (T416.setTop (mkF m 36 #[.val (.ref I), .val (.int (0 : Int32)), .val (.ref src), .val (.int off), .val (.int len), .val (.int (0 : Int32)), .val (.int (0 : Int32))] [])) _
      refine XS.aloadN X416.here hx rfl (hb hby own_d_prog_34_method_7_36) rfl rfl ?_
      refine st418 _ ?_
      refine XS.iload X418.here hx rfl (hb hby own_d_prog_34_method_7_40) rfl ?_
      refine XS.iload X418.here hx rfl (hb hby own_d_prog_34_method_7_42) rfl ?_
      show Steps p.tables e below (T418.setTop (mkF m 44 #[.val (.ref I), .val (.int (0 : Int32)), .val (.ref src), .val (.int off), .val (.int len), .val (.int (0 : Int32)), .val (.int (0 : Int32))] [(.int (0 : Int32)), (.int (0 : Int32)), (.ref kA)])) _
      refine XS.iadd X418.here hx rfl (hb hby own_d_prog_34_method_7_44) rfl ?_
      refine X418.laload hx (j := ((0 : Int32) + (0 : Int32))) (v := (.long x0)) (by rw [e418]; exact Ar419.1) (State.isArrayOf_alike hZ.alike Ar419.2.1) Ar419.2.2 (own_inb G419 _ hkl (own_nin (j := ((0 : Int32) + (0 : Int32))) (i := 0) (by decide) (by decide) (own_nb1 hln (by decide)))) (own_get G419 hk0) (g := (mkF m 45 #[.val (.ref I), .val (.int (0 : Int32)), .val (.ref src), .val (.int off), .val (.int len), .val (.int (0 : Int32)), .val (.int (0 : Int32))] [(.int ((0 : Int32) + (0 : Int32))), (.ref kA)])) rfl rfl (hb hby own_d_prog_34_method_7_45) _ ?_
      refine XS.aloadN X418.here hx rfl (hb hby own_d_prog_34_method_7_46) rfl rfl ?_
      refine XS.iloadN X418.here hx rfl (hb hby own_d_prog_34_method_7_47) rfl ?_
      show Steps p.tables e below (T418.setTop (mkF m 48 #[.val (.ref I), .val (.int (0 : Int32)), .val (.ref src), .val (.int off), .val (.int len), .val (.int (0 : Int32)), .val (.int (0 : Int32))] [(.int off), (.ref src), (.long x0)])) _
      refine XS.iload X418.here hx rfl (hb hby own_d_prog_34_method_7_48) rfl ?_
      refine XS.iadd X418.here hx rfl (hb hby own_d_prog_34_method_7_50) rfl ?_
      refine X418.laload hx (j := (off + (0 : Int32))) (v := (.long x1)) (by rw [e418]; exact Ar420.1) (State.isArrayOf_alike hZ.alike Ar420.2.1) Ar420.2.2 (own_inb G420 4 rfl (show ¬ ((off + (0 : Int32)) < 0 ∨ 4 ≤ ((off + (0 : Int32))).toNatClampNeg) by rw [q]; decide)) (own_get G420 (by rw [q]; rfl)) (g := (mkF m 51 #[.val (.ref I), .val (.int (0 : Int32)), .val (.ref src), .val (.int off), .val (.int len), .val (.int (0 : Int32)), .val (.int (0 : Int32))] [(.int (off + (0 : Int32))), (.ref src), (.long x0)])) rfl rfl (hb hby own_d_prog_34_method_7_51) _ ?_
      refine XS.lcmp X418.here hx rfl (hb hby own_d_prog_34_method_7_52) rfl ?_
      show Steps p.tables e below (T418.setTop (mkF m 53 #[.val (.ref I), .val (.int (0 : Int32)), .val (.ref src), .val (.int off), .val (.int len), .val (.int (0 : Int32)), .val (.int (0 : Int32))] [(.int (lcmpW x0 x1))])) _
      refine XS.ifYes X418.here hx rfl (pc0 := 53) (pc' := 58) rfl (hb hby own_d_prog_34_method_7_53) rfl ((if0 _ _).trans (teq ((lw_eq _ _).mpr p0.symm)).1) (by decide) (by decide) ?_
      refine XS.iinc X418.here hx rfl (hb hby own_d_prog_34_method_7_58) rfl (l' := #[.val (.ref I), .val (.int (0 : Int32)), .val (.ref src), .val (.int off), .val (.int len), .val (.int (0 : Int32)), .val (.int ((0 : Int32) + (1 : Int32)))]) rfl ?_
      refine XS.goto X418.here hx rfl (pc0 := 61) (pc' := 29) rfl (hb hby own_d_prog_34_method_7_61) (by decide) (by decide) ?_
      refine XS.iload X418.here hx rfl (hb hby own_d_prog_34_method_7_29) rfl ?_
      show Steps p.tables e below (T418.setTop (mkF m 31 #[.val (.ref I), .val (.int (0 : Int32)), .val (.ref src), .val (.int off), .val (.int len), .val (.int (0 : Int32)), .val (.int ((0 : Int32) + (1 : Int32)))] [(.int ((0 : Int32) + (1 : Int32)))])) _
      refine XS.iload X418.here hx rfl (hb hby own_d_prog_34_method_7_31) rfl ?_
      refine XS.icmpYes X418.here hx rfl (pc0 := 33) (pc' := 64) rfl (hb hby own_d_prog_34_method_7_33) rfl (flt (show ¬ (((0 : Int32) + (1 : Int32)) < len) by rw [r]; decide)).2.1 (by decide) (by decide) ?_
      refine XS.iconst X418.here hx rfl (hb hby own_d_prog_34_method_7_64) ?_
      exact own_retZ X418 hx rfl Bd.returns (hb hby own_d_prog_34_method_7_65) hr
    · show rm_mat_Q Z I kA sA ck cs ks ss src cS x0 x1 x2 x3 l0 nd off len h0 n0 _ T418.heap _
      rw [e418]
      exact ⟨_, rfl, N0, rfl, Or.inr ⟨rfl, ee, Or.inr ⟨p0, Or.inl r⟩⟩⟩
  · obtain ⟨T421, X421, e421, st421⟩ := getF X0 hx hZ hown (host := "") (Or.inl (own_at hw 13 rfl)) Via.refl e0 dS (g := (mkF m 1 #[.val (.ref I), .val (.int (0 : Int32)), .val (.ref src), .val (.int off), .val (.int len), .unset, .unset] [(.ref I)])) rfl rfl (hb hby own_d_prog_34_method_7_1)
    obtain ⟨cl422, Ar422, q422, G422⟩ := id lS
    obtain ⟨T423, X423, e423, st423⟩ := getF X421 hx hZ hown (host := "") (Or.inl (own_at hw 13 rfl)) Via.refl e421 dS (g := (mkF m 9 #[.val (.ref I), .val (.int (0 : Int32)), .val (.ref src), .val (.int off), .val (.int len), .val (.int (0 : Int32)), .unset] [(.ref I)])) rfl rfl (hb hby own_d_prog_34_method_7_9)
    obtain ⟨cl424, Ar424, q424, G424⟩ := id lS
    obtain ⟨T425, X425, e425, st425⟩ := getF X423 hx hZ hown (host := "") (Or.inl (own_at hw 10 rfl)) Via.refl e423 dK (g := (mkF m 37 #[.val (.ref I), .val (.int (0 : Int32)), .val (.ref src), .val (.int off), .val (.int len), .val (.int (0 : Int32)), .val (.int (0 : Int32))] [(.ref I)])) rfl rfl (hb hby own_d_prog_34_method_7_37)
    obtain ⟨cl426, Ar426, q426, G426⟩ := id lK
    obtain ⟨cl427, Ar427, q427, G427⟩ := id Lx
    obtain ⟨fs, hr, hrun, hended, hW, hsame⟩ := X425.leave (v := some (.int (0 : Int32))) (fun h => by rw [Bd.returns] at h; cases h)
    refine ⟨_, _, pre0 _ ?_, hrun, hended, _, _, rfl, ?_, ⟨_, rfl⟩, hW, hsame.mono (by decide) (by decide)⟩
    · show Steps p.tables e below (s₁.setTop (mkF m 0 #[.val (.ref I), .val (.int (0 : Int32)), .val (.ref src), .val (.int off), .val (.int len), .unset, .unset] [])) _
      refine XS.aloadN X0.here hx rfl (hb hby own_d_prog_34_method_7_0) rfl rfl ?_
      refine st421 _ ?_
      refine XS.iloadN X421.here hx rfl (hb hby own_d_prog_34_method_7_4) rfl ?_
      refine X421.iaload hx (j := (0 : Int32)) (v := (.int (0 : Int32))) (by rw [e421]; exact Ar422.1) (State.isArrayOf_alike hZ.alike Ar422.2.1) Ar422.2.2 (own_inb G422 1024 hsl (by decide)) (own_get G422 hs0) (g := (mkF m 5 #[.val (.ref I), .val (.int (0 : Int32)), .val (.ref src), .val (.int off), .val (.int len), .unset, .unset] [(.int (0 : Int32)), (.ref sA)])) rfl rfl (hb hby own_d_prog_34_method_7_5) _ ?_
      show Steps p.tables e below (T421.setTop (mkF m 6 #[.val (.ref I), .val (.int (0 : Int32)), .val (.ref src), .val (.int off), .val (.int len), .unset, .unset] [(.int (0 : Int32))])) _
      refine XS.istore X421.here hx rfl (hb hby own_d_prog_34_method_7_6) rfl (l' := #[.val (.ref I), .val (.int (0 : Int32)), .val (.ref src), .val (.int off), .val (.int len), .val (.int (0 : Int32)), .unset]) rfl ?_
      refine XS.aloadN X421.here hx rfl (hb hby own_d_prog_34_method_7_8) rfl rfl ?_
      refine st423 _ ?_
      refine XS.iloadN X423.here hx rfl (hb hby own_d_prog_34_method_7_12) rfl ?_
      show Steps p.tables e below (T423.setTop (mkF m 13 #[.val (.ref I), .val (.int (0 : Int32)), .val (.ref src), .val (.int off), .val (.int len), .val (.int (0 : Int32)), .unset] [(.int (0 : Int32)), (.ref sA)])) _
      refine XS.iconst X423.here hx rfl (hb hby own_d_prog_34_method_7_13) ?_
      refine XS.iadd X423.here hx rfl (hb hby own_d_prog_34_method_7_14) rfl ?_
      refine X423.iaload hx (j := ((0 : Int32) + (1 : Int32))) (v := (.int l0)) (by rw [e423]; exact Ar424.1) (State.isArrayOf_alike hZ.alike Ar424.2.1) Ar424.2.2 (own_inb G424 1024 hsl (by decide)) (own_get G424 hs1) (g := (mkF m 15 #[.val (.ref I), .val (.int (0 : Int32)), .val (.ref src), .val (.int off), .val (.int len), .val (.int (0 : Int32)), .unset] [(.int ((0 : Int32) + (1 : Int32))), (.ref sA)])) rfl rfl (hb hby own_d_prog_34_method_7_15) _ ?_
      refine XS.iload X423.here hx rfl (hb hby own_d_prog_34_method_7_16) rfl ?_
      show Steps p.tables e below (T423.setTop (mkF m 18 #[.val (.ref I), .val (.int (0 : Int32)), .val (.ref src), .val (.int off), .val (.int len), .val (.int (0 : Int32)), .unset] [(.int (0 : Int32)), (.int l0)])) _
      refine XS.isub X423.here hx rfl (hb hby own_d_prog_34_method_7_18) rfl ?_
      show Steps p.tables e below (T423.setTop (mkF m 19 #[.val (.ref I), .val (.int (0 : Int32)), .val (.ref src), .val (.int off), .val (.int len), .val (.int (0 : Int32)), .unset] [(.int (l0 - (0 : Int32)))])) _
      rw [own_sub0 l0]
      refine XS.iload X423.here hx rfl (hb hby own_d_prog_34_method_7_19) rfl ?_
      refine XS.icmpYes X423.here hx rfl (pc0 := 21) (pc' := 26) rfl (hb hby own_d_prog_34_method_7_21) rfl (teq ee).1 (by decide) (by decide) ?_
      refine XS.iconst X423.here hx rfl (hb hby own_d_prog_34_method_7_26) ?_
      show Steps p.tables e below (T423.setTop (mkF m 27 #[.val (.ref I), .val (.int (0 : Int32)), .val (.ref src), .val (.int off), .val (.int len), .val (.int (0 : Int32)), .unset] [(.int (0 : Int32))])) _
      refine XS.istore X423.here hx rfl (hb hby own_d_prog_34_method_7_27) rfl (l' := #[.val (.ref I), .val (.int (0 : Int32)), .val (.ref src), .val (.int off), .val (.int len), .val (.int (0 : Int32)), .val (.int (0 : Int32))]) rfl ?_
      refine XS.iload X423.here hx rfl (hb hby own_d_prog_34_method_7_29) rfl ?_
      refine XS.iload X423.here hx rfl (hb hby own_d_prog_34_method_7_31) rfl ?_
      refine XS.icmpNo X423.here hx rfl (hb hby own_d_prog_34_method_7_33) rfl (tlt (show (0 : Int32) < len by rw [r]; decide)).2.1 ?_
      show Steps p.tables e below (T423.setTop (mkF m 36 #[.val (.ref I), .val (.int (0 : Int32)), .val (.ref src), .val (.int off), .val (.int len), .val (.int (0 : Int32)), .val (.int (0 : Int32))] [])) _
      refine XS.aloadN X423.here hx rfl (hb hby own_d_prog_34_method_7_36) rfl rfl ?_
      refine st425 _ ?_
      refine XS.iload X425.here hx rfl (hb hby own_d_prog_34_method_7_40) rfl ?_
      refine XS.iload X425.here hx rfl (hb hby own_d_prog_34_method_7_42) rfl ?_
      show Steps p.tables e below (T425.setTop (mkF m 44 #[.val (.ref I), .val (.int (0 : Int32)), .val (.ref src), .val (.int off), .val (.int len), .val (.int (0 : Int32)), .val (.int (0 : Int32))] [(.int (0 : Int32)), (.int (0 : Int32)), (.ref kA)])) _
      refine XS.iadd X425.here hx rfl (hb hby own_d_prog_34_method_7_44) rfl ?_
      refine X425.laload hx (j := ((0 : Int32) + (0 : Int32))) (v := (.long x0)) (by rw [e425]; exact Ar426.1) (State.isArrayOf_alike hZ.alike Ar426.2.1) Ar426.2.2 (own_inb G426 _ hkl (own_nin (j := ((0 : Int32) + (0 : Int32))) (i := 0) (by decide) (by decide) (own_nb1 hln (by decide)))) (own_get G426 hk0) (g := (mkF m 45 #[.val (.ref I), .val (.int (0 : Int32)), .val (.ref src), .val (.int off), .val (.int len), .val (.int (0 : Int32)), .val (.int (0 : Int32))] [(.int ((0 : Int32) + (0 : Int32))), (.ref kA)])) rfl rfl (hb hby own_d_prog_34_method_7_45) _ ?_
      refine XS.aloadN X425.here hx rfl (hb hby own_d_prog_34_method_7_46) rfl rfl ?_
      refine XS.iloadN X425.here hx rfl (hb hby own_d_prog_34_method_7_47) rfl ?_
      show Steps p.tables e below (T425.setTop (mkF m 48 #[.val (.ref I), .val (.int (0 : Int32)), .val (.ref src), .val (.int off), .val (.int len), .val (.int (0 : Int32)), .val (.int (0 : Int32))] [(.int off), (.ref src), (.long x0)])) _
      refine XS.iload X425.here hx rfl (hb hby own_d_prog_34_method_7_48) rfl ?_
      refine XS.iadd X425.here hx rfl (hb hby own_d_prog_34_method_7_50) rfl ?_
      refine X425.laload hx (j := (off + (0 : Int32))) (v := (.long x1)) (by rw [e425]; exact Ar427.1) (State.isArrayOf_alike hZ.alike Ar427.2.1) Ar427.2.2 (own_inb G427 4 rfl (show ¬ ((off + (0 : Int32)) < 0 ∨ 4 ≤ ((off + (0 : Int32))).toNatClampNeg) by rw [q]; decide)) (own_get G427 (by rw [q]; rfl)) (g := (mkF m 51 #[.val (.ref I), .val (.int (0 : Int32)), .val (.ref src), .val (.int off), .val (.int len), .val (.int (0 : Int32)), .val (.int (0 : Int32))] [(.int (off + (0 : Int32))), (.ref src), (.long x0)])) rfl rfl (hb hby own_d_prog_34_method_7_51) _ ?_
      refine XS.lcmp X425.here hx rfl (hb hby own_d_prog_34_method_7_52) rfl ?_
      show Steps p.tables e below (T425.setTop (mkF m 53 #[.val (.ref I), .val (.int (0 : Int32)), .val (.ref src), .val (.int off), .val (.int len), .val (.int (0 : Int32)), .val (.int (0 : Int32))] [(.int (lcmpW x0 x1))])) _
      refine XS.ifNo X425.here hx rfl (hb hby own_d_prog_34_method_7_53) rfl ((if0 _ _).trans (feq (fun z => p0 ((lw_eq _ _).mp z).symm)).1) ?_
      refine XS.iconst X425.here hx rfl (hb hby own_d_prog_34_method_7_56) ?_
      exact own_retZ X425 hx rfl Bd.returns (hb hby own_d_prog_34_method_7_57) hr
    · show rm_mat_Q Z I kA sA ck cs ks ss src cS x0 x1 x2 x3 l0 nd off len h0 n0 _ T425.heap _
      rw [e425]
      exact ⟨_, rfl, N0, rfl, Or.inl rfl⟩
  · obtain ⟨T428, X428, e428, st428⟩ := getF X0 hx hZ hown (host := "") (Or.inl (own_at hw 13 rfl)) Via.refl e0 dS (g := (mkF m 1 #[.val (.ref I), .val (.int (0 : Int32)), .val (.ref src), .val (.int off), .val (.int len), .unset, .unset] [(.ref I)])) rfl rfl (hb hby own_d_prog_34_method_7_1)
    obtain ⟨cl429, Ar429, q429, G429⟩ := id lS
    obtain ⟨T430, X430, e430, st430⟩ := getF X428 hx hZ hown (host := "") (Or.inl (own_at hw 13 rfl)) Via.refl e428 dS (g := (mkF m 9 #[.val (.ref I), .val (.int (0 : Int32)), .val (.ref src), .val (.int off), .val (.int len), .val (.int (0 : Int32)), .unset] [(.ref I)])) rfl rfl (hb hby own_d_prog_34_method_7_9)
    obtain ⟨cl431, Ar431, q431, G431⟩ := id lS
    obtain ⟨T432, X432, e432, st432⟩ := getF X430 hx hZ hown (host := "") (Or.inl (own_at hw 10 rfl)) Via.refl e430 dK (g := (mkF m 37 #[.val (.ref I), .val (.int (0 : Int32)), .val (.ref src), .val (.int off), .val (.int len), .val (.int (0 : Int32)), .val (.int (0 : Int32))] [(.ref I)])) rfl rfl (hb hby own_d_prog_34_method_7_37)
    obtain ⟨cl433, Ar433, q433, G433⟩ := id lK
    obtain ⟨cl434, Ar434, q434, G434⟩ := id Lx
    obtain ⟨T435, X435, e435, st435⟩ := getF X432 hx hZ hown (host := "") (Or.inl (own_at hw 10 rfl)) Via.refl e432 dK (g := (mkF m 37 #[.val (.ref I), .val (.int (0 : Int32)), .val (.ref src), .val (.int off), .val (.int len), .val (.int (0 : Int32)), .val (.int ((0 : Int32) + (1 : Int32)))] [(.ref I)])) rfl rfl (hb hby own_d_prog_34_method_7_37)
    obtain ⟨cl436, Ar436, q436, G436⟩ := id lK
    obtain ⟨cl437, Ar437, q437, G437⟩ := id Lx
    obtain ⟨fs, hr, hrun, hended, hW, hsame⟩ := X435.leave (v := some (.int (1 : Int32))) (fun h => by rw [Bd.returns] at h; cases h)
    refine ⟨_, _, pre0 _ ?_, hrun, hended, _, _, rfl, ?_, ⟨_, rfl⟩, hW, hsame.mono (by decide) (by decide)⟩
    · show Steps p.tables e below (s₁.setTop (mkF m 0 #[.val (.ref I), .val (.int (0 : Int32)), .val (.ref src), .val (.int off), .val (.int len), .unset, .unset] [])) _
      refine XS.aloadN X0.here hx rfl (hb hby own_d_prog_34_method_7_0) rfl rfl ?_
      refine st428 _ ?_
      refine XS.iloadN X428.here hx rfl (hb hby own_d_prog_34_method_7_4) rfl ?_
      refine X428.iaload hx (j := (0 : Int32)) (v := (.int (0 : Int32))) (by rw [e428]; exact Ar429.1) (State.isArrayOf_alike hZ.alike Ar429.2.1) Ar429.2.2 (own_inb G429 1024 hsl (by decide)) (own_get G429 hs0) (g := (mkF m 5 #[.val (.ref I), .val (.int (0 : Int32)), .val (.ref src), .val (.int off), .val (.int len), .unset, .unset] [(.int (0 : Int32)), (.ref sA)])) rfl rfl (hb hby own_d_prog_34_method_7_5) _ ?_
      show Steps p.tables e below (T428.setTop (mkF m 6 #[.val (.ref I), .val (.int (0 : Int32)), .val (.ref src), .val (.int off), .val (.int len), .unset, .unset] [(.int (0 : Int32))])) _
      refine XS.istore X428.here hx rfl (hb hby own_d_prog_34_method_7_6) rfl (l' := #[.val (.ref I), .val (.int (0 : Int32)), .val (.ref src), .val (.int off), .val (.int len), .val (.int (0 : Int32)), .unset]) rfl ?_
      refine XS.aloadN X428.here hx rfl (hb hby own_d_prog_34_method_7_8) rfl rfl ?_
      refine st430 _ ?_
      refine XS.iloadN X430.here hx rfl (hb hby own_d_prog_34_method_7_12) rfl ?_
      show Steps p.tables e below (T430.setTop (mkF m 13 #[.val (.ref I), .val (.int (0 : Int32)), .val (.ref src), .val (.int off), .val (.int len), .val (.int (0 : Int32)), .unset] [(.int (0 : Int32)), (.ref sA)])) _
      refine XS.iconst X430.here hx rfl (hb hby own_d_prog_34_method_7_13) ?_
      refine XS.iadd X430.here hx rfl (hb hby own_d_prog_34_method_7_14) rfl ?_
      refine X430.iaload hx (j := ((0 : Int32) + (1 : Int32))) (v := (.int l0)) (by rw [e430]; exact Ar431.1) (State.isArrayOf_alike hZ.alike Ar431.2.1) Ar431.2.2 (own_inb G431 1024 hsl (by decide)) (own_get G431 hs1) (g := (mkF m 15 #[.val (.ref I), .val (.int (0 : Int32)), .val (.ref src), .val (.int off), .val (.int len), .val (.int (0 : Int32)), .unset] [(.int ((0 : Int32) + (1 : Int32))), (.ref sA)])) rfl rfl (hb hby own_d_prog_34_method_7_15) _ ?_
      refine XS.iload X430.here hx rfl (hb hby own_d_prog_34_method_7_16) rfl ?_
      show Steps p.tables e below (T430.setTop (mkF m 18 #[.val (.ref I), .val (.int (0 : Int32)), .val (.ref src), .val (.int off), .val (.int len), .val (.int (0 : Int32)), .unset] [(.int (0 : Int32)), (.int l0)])) _
      refine XS.isub X430.here hx rfl (hb hby own_d_prog_34_method_7_18) rfl ?_
      show Steps p.tables e below (T430.setTop (mkF m 19 #[.val (.ref I), .val (.int (0 : Int32)), .val (.ref src), .val (.int off), .val (.int len), .val (.int (0 : Int32)), .unset] [(.int (l0 - (0 : Int32)))])) _
      rw [own_sub0 l0]
      refine XS.iload X430.here hx rfl (hb hby own_d_prog_34_method_7_19) rfl ?_
      refine XS.icmpYes X430.here hx rfl (pc0 := 21) (pc' := 26) rfl (hb hby own_d_prog_34_method_7_21) rfl (teq ee).1 (by decide) (by decide) ?_
      refine XS.iconst X430.here hx rfl (hb hby own_d_prog_34_method_7_26) ?_
      show Steps p.tables e below (T430.setTop (mkF m 27 #[.val (.ref I), .val (.int (0 : Int32)), .val (.ref src), .val (.int off), .val (.int len), .val (.int (0 : Int32)), .unset] [(.int (0 : Int32))])) _
      refine XS.istore X430.here hx rfl (hb hby own_d_prog_34_method_7_27) rfl (l' := #[.val (.ref I), .val (.int (0 : Int32)), .val (.ref src), .val (.int off), .val (.int len), .val (.int (0 : Int32)), .val (.int (0 : Int32))]) rfl ?_
      refine XS.iload X430.here hx rfl (hb hby own_d_prog_34_method_7_29) rfl ?_
      refine XS.iload X430.here hx rfl (hb hby own_d_prog_34_method_7_31) rfl ?_
      refine XS.icmpNo X430.here hx rfl (hb hby own_d_prog_34_method_7_33) rfl (tlt (show (0 : Int32) < len by rw [r]; decide)).2.1 ?_
      show Steps p.tables e below (T430.setTop (mkF m 36 #[.val (.ref I), .val (.int (0 : Int32)), .val (.ref src), .val (.int off), .val (.int len), .val (.int (0 : Int32)), .val (.int (0 : Int32))] [])) _
      refine XS.aloadN X430.here hx rfl (hb hby own_d_prog_34_method_7_36) rfl rfl ?_
      refine st432 _ ?_
      refine XS.iload X432.here hx rfl (hb hby own_d_prog_34_method_7_40) rfl ?_
      refine XS.iload X432.here hx rfl (hb hby own_d_prog_34_method_7_42) rfl ?_
      show Steps p.tables e below (T432.setTop (mkF m 44 #[.val (.ref I), .val (.int (0 : Int32)), .val (.ref src), .val (.int off), .val (.int len), .val (.int (0 : Int32)), .val (.int (0 : Int32))] [(.int (0 : Int32)), (.int (0 : Int32)), (.ref kA)])) _
      refine XS.iadd X432.here hx rfl (hb hby own_d_prog_34_method_7_44) rfl ?_
      refine X432.laload hx (j := ((0 : Int32) + (0 : Int32))) (v := (.long x0)) (by rw [e432]; exact Ar433.1) (State.isArrayOf_alike hZ.alike Ar433.2.1) Ar433.2.2 (own_inb G433 _ hkl (own_nin (j := ((0 : Int32) + (0 : Int32))) (i := 0) (by decide) (by decide) (own_nb1 hln (by decide)))) (own_get G433 hk0) (g := (mkF m 45 #[.val (.ref I), .val (.int (0 : Int32)), .val (.ref src), .val (.int off), .val (.int len), .val (.int (0 : Int32)), .val (.int (0 : Int32))] [(.int ((0 : Int32) + (0 : Int32))), (.ref kA)])) rfl rfl (hb hby own_d_prog_34_method_7_45) _ ?_
      refine XS.aloadN X432.here hx rfl (hb hby own_d_prog_34_method_7_46) rfl rfl ?_
      refine XS.iloadN X432.here hx rfl (hb hby own_d_prog_34_method_7_47) rfl ?_
      show Steps p.tables e below (T432.setTop (mkF m 48 #[.val (.ref I), .val (.int (0 : Int32)), .val (.ref src), .val (.int off), .val (.int len), .val (.int (0 : Int32)), .val (.int (0 : Int32))] [(.int off), (.ref src), (.long x0)])) _
      refine XS.iload X432.here hx rfl (hb hby own_d_prog_34_method_7_48) rfl ?_
      refine XS.iadd X432.here hx rfl (hb hby own_d_prog_34_method_7_50) rfl ?_
      refine X432.laload hx (j := (off + (0 : Int32))) (v := (.long x1)) (by rw [e432]; exact Ar434.1) (State.isArrayOf_alike hZ.alike Ar434.2.1) Ar434.2.2 (own_inb G434 4 rfl (show ¬ ((off + (0 : Int32)) < 0 ∨ 4 ≤ ((off + (0 : Int32))).toNatClampNeg) by rw [q]; decide)) (own_get G434 (by rw [q]; rfl)) (g := (mkF m 51 #[.val (.ref I), .val (.int (0 : Int32)), .val (.ref src), .val (.int off), .val (.int len), .val (.int (0 : Int32)), .val (.int (0 : Int32))] [(.int (off + (0 : Int32))), (.ref src), (.long x0)])) rfl rfl (hb hby own_d_prog_34_method_7_51) _ ?_
      refine XS.lcmp X432.here hx rfl (hb hby own_d_prog_34_method_7_52) rfl ?_
      show Steps p.tables e below (T432.setTop (mkF m 53 #[.val (.ref I), .val (.int (0 : Int32)), .val (.ref src), .val (.int off), .val (.int len), .val (.int (0 : Int32)), .val (.int (0 : Int32))] [(.int (lcmpW x0 x1))])) _
      refine XS.ifYes X432.here hx rfl (pc0 := 53) (pc' := 58) rfl (hb hby own_d_prog_34_method_7_53) rfl ((if0 _ _).trans (teq ((lw_eq _ _).mpr p0.symm)).1) (by decide) (by decide) ?_
      refine XS.iinc X432.here hx rfl (hb hby own_d_prog_34_method_7_58) rfl (l' := #[.val (.ref I), .val (.int (0 : Int32)), .val (.ref src), .val (.int off), .val (.int len), .val (.int (0 : Int32)), .val (.int ((0 : Int32) + (1 : Int32)))]) rfl ?_
      refine XS.goto X432.here hx rfl (pc0 := 61) (pc' := 29) rfl (hb hby own_d_prog_34_method_7_61) (by decide) (by decide) ?_
      refine XS.iload X432.here hx rfl (hb hby own_d_prog_34_method_7_29) rfl ?_
      show Steps p.tables e below (T432.setTop (mkF m 31 #[.val (.ref I), .val (.int (0 : Int32)), .val (.ref src), .val (.int off), .val (.int len), .val (.int (0 : Int32)), .val (.int ((0 : Int32) + (1 : Int32)))] [(.int ((0 : Int32) + (1 : Int32)))])) _
      refine XS.iload X432.here hx rfl (hb hby own_d_prog_34_method_7_31) rfl ?_
      refine XS.icmpNo X432.here hx rfl (hb hby own_d_prog_34_method_7_33) rfl (tlt (show ((0 : Int32) + (1 : Int32)) < len by rw [r]; decide)).2.1 ?_
      refine XS.aloadN X432.here hx rfl (hb hby own_d_prog_34_method_7_36) rfl rfl ?_
      refine st435 _ ?_
      show Steps p.tables e below (T435.setTop (mkF m 40 #[.val (.ref I), .val (.int (0 : Int32)), .val (.ref src), .val (.int off), .val (.int len), .val (.int (0 : Int32)), .val (.int ((0 : Int32) + (1 : Int32)))] [(.ref kA)])) _
      refine XS.iload X435.here hx rfl (hb hby own_d_prog_34_method_7_40) rfl ?_
      refine XS.iload X435.here hx rfl (hb hby own_d_prog_34_method_7_42) rfl ?_
      refine XS.iadd X435.here hx rfl (hb hby own_d_prog_34_method_7_44) rfl ?_
      refine X435.laload hx (j := ((0 : Int32) + ((0 : Int32) + (1 : Int32)))) (v := (.long x1)) (by rw [e435]; exact Ar436.1) (State.isArrayOf_alike hZ.alike Ar436.2.1) Ar436.2.2 (own_inb G436 _ hkl (own_nin (j := ((0 : Int32) + ((0 : Int32) + (1 : Int32)))) (i := 1) (by decide) (by decide) (own_nb1 hln (by decide)))) (own_get G436 (hk1 (by rw [ee, r]; decide))) (g := (mkF m 45 #[.val (.ref I), .val (.int (0 : Int32)), .val (.ref src), .val (.int off), .val (.int len), .val (.int (0 : Int32)), .val (.int ((0 : Int32) + (1 : Int32)))] [(.int ((0 : Int32) + ((0 : Int32) + (1 : Int32)))), (.ref kA)])) rfl rfl (hb hby own_d_prog_34_method_7_45) _ ?_
      show Steps p.tables e below (T435.setTop (mkF m 46 #[.val (.ref I), .val (.int (0 : Int32)), .val (.ref src), .val (.int off), .val (.int len), .val (.int (0 : Int32)), .val (.int ((0 : Int32) + (1 : Int32)))] [(.long x1)])) _
      refine XS.aloadN X435.here hx rfl (hb hby own_d_prog_34_method_7_46) rfl rfl ?_
      refine XS.iloadN X435.here hx rfl (hb hby own_d_prog_34_method_7_47) rfl ?_
      refine XS.iload X435.here hx rfl (hb hby own_d_prog_34_method_7_48) rfl ?_
      refine XS.iadd X435.here hx rfl (hb hby own_d_prog_34_method_7_50) rfl ?_
      show Steps p.tables e below (T435.setTop (mkF m 51 #[.val (.ref I), .val (.int (0 : Int32)), .val (.ref src), .val (.int off), .val (.int len), .val (.int (0 : Int32)), .val (.int ((0 : Int32) + (1 : Int32)))] [(.int (off + ((0 : Int32) + (1 : Int32)))), (.ref src), (.long x1)])) _
      refine X435.laload hx (j := (off + ((0 : Int32) + (1 : Int32)))) (v := (.long x2)) (by rw [e435]; exact Ar437.1) (State.isArrayOf_alike hZ.alike Ar437.2.1) Ar437.2.2 (own_inb G437 4 rfl (show ¬ ((off + ((0 : Int32) + (1 : Int32))) < 0 ∨ 4 ≤ ((off + ((0 : Int32) + (1 : Int32)))).toNatClampNeg) by rw [q]; decide)) (own_get G437 (by rw [q]; rfl)) (g := (mkF m 51 #[.val (.ref I), .val (.int (0 : Int32)), .val (.ref src), .val (.int off), .val (.int len), .val (.int (0 : Int32)), .val (.int ((0 : Int32) + (1 : Int32)))] [(.int (off + ((0 : Int32) + (1 : Int32)))), (.ref src), (.long x1)])) rfl rfl (hb hby own_d_prog_34_method_7_51) _ ?_
      refine XS.lcmp X435.here hx rfl (hb hby own_d_prog_34_method_7_52) rfl ?_
      refine XS.ifYes X435.here hx rfl (pc0 := 53) (pc' := 58) rfl (hb hby own_d_prog_34_method_7_53) rfl ((if0 _ _).trans (teq ((lw_eq _ _).mpr p1.symm)).1) (by decide) (by decide) ?_
      refine XS.iinc X435.here hx rfl (hb hby own_d_prog_34_method_7_58) rfl (l' := #[.val (.ref I), .val (.int (0 : Int32)), .val (.ref src), .val (.int off), .val (.int len), .val (.int (0 : Int32)), .val (.int (((0 : Int32) + (1 : Int32)) + (1 : Int32)))]) rfl ?_
      show Steps p.tables e below (T435.setTop (mkF m 61 #[.val (.ref I), .val (.int (0 : Int32)), .val (.ref src), .val (.int off), .val (.int len), .val (.int (0 : Int32)), .val (.int (((0 : Int32) + (1 : Int32)) + (1 : Int32)))] [])) _
      refine XS.goto X435.here hx rfl (pc0 := 61) (pc' := 29) rfl (hb hby own_d_prog_34_method_7_61) (by decide) (by decide) ?_
      refine XS.iload X435.here hx rfl (hb hby own_d_prog_34_method_7_29) rfl ?_
      refine XS.iload X435.here hx rfl (hb hby own_d_prog_34_method_7_31) rfl ?_
      refine XS.icmpYes X435.here hx rfl (pc0 := 33) (pc' := 64) rfl (hb hby own_d_prog_34_method_7_33) rfl (flt (show ¬ ((((0 : Int32) + (1 : Int32)) + (1 : Int32)) < len) by rw [r]; decide)).2.1 (by decide) (by decide) ?_
      show Steps p.tables e below (T435.setTop (mkF m 64 #[.val (.ref I), .val (.int (0 : Int32)), .val (.ref src), .val (.int off), .val (.int len), .val (.int (0 : Int32)), .val (.int (((0 : Int32) + (1 : Int32)) + (1 : Int32)))] [])) _
      refine XS.iconst X435.here hx rfl (hb hby own_d_prog_34_method_7_64) ?_
      exact own_retZ X435 hx rfl Bd.returns (hb hby own_d_prog_34_method_7_65) hr
    · show rm_mat_Q Z I kA sA ck cs ks ss src cS x0 x1 x2 x3 l0 nd off len h0 n0 _ T435.heap _
      rw [e435]
      exact ⟨_, rfl, N0, rfl, Or.inr ⟨rfl, ee, Or.inr ⟨p0, Or.inr p1⟩⟩⟩
  · obtain ⟨T438, X438, e438, st438⟩ := getF X0 hx hZ hown (host := "") (Or.inl (own_at hw 13 rfl)) Via.refl e0 dS (g := (mkF m 1 #[.val (.ref I), .val (.int (0 : Int32)), .val (.ref src), .val (.int off), .val (.int len), .unset, .unset] [(.ref I)])) rfl rfl (hb hby own_d_prog_34_method_7_1)
    obtain ⟨cl439, Ar439, q439, G439⟩ := id lS
    obtain ⟨T440, X440, e440, st440⟩ := getF X438 hx hZ hown (host := "") (Or.inl (own_at hw 13 rfl)) Via.refl e438 dS (g := (mkF m 9 #[.val (.ref I), .val (.int (0 : Int32)), .val (.ref src), .val (.int off), .val (.int len), .val (.int (0 : Int32)), .unset] [(.ref I)])) rfl rfl (hb hby own_d_prog_34_method_7_9)
    obtain ⟨cl441, Ar441, q441, G441⟩ := id lS
    obtain ⟨T442, X442, e442, st442⟩ := getF X440 hx hZ hown (host := "") (Or.inl (own_at hw 10 rfl)) Via.refl e440 dK (g := (mkF m 37 #[.val (.ref I), .val (.int (0 : Int32)), .val (.ref src), .val (.int off), .val (.int len), .val (.int (0 : Int32)), .val (.int (0 : Int32))] [(.ref I)])) rfl rfl (hb hby own_d_prog_34_method_7_37)
    obtain ⟨cl443, Ar443, q443, G443⟩ := id lK
    obtain ⟨cl444, Ar444, q444, G444⟩ := id Lx
    obtain ⟨T445, X445, e445, st445⟩ := getF X442 hx hZ hown (host := "") (Or.inl (own_at hw 10 rfl)) Via.refl e442 dK (g := (mkF m 37 #[.val (.ref I), .val (.int (0 : Int32)), .val (.ref src), .val (.int off), .val (.int len), .val (.int (0 : Int32)), .val (.int ((0 : Int32) + (1 : Int32)))] [(.ref I)])) rfl rfl (hb hby own_d_prog_34_method_7_37)
    obtain ⟨cl446, Ar446, q446, G446⟩ := id lK
    obtain ⟨cl447, Ar447, q447, G447⟩ := id Lx
    obtain ⟨fs, hr, hrun, hended, hW, hsame⟩ := X445.leave (v := some (.int (0 : Int32))) (fun h => by rw [Bd.returns] at h; cases h)
    refine ⟨_, _, pre0 _ ?_, hrun, hended, _, _, rfl, ?_, ⟨_, rfl⟩, hW, hsame.mono (by decide) (by decide)⟩
    · show Steps p.tables e below (s₁.setTop (mkF m 0 #[.val (.ref I), .val (.int (0 : Int32)), .val (.ref src), .val (.int off), .val (.int len), .unset, .unset] [])) _
      refine XS.aloadN X0.here hx rfl (hb hby own_d_prog_34_method_7_0) rfl rfl ?_
      refine st438 _ ?_
      refine XS.iloadN X438.here hx rfl (hb hby own_d_prog_34_method_7_4) rfl ?_
      refine X438.iaload hx (j := (0 : Int32)) (v := (.int (0 : Int32))) (by rw [e438]; exact Ar439.1) (State.isArrayOf_alike hZ.alike Ar439.2.1) Ar439.2.2 (own_inb G439 1024 hsl (by decide)) (own_get G439 hs0) (g := (mkF m 5 #[.val (.ref I), .val (.int (0 : Int32)), .val (.ref src), .val (.int off), .val (.int len), .unset, .unset] [(.int (0 : Int32)), (.ref sA)])) rfl rfl (hb hby own_d_prog_34_method_7_5) _ ?_
      show Steps p.tables e below (T438.setTop (mkF m 6 #[.val (.ref I), .val (.int (0 : Int32)), .val (.ref src), .val (.int off), .val (.int len), .unset, .unset] [(.int (0 : Int32))])) _
      refine XS.istore X438.here hx rfl (hb hby own_d_prog_34_method_7_6) rfl (l' := #[.val (.ref I), .val (.int (0 : Int32)), .val (.ref src), .val (.int off), .val (.int len), .val (.int (0 : Int32)), .unset]) rfl ?_
      refine XS.aloadN X438.here hx rfl (hb hby own_d_prog_34_method_7_8) rfl rfl ?_
      refine st440 _ ?_
      refine XS.iloadN X440.here hx rfl (hb hby own_d_prog_34_method_7_12) rfl ?_
      show Steps p.tables e below (T440.setTop (mkF m 13 #[.val (.ref I), .val (.int (0 : Int32)), .val (.ref src), .val (.int off), .val (.int len), .val (.int (0 : Int32)), .unset] [(.int (0 : Int32)), (.ref sA)])) _
      refine XS.iconst X440.here hx rfl (hb hby own_d_prog_34_method_7_13) ?_
      refine XS.iadd X440.here hx rfl (hb hby own_d_prog_34_method_7_14) rfl ?_
      refine X440.iaload hx (j := ((0 : Int32) + (1 : Int32))) (v := (.int l0)) (by rw [e440]; exact Ar441.1) (State.isArrayOf_alike hZ.alike Ar441.2.1) Ar441.2.2 (own_inb G441 1024 hsl (by decide)) (own_get G441 hs1) (g := (mkF m 15 #[.val (.ref I), .val (.int (0 : Int32)), .val (.ref src), .val (.int off), .val (.int len), .val (.int (0 : Int32)), .unset] [(.int ((0 : Int32) + (1 : Int32))), (.ref sA)])) rfl rfl (hb hby own_d_prog_34_method_7_15) _ ?_
      refine XS.iload X440.here hx rfl (hb hby own_d_prog_34_method_7_16) rfl ?_
      show Steps p.tables e below (T440.setTop (mkF m 18 #[.val (.ref I), .val (.int (0 : Int32)), .val (.ref src), .val (.int off), .val (.int len), .val (.int (0 : Int32)), .unset] [(.int (0 : Int32)), (.int l0)])) _
      refine XS.isub X440.here hx rfl (hb hby own_d_prog_34_method_7_18) rfl ?_
      show Steps p.tables e below (T440.setTop (mkF m 19 #[.val (.ref I), .val (.int (0 : Int32)), .val (.ref src), .val (.int off), .val (.int len), .val (.int (0 : Int32)), .unset] [(.int (l0 - (0 : Int32)))])) _
      rw [own_sub0 l0]
      refine XS.iload X440.here hx rfl (hb hby own_d_prog_34_method_7_19) rfl ?_
      refine XS.icmpYes X440.here hx rfl (pc0 := 21) (pc' := 26) rfl (hb hby own_d_prog_34_method_7_21) rfl (teq ee).1 (by decide) (by decide) ?_
      refine XS.iconst X440.here hx rfl (hb hby own_d_prog_34_method_7_26) ?_
      show Steps p.tables e below (T440.setTop (mkF m 27 #[.val (.ref I), .val (.int (0 : Int32)), .val (.ref src), .val (.int off), .val (.int len), .val (.int (0 : Int32)), .unset] [(.int (0 : Int32))])) _
      refine XS.istore X440.here hx rfl (hb hby own_d_prog_34_method_7_27) rfl (l' := #[.val (.ref I), .val (.int (0 : Int32)), .val (.ref src), .val (.int off), .val (.int len), .val (.int (0 : Int32)), .val (.int (0 : Int32))]) rfl ?_
      refine XS.iload X440.here hx rfl (hb hby own_d_prog_34_method_7_29) rfl ?_
      refine XS.iload X440.here hx rfl (hb hby own_d_prog_34_method_7_31) rfl ?_
      refine XS.icmpNo X440.here hx rfl (hb hby own_d_prog_34_method_7_33) rfl (tlt (show (0 : Int32) < len by rw [r]; decide)).2.1 ?_
      show Steps p.tables e below (T440.setTop (mkF m 36 #[.val (.ref I), .val (.int (0 : Int32)), .val (.ref src), .val (.int off), .val (.int len), .val (.int (0 : Int32)), .val (.int (0 : Int32))] [])) _
      refine XS.aloadN X440.here hx rfl (hb hby own_d_prog_34_method_7_36) rfl rfl ?_
      refine st442 _ ?_
      refine XS.iload X442.here hx rfl (hb hby own_d_prog_34_method_7_40) rfl ?_
      refine XS.iload X442.here hx rfl (hb hby own_d_prog_34_method_7_42) rfl ?_
      show Steps p.tables e below (T442.setTop (mkF m 44 #[.val (.ref I), .val (.int (0 : Int32)), .val (.ref src), .val (.int off), .val (.int len), .val (.int (0 : Int32)), .val (.int (0 : Int32))] [(.int (0 : Int32)), (.int (0 : Int32)), (.ref kA)])) _
      refine XS.iadd X442.here hx rfl (hb hby own_d_prog_34_method_7_44) rfl ?_
      refine X442.laload hx (j := ((0 : Int32) + (0 : Int32))) (v := (.long x0)) (by rw [e442]; exact Ar443.1) (State.isArrayOf_alike hZ.alike Ar443.2.1) Ar443.2.2 (own_inb G443 _ hkl (own_nin (j := ((0 : Int32) + (0 : Int32))) (i := 0) (by decide) (by decide) (own_nb1 hln (by decide)))) (own_get G443 hk0) (g := (mkF m 45 #[.val (.ref I), .val (.int (0 : Int32)), .val (.ref src), .val (.int off), .val (.int len), .val (.int (0 : Int32)), .val (.int (0 : Int32))] [(.int ((0 : Int32) + (0 : Int32))), (.ref kA)])) rfl rfl (hb hby own_d_prog_34_method_7_45) _ ?_
      refine XS.aloadN X442.here hx rfl (hb hby own_d_prog_34_method_7_46) rfl rfl ?_
      refine XS.iloadN X442.here hx rfl (hb hby own_d_prog_34_method_7_47) rfl ?_
      show Steps p.tables e below (T442.setTop (mkF m 48 #[.val (.ref I), .val (.int (0 : Int32)), .val (.ref src), .val (.int off), .val (.int len), .val (.int (0 : Int32)), .val (.int (0 : Int32))] [(.int off), (.ref src), (.long x0)])) _
      refine XS.iload X442.here hx rfl (hb hby own_d_prog_34_method_7_48) rfl ?_
      refine XS.iadd X442.here hx rfl (hb hby own_d_prog_34_method_7_50) rfl ?_
      refine X442.laload hx (j := (off + (0 : Int32))) (v := (.long x1)) (by rw [e442]; exact Ar444.1) (State.isArrayOf_alike hZ.alike Ar444.2.1) Ar444.2.2 (own_inb G444 4 rfl (show ¬ ((off + (0 : Int32)) < 0 ∨ 4 ≤ ((off + (0 : Int32))).toNatClampNeg) by rw [q]; decide)) (own_get G444 (by rw [q]; rfl)) (g := (mkF m 51 #[.val (.ref I), .val (.int (0 : Int32)), .val (.ref src), .val (.int off), .val (.int len), .val (.int (0 : Int32)), .val (.int (0 : Int32))] [(.int (off + (0 : Int32))), (.ref src), (.long x0)])) rfl rfl (hb hby own_d_prog_34_method_7_51) _ ?_
      refine XS.lcmp X442.here hx rfl (hb hby own_d_prog_34_method_7_52) rfl ?_
      show Steps p.tables e below (T442.setTop (mkF m 53 #[.val (.ref I), .val (.int (0 : Int32)), .val (.ref src), .val (.int off), .val (.int len), .val (.int (0 : Int32)), .val (.int (0 : Int32))] [(.int (lcmpW x0 x1))])) _
      refine XS.ifYes X442.here hx rfl (pc0 := 53) (pc' := 58) rfl (hb hby own_d_prog_34_method_7_53) rfl ((if0 _ _).trans (teq ((lw_eq _ _).mpr p0.symm)).1) (by decide) (by decide) ?_
      refine XS.iinc X442.here hx rfl (hb hby own_d_prog_34_method_7_58) rfl (l' := #[.val (.ref I), .val (.int (0 : Int32)), .val (.ref src), .val (.int off), .val (.int len), .val (.int (0 : Int32)), .val (.int ((0 : Int32) + (1 : Int32)))]) rfl ?_
      refine XS.goto X442.here hx rfl (pc0 := 61) (pc' := 29) rfl (hb hby own_d_prog_34_method_7_61) (by decide) (by decide) ?_
      refine XS.iload X442.here hx rfl (hb hby own_d_prog_34_method_7_29) rfl ?_
      show Steps p.tables e below (T442.setTop (mkF m 31 #[.val (.ref I), .val (.int (0 : Int32)), .val (.ref src), .val (.int off), .val (.int len), .val (.int (0 : Int32)), .val (.int ((0 : Int32) + (1 : Int32)))] [(.int ((0 : Int32) + (1 : Int32)))])) _
      refine XS.iload X442.here hx rfl (hb hby own_d_prog_34_method_7_31) rfl ?_
      refine XS.icmpNo X442.here hx rfl (hb hby own_d_prog_34_method_7_33) rfl (tlt (show ((0 : Int32) + (1 : Int32)) < len by rw [r]; decide)).2.1 ?_
      refine XS.aloadN X442.here hx rfl (hb hby own_d_prog_34_method_7_36) rfl rfl ?_
      refine st445 _ ?_
      show Steps p.tables e below (T445.setTop (mkF m 40 #[.val (.ref I), .val (.int (0 : Int32)), .val (.ref src), .val (.int off), .val (.int len), .val (.int (0 : Int32)), .val (.int ((0 : Int32) + (1 : Int32)))] [(.ref kA)])) _
      refine XS.iload X445.here hx rfl (hb hby own_d_prog_34_method_7_40) rfl ?_
      refine XS.iload X445.here hx rfl (hb hby own_d_prog_34_method_7_42) rfl ?_
      refine XS.iadd X445.here hx rfl (hb hby own_d_prog_34_method_7_44) rfl ?_
      refine X445.laload hx (j := ((0 : Int32) + ((0 : Int32) + (1 : Int32)))) (v := (.long x1)) (by rw [e445]; exact Ar446.1) (State.isArrayOf_alike hZ.alike Ar446.2.1) Ar446.2.2 (own_inb G446 _ hkl (own_nin (j := ((0 : Int32) + ((0 : Int32) + (1 : Int32)))) (i := 1) (by decide) (by decide) (own_nb1 hln (by decide)))) (own_get G446 (hk1 (by rw [ee, r]; decide))) (g := (mkF m 45 #[.val (.ref I), .val (.int (0 : Int32)), .val (.ref src), .val (.int off), .val (.int len), .val (.int (0 : Int32)), .val (.int ((0 : Int32) + (1 : Int32)))] [(.int ((0 : Int32) + ((0 : Int32) + (1 : Int32)))), (.ref kA)])) rfl rfl (hb hby own_d_prog_34_method_7_45) _ ?_
      show Steps p.tables e below (T445.setTop (mkF m 46 #[.val (.ref I), .val (.int (0 : Int32)), .val (.ref src), .val (.int off), .val (.int len), .val (.int (0 : Int32)), .val (.int ((0 : Int32) + (1 : Int32)))] [(.long x1)])) _
      refine XS.aloadN X445.here hx rfl (hb hby own_d_prog_34_method_7_46) rfl rfl ?_
      refine XS.iloadN X445.here hx rfl (hb hby own_d_prog_34_method_7_47) rfl ?_
      refine XS.iload X445.here hx rfl (hb hby own_d_prog_34_method_7_48) rfl ?_
      refine XS.iadd X445.here hx rfl (hb hby own_d_prog_34_method_7_50) rfl ?_
      show Steps p.tables e below (T445.setTop (mkF m 51 #[.val (.ref I), .val (.int (0 : Int32)), .val (.ref src), .val (.int off), .val (.int len), .val (.int (0 : Int32)), .val (.int ((0 : Int32) + (1 : Int32)))] [(.int (off + ((0 : Int32) + (1 : Int32)))), (.ref src), (.long x1)])) _
      refine X445.laload hx (j := (off + ((0 : Int32) + (1 : Int32)))) (v := (.long x2)) (by rw [e445]; exact Ar447.1) (State.isArrayOf_alike hZ.alike Ar447.2.1) Ar447.2.2 (own_inb G447 4 rfl (show ¬ ((off + ((0 : Int32) + (1 : Int32))) < 0 ∨ 4 ≤ ((off + ((0 : Int32) + (1 : Int32)))).toNatClampNeg) by rw [q]; decide)) (own_get G447 (by rw [q]; rfl)) (g := (mkF m 51 #[.val (.ref I), .val (.int (0 : Int32)), .val (.ref src), .val (.int off), .val (.int len), .val (.int (0 : Int32)), .val (.int ((0 : Int32) + (1 : Int32)))] [(.int (off + ((0 : Int32) + (1 : Int32)))), (.ref src), (.long x1)])) rfl rfl (hb hby own_d_prog_34_method_7_51) _ ?_
      refine XS.lcmp X445.here hx rfl (hb hby own_d_prog_34_method_7_52) rfl ?_
      refine XS.ifNo X445.here hx rfl (hb hby own_d_prog_34_method_7_53) rfl ((if0 _ _).trans (feq (fun z => p1 ((lw_eq _ _).mp z).symm)).1) ?_
      refine XS.iconst X445.here hx rfl (hb hby own_d_prog_34_method_7_56) ?_
      show Steps p.tables e below (T445.setTop (mkF m 57 #[.val (.ref I), .val (.int (0 : Int32)), .val (.ref src), .val (.int off), .val (.int len), .val (.int (0 : Int32)), .val (.int ((0 : Int32) + (1 : Int32)))] [(.int (0 : Int32))])) _
      exact own_retZ X445 hx rfl Bd.returns (hb hby own_d_prog_34_method_7_57) hr
    · show rm_mat_Q Z I kA sA ck cs ks ss src cS x0 x1 x2 x3 l0 nd off len h0 n0 _ T445.heap _
      rw [e445]
      exact ⟨_, rfl, N0, rfl, Or.inl rfl⟩
  · obtain ⟨T448, X448, e448, st448⟩ := getF X0 hx hZ hown (host := "") (Or.inl (own_at hw 13 rfl)) Via.refl e0 dS (g := (mkF m 1 #[.val (.ref I), .val (.int (0 : Int32)), .val (.ref src), .val (.int off), .val (.int len), .unset, .unset] [(.ref I)])) rfl rfl (hb hby own_d_prog_34_method_7_1)
    obtain ⟨cl449, Ar449, q449, G449⟩ := id lS
    obtain ⟨T450, X450, e450, st450⟩ := getF X448 hx hZ hown (host := "") (Or.inl (own_at hw 13 rfl)) Via.refl e448 dS (g := (mkF m 9 #[.val (.ref I), .val (.int (0 : Int32)), .val (.ref src), .val (.int off), .val (.int len), .val (.int (0 : Int32)), .unset] [(.ref I)])) rfl rfl (hb hby own_d_prog_34_method_7_9)
    obtain ⟨cl451, Ar451, q451, G451⟩ := id lS
    obtain ⟨T452, X452, e452, st452⟩ := getF X450 hx hZ hown (host := "") (Or.inl (own_at hw 10 rfl)) Via.refl e450 dK (g := (mkF m 37 #[.val (.ref I), .val (.int (0 : Int32)), .val (.ref src), .val (.int off), .val (.int len), .val (.int (0 : Int32)), .val (.int (0 : Int32))] [(.ref I)])) rfl rfl (hb hby own_d_prog_34_method_7_37)
    obtain ⟨cl453, Ar453, q453, G453⟩ := id lK
    obtain ⟨cl454, Ar454, q454, G454⟩ := id Lx
    obtain ⟨fs, hr, hrun, hended, hW, hsame⟩ := X452.leave (v := some (.int (0 : Int32))) (fun h => by rw [Bd.returns] at h; cases h)
    refine ⟨_, _, pre0 _ ?_, hrun, hended, _, _, rfl, ?_, ⟨_, rfl⟩, hW, hsame.mono (by decide) (by decide)⟩
    · show Steps p.tables e below (s₁.setTop (mkF m 0 #[.val (.ref I), .val (.int (0 : Int32)), .val (.ref src), .val (.int off), .val (.int len), .unset, .unset] [])) _
      refine XS.aloadN X0.here hx rfl (hb hby own_d_prog_34_method_7_0) rfl rfl ?_
      refine st448 _ ?_
      refine XS.iloadN X448.here hx rfl (hb hby own_d_prog_34_method_7_4) rfl ?_
      refine X448.iaload hx (j := (0 : Int32)) (v := (.int (0 : Int32))) (by rw [e448]; exact Ar449.1) (State.isArrayOf_alike hZ.alike Ar449.2.1) Ar449.2.2 (own_inb G449 1024 hsl (by decide)) (own_get G449 hs0) (g := (mkF m 5 #[.val (.ref I), .val (.int (0 : Int32)), .val (.ref src), .val (.int off), .val (.int len), .unset, .unset] [(.int (0 : Int32)), (.ref sA)])) rfl rfl (hb hby own_d_prog_34_method_7_5) _ ?_
      show Steps p.tables e below (T448.setTop (mkF m 6 #[.val (.ref I), .val (.int (0 : Int32)), .val (.ref src), .val (.int off), .val (.int len), .unset, .unset] [(.int (0 : Int32))])) _
      refine XS.istore X448.here hx rfl (hb hby own_d_prog_34_method_7_6) rfl (l' := #[.val (.ref I), .val (.int (0 : Int32)), .val (.ref src), .val (.int off), .val (.int len), .val (.int (0 : Int32)), .unset]) rfl ?_
      refine XS.aloadN X448.here hx rfl (hb hby own_d_prog_34_method_7_8) rfl rfl ?_
      refine st450 _ ?_
      refine XS.iloadN X450.here hx rfl (hb hby own_d_prog_34_method_7_12) rfl ?_
      show Steps p.tables e below (T450.setTop (mkF m 13 #[.val (.ref I), .val (.int (0 : Int32)), .val (.ref src), .val (.int off), .val (.int len), .val (.int (0 : Int32)), .unset] [(.int (0 : Int32)), (.ref sA)])) _
      refine XS.iconst X450.here hx rfl (hb hby own_d_prog_34_method_7_13) ?_
      refine XS.iadd X450.here hx rfl (hb hby own_d_prog_34_method_7_14) rfl ?_
      refine X450.iaload hx (j := ((0 : Int32) + (1 : Int32))) (v := (.int l0)) (by rw [e450]; exact Ar451.1) (State.isArrayOf_alike hZ.alike Ar451.2.1) Ar451.2.2 (own_inb G451 1024 hsl (by decide)) (own_get G451 hs1) (g := (mkF m 15 #[.val (.ref I), .val (.int (0 : Int32)), .val (.ref src), .val (.int off), .val (.int len), .val (.int (0 : Int32)), .unset] [(.int ((0 : Int32) + (1 : Int32))), (.ref sA)])) rfl rfl (hb hby own_d_prog_34_method_7_15) _ ?_
      refine XS.iload X450.here hx rfl (hb hby own_d_prog_34_method_7_16) rfl ?_
      show Steps p.tables e below (T450.setTop (mkF m 18 #[.val (.ref I), .val (.int (0 : Int32)), .val (.ref src), .val (.int off), .val (.int len), .val (.int (0 : Int32)), .unset] [(.int (0 : Int32)), (.int l0)])) _
      refine XS.isub X450.here hx rfl (hb hby own_d_prog_34_method_7_18) rfl ?_
      show Steps p.tables e below (T450.setTop (mkF m 19 #[.val (.ref I), .val (.int (0 : Int32)), .val (.ref src), .val (.int off), .val (.int len), .val (.int (0 : Int32)), .unset] [(.int (l0 - (0 : Int32)))])) _
      rw [own_sub0 l0]
      refine XS.iload X450.here hx rfl (hb hby own_d_prog_34_method_7_19) rfl ?_
      refine XS.icmpYes X450.here hx rfl (pc0 := 21) (pc' := 26) rfl (hb hby own_d_prog_34_method_7_21) rfl (teq ee).1 (by decide) (by decide) ?_
      refine XS.iconst X450.here hx rfl (hb hby own_d_prog_34_method_7_26) ?_
      show Steps p.tables e below (T450.setTop (mkF m 27 #[.val (.ref I), .val (.int (0 : Int32)), .val (.ref src), .val (.int off), .val (.int len), .val (.int (0 : Int32)), .unset] [(.int (0 : Int32))])) _
      refine XS.istore X450.here hx rfl (hb hby own_d_prog_34_method_7_27) rfl (l' := #[.val (.ref I), .val (.int (0 : Int32)), .val (.ref src), .val (.int off), .val (.int len), .val (.int (0 : Int32)), .val (.int (0 : Int32))]) rfl ?_
      refine XS.iload X450.here hx rfl (hb hby own_d_prog_34_method_7_29) rfl ?_
      refine XS.iload X450.here hx rfl (hb hby own_d_prog_34_method_7_31) rfl ?_
      refine XS.icmpNo X450.here hx rfl (hb hby own_d_prog_34_method_7_33) rfl (tlt (show (0 : Int32) < len by rw [r]; decide)).2.1 ?_
      show Steps p.tables e below (T450.setTop (mkF m 36 #[.val (.ref I), .val (.int (0 : Int32)), .val (.ref src), .val (.int off), .val (.int len), .val (.int (0 : Int32)), .val (.int (0 : Int32))] [])) _
      refine XS.aloadN X450.here hx rfl (hb hby own_d_prog_34_method_7_36) rfl rfl ?_
      refine st452 _ ?_
      refine XS.iload X452.here hx rfl (hb hby own_d_prog_34_method_7_40) rfl ?_
      refine XS.iload X452.here hx rfl (hb hby own_d_prog_34_method_7_42) rfl ?_
      show Steps p.tables e below (T452.setTop (mkF m 44 #[.val (.ref I), .val (.int (0 : Int32)), .val (.ref src), .val (.int off), .val (.int len), .val (.int (0 : Int32)), .val (.int (0 : Int32))] [(.int (0 : Int32)), (.int (0 : Int32)), (.ref kA)])) _
      refine XS.iadd X452.here hx rfl (hb hby own_d_prog_34_method_7_44) rfl ?_
      refine X452.laload hx (j := ((0 : Int32) + (0 : Int32))) (v := (.long x0)) (by rw [e452]; exact Ar453.1) (State.isArrayOf_alike hZ.alike Ar453.2.1) Ar453.2.2 (own_inb G453 _ hkl (own_nin (j := ((0 : Int32) + (0 : Int32))) (i := 0) (by decide) (by decide) (own_nb1 hln (by decide)))) (own_get G453 hk0) (g := (mkF m 45 #[.val (.ref I), .val (.int (0 : Int32)), .val (.ref src), .val (.int off), .val (.int len), .val (.int (0 : Int32)), .val (.int (0 : Int32))] [(.int ((0 : Int32) + (0 : Int32))), (.ref kA)])) rfl rfl (hb hby own_d_prog_34_method_7_45) _ ?_
      refine XS.aloadN X452.here hx rfl (hb hby own_d_prog_34_method_7_46) rfl rfl ?_
      refine XS.iloadN X452.here hx rfl (hb hby own_d_prog_34_method_7_47) rfl ?_
      show Steps p.tables e below (T452.setTop (mkF m 48 #[.val (.ref I), .val (.int (0 : Int32)), .val (.ref src), .val (.int off), .val (.int len), .val (.int (0 : Int32)), .val (.int (0 : Int32))] [(.int off), (.ref src), (.long x0)])) _
      refine XS.iload X452.here hx rfl (hb hby own_d_prog_34_method_7_48) rfl ?_
      refine XS.iadd X452.here hx rfl (hb hby own_d_prog_34_method_7_50) rfl ?_
      refine X452.laload hx (j := (off + (0 : Int32))) (v := (.long x1)) (by rw [e452]; exact Ar454.1) (State.isArrayOf_alike hZ.alike Ar454.2.1) Ar454.2.2 (own_inb G454 4 rfl (show ¬ ((off + (0 : Int32)) < 0 ∨ 4 ≤ ((off + (0 : Int32))).toNatClampNeg) by rw [q]; decide)) (own_get G454 (by rw [q]; rfl)) (g := (mkF m 51 #[.val (.ref I), .val (.int (0 : Int32)), .val (.ref src), .val (.int off), .val (.int len), .val (.int (0 : Int32)), .val (.int (0 : Int32))] [(.int (off + (0 : Int32))), (.ref src), (.long x0)])) rfl rfl (hb hby own_d_prog_34_method_7_51) _ ?_
      refine XS.lcmp X452.here hx rfl (hb hby own_d_prog_34_method_7_52) rfl ?_
      show Steps p.tables e below (T452.setTop (mkF m 53 #[.val (.ref I), .val (.int (0 : Int32)), .val (.ref src), .val (.int off), .val (.int len), .val (.int (0 : Int32)), .val (.int (0 : Int32))] [(.int (lcmpW x0 x1))])) _
      refine XS.ifNo X452.here hx rfl (hb hby own_d_prog_34_method_7_53) rfl ((if0 _ _).trans (feq (fun z => p0 ((lw_eq _ _).mp z).symm)).1) ?_
      refine XS.iconst X452.here hx rfl (hb hby own_d_prog_34_method_7_56) ?_
      exact own_retZ X452 hx rfl Bd.returns (hb hby own_d_prog_34_method_7_57) hr
    · show rm_mat_Q Z I kA sA ck cs ks ss src cS x0 x1 x2 x3 l0 nd off len h0 n0 _ T452.heap _
      rw [e452]
      exact ⟨_, rfl, N0, rfl, Or.inl rfl⟩
theorem rm_ix1_ef (m : MethodId) (x0 : Addr) (x1 : Addr) (x2 : Int32) (x3 : Int32) : entryFrame m #[(.ref x0), (.ref x1), (.int x2), (.int x3)] 10 = mkF m 0 #[.val (.ref x0), .val (.ref x1), .val (.int x2), .val (.int x3), .unset, .unset, .unset, .unset, .unset, .unset] [] := by first | (simp [entryFrame, mkF, argsToLocals, Value.category]; done) | rfl
def rm_ix1_Q (Z : State) (I : Addr) (kA : Addr) (sA : Addr) (tA : Addr) (bs : Addr) (wA : Addr) (ck : ClassId) (cs : ClassId) (ct : ClassId) (cw : ClassId) (ts : List Value) (sea : Int32) (wiu : Int32) (ww : Int64) (src : Addr) (cS : ClassId) (x0 : Int64) (x1 : Int64) (x2 : Int64) (x3 : Int64) (l0 : Int32) (nd : Int32) (h0 : Heap) (n0 : Nat) (v : Option Value) (h : Heap) (L : List Loc) : Prop := ∃ (kB : Addr) (cB : ClassId) (tsB : List Value) (seB wiB : Int32) (wwB : Int64), v = some (.int (0 : Int32)) ∧ Fr n0 L ∧ Keep h0 h [I, sA, tA, bs, wA] ∧ h0.size ≤ kB ∧ OwnIdx Z h I kB sA tA bs wA cB cs ct cw (own_cp (List.replicate nd.toNatClampNeg (.long (0 : Int64))) [.long x0, .long x1, .long x2, .long x3] (0 : Int32).toNatClampNeg (0 : Int32).toNatClampNeg l0.toNatClampNeg) (List.set (List.replicate 1024 (.int (0 : Int32))) ((0 : Int32) + (1 : Int32)).toNatClampNeg (.int l0)) tsB ((0 : Int32) + (1 : Int32)) seB wiB wwB ∧ OwnNe I kB sA tA bs wA ∧ OwnTs tsB ∧ (wiB = (0 : Int32) ∨ wiB = (1 : Int32)) ∧ (seB = (0 : Int32) ∨ seB = (1 : Int32))
set_option maxRecDepth 65536 in
set_option maxHeartbeats 40000000 in
theorem rm_ix1 (l : Launch) (Z : State) (a0 : Array Value) (hw : ∀ d ∈ tables_1, d.before a0 Z = true) (ws : List Jvm.Cond) (I : Addr) (kA : Addr) (sA : Addr) (tA : Addr) (bs : Addr) (wA : Addr) (ck : ClassId) (cs : ClassId) (ct : ClassId) (cw : ClassId) (ts : List Value) (sea : Int32) (wiu : Int32) (ww : Int64) (src : Addr) (cS : ClassId) (x0 : Int64) (x1 : Int64) (x2 : Int64) (x3 : Int64) (l0 : Int32) (nd : Int32) (h0 : Heap) (n0 : Nat) (Z0 : n0 ≤ h0.size) (OL : Old Z n0 h0) (D : OwnIdx Z h0 I kA sA tA bs wA ck cs ct cw [] (List.replicate 1024 (.int (0 : Int32))) ts (0 : Int32) sea wiu ww) (NE : OwnNe I kA sA tA bs wA) (GE : OwnGe n0 I kA sA tA bs wA) (Lx : OwnLst Z h0 src .long cS [.long x0, .long x1, .long x2, .long x3]) (NS : OwnNs src I kA sA tA bs wA) (hln : (l0 = (1 : Int32) ∧ nd = (1024 : Int32)) ∨ (l0 = (2 : Int32) ∧ nd = (2048 : Int32)) ∨ (l0 = (3 : Int32) ∧ nd = (3072 : Int32))) (hwiu : wiu = (0 : Int32) ∨ wiu = (1 : Int32)) (hts : ts = (List.replicate 2048 (.int (-1 : Int32)))) (hsea : sea = (0 : Int32)) :
    MetFree l (⟨"com/example/orbitfold/orbitfold/StateIndex", "indexOf", "([JII)I"⟩ : MethodName) (head1 (Jvm.Cond.code (⟨"com/example/orbitfold/orbitfold/StateIndex", "indexOf", "([JII)I"⟩ : MethodName) prog_34_method_2_code 10 (some .int) :: ws) ({ frames := 3, cells := 1, slots := 3072, locals := 53 } : Room)) (fun a₀ U₀ => a₀ = #[(.ref I), (.ref src), (.int (0 : Int32)), (.int l0)] ∧ Z.Warmed39 U₀.vm ∧ U₀.heap = h0) (fun _ _ _ _ _ => True) (fun _ U₀ o₀ U₁ => ∃ v₀ L₀, o₀ = .returned v₀ ∧ rm_ix1_Q Z I kA sA tA bs wA ck cs ct cw ts sea wiu ww src cS x0 x1 x2 x3 l0 nd h0 n0 v₀ U₁.heap L₀ ∧ FrameEnd U₀ o₀ U₁ L₀ ({ frames := 3, cells := 1, slots := 3072, locals := 53 } : Room).cells ({ frames := 3, cells := 1, slots := 3072, locals := 53 } : Room).slots) := by
  refine MetFree.of_bodySF (plainFor_of_name own_pn4) hisR ?_
  intro p e s m args below meth c s₁ Bd hml0 hP hK
  obtain ⟨rfl, hZ, hh⟩ := hP
  have hx := Bd.exec
  have hby := Bd.bytes
  have hml : c.maxLocals = 10 := hml0
  have hown : s.vm.findClass "com/example/orbitfold/orbitfold/StateIndex" = some m.cls := findClass_of_methodNamed Bd.named
  have hnm := (name_of_methodNamed Bd.named Bd.method).1
  have X0 : Stand p l e ({ frames := 3, cells := 1, slots := 3072, locals := 53 } : Room) s m #[(.ref I), (.ref src), (.int (0 : Int32)), (.int l0)] below meth c s₁ [] 0 0 := Stand.of_body Bd
  have e0 : s₁.heap = h0 := by rw [← hh, Bd.state]; rfl
  have N0 := Fr.nil n0
  have pre0 : ∀ t, Steps p.tables e below (s₁.setTop (mkF m 0 #[.val (.ref I), .val (.ref src), .val (.int (0 : Int32)), .val (.int l0), .unset, .unset, .unset, .unset, .unset, .unset] [])) t → Steps p.tables e below (s₁.setTop (entryFrame m #[(.ref I), (.ref src), (.int (0 : Int32)), (.int l0)] 10)) t := fun t kk₀ => castTop (rm_ix1_ef m I src (0 : Int32) l0) kk₀
  obtain ⟨dE, dK, dS, dT, dB, dZ, dR, bE, bW, bY, bO, lK, lS, lT, lW⟩ := id D
  obtain ⟨ne_I_kA, ne_I_sA, ne_I_tA, ne_I_bs, ne_I_wA, ne_kA_sA, ne_kA_tA, ne_kA_bs, ne_kA_wA, ne_sA_tA, ne_sA_bs, ne_sA_wA, ne_tA_bs, ne_tA_wA, ne_bs_wA⟩ := id NE
  obtain ⟨g_I, g_kA, g_sA, g_tA, g_bs, g_wA⟩ := id GE
  obtain ⟨ns_I, ns_kA, ns_sA, ns_tA, ns_bs, ns_wA⟩ := id NS
  have htl : ts.length = 2048 := by rw [hts, List.length_replicate]
  obtain ⟨T455, X455, e455, st455⟩ := getF X0 hx hZ hown (host := "") (Or.inl (own_at hw 22 rfl)) Via.refl e0 dT (g := (mkF m 1 #[.val (.ref I), .val (.ref src), .val (.int (0 : Int32)), .val (.int l0), .unset, .unset, .unset, .unset, .unset, .unset] [(.ref I)])) rfl rfl (hb hby own_d_prog_34_method_2_1)
  obtain ⟨cl456, Ar456, q456, G456⟩ := id lT
  obtain ⟨_, _, ⟨T457, L457, k457, n457⟩, -, X457, ⟨Lc457, hQ457, l457, y457, z457⟩, st457⟩ := Jvm.LawKit.callS X455 hx (y := (⟨"com/example/orbitfold/orbitfold/StateIndex", "hash", "([JII)J"⟩ : MethodName)) hown (mvT hZ (own_at hw 52 rfl)) (mvT hZ (own_at hw 53 rfl)) (mvT hZ (own_at hw 3 rfl)) (mvT hZ (own_at hw 54 rfl)) (by decide) (backOf (W := 0) (rm_hash l Z a0 hw [] src cS x0 x1 x2 x3 (0 : Int32) l0 h0 n0 Z0 Lx (own_hol5 hln)) hZ (own_at hw 54 rfl) (own_at hw 3 rfl) (by decide) (by decide)) (g := (mkF m 12 #[.val (.ref I), .val (.ref src), .val (.int (0 : Int32)), .val (.int l0), .val (.int ((2048 : Int32) - (1 : Int32))), .unset, .unset, .unset, .unset, .unset] [(.int l0), (.int (0 : Int32)), (.ref src)])) rfl (by rw [hml]; rfl) (argsL := [(.ref src), (.int (0 : Int32)), (.int l0)]) (rest := []) (lenOf own_pd10 rfl) rfl (by show 2 * 0 + _ ≤ _; exact Nat.le_of_eq rfl) (hb hby own_d_prog_34_method_2_12) (fun _ _ => ⟨rfl, e455, (by decide : 0 + 0 ≤ _), (by decide : 0 + 0 ≤ _)⟩)
  dsimp only [Pt.U, Pt.locs, Pt.cells, Pt.slots] at X457 l457 y457 z457 st457 hQ457
  subst l457 y457 z457
  obtain ⟨hv457, rfl, Nq457, eh457⟩ := hQ457
  have N457 := Fr.app N0 Nq457
  obtain ⟨cq458, q458, q458'⟩ := dE.cell
  obtain ⟨_, _, ⟨T458, L458, k458, n458⟩, -, X458, ⟨Lc458, hQ458, l458, y458, z458⟩, st458⟩ := X457.privateBack hx (y := (⟨"com/example/orbitfold/orbitfold/StateIndex", "tagOf", "(J)I"⟩ : MethodName)) hown (mvT hZ (own_at hw 56 rfl)) (mvT hZ (own_at hw 57 rfl)) (own_selp hZ (own_at hw 2 rfl) (own_at hw 58 rfl) (own_at hw 57 rfl) (by decide)) (Cond.privateMethod_at (mvP hZ (own_at hw 58 rfl) (args := #[]))) (mvT hZ (own_at hw 59 rfl)) (by decide) (backOf (W := 0) (rm_tag l Z a0 hw [] I hv457 tA ct ts h0 n0 Z0 dT lT htl) hZ (own_at hw 59 rfl) (own_at hw 3 rfl) (by decide) (by decide)) (g := (mkF m 20 #[.val (.ref I), .val (.ref src), .val (.int (0 : Int32)), .val (.int l0), .val (.int ((2048 : Int32) - (1 : Int32))), .val (.long hv457), .second, .unset, .unset, .unset] [(.long hv457), (.ref I)])) rfl (by rw [hml]; rfl) (Steps.refl _) (a := I) (by rw [eh457]; exact q458) q458' (argsL := [(.long hv457)]) (rest := []) (lenOf own_pd5 rfl) rfl (by show 2 * 0 + _ ≤ _; exact Nat.le_of_eq rfl) (hb hby own_d_prog_34_method_2_20) (fun _ _ => ⟨rfl, eh457, (by decide : 0 + 0 ≤ _), (by decide : 0 + 0 ≤ _)⟩)
  dsimp only [Pt.U, Pt.locs, Pt.cells, Pt.slots] at X458 l458 y458 z458 st458 hQ458
  subst l458 y458 z458
  obtain ⟨tv458, rfl, Nq458, eh458, ht458⟩ := hQ458
  have N458 := Fr.app N457 Nq458
  obtain ⟨cq459, q459, q459'⟩ := dE.cell
  obtain ⟨_, _, ⟨T459, L459, k459, n459⟩, -, X459, ⟨Lc459, hQ459, l459, y459, z459⟩, st459⟩ := X458.privateBack hx (y := (⟨"com/example/orbitfold/orbitfold/StateIndex", "slotOf", "(J)I"⟩ : MethodName)) hown (mvT hZ (own_at hw 69 rfl)) (mvT hZ (own_at hw 70 rfl)) (own_selp hZ (own_at hw 2 rfl) (own_at hw 71 rfl) (own_at hw 70 rfl) (by decide)) (Cond.privateMethod_at (mvP hZ (own_at hw 71 rfl) (args := #[]))) (mvT hZ (own_at hw 72 rfl)) (by decide) (backOf (W := 0) (rm_slot l Z a0 hw [] I hv457 tA ct ts h0 n0 Z0 dT lT htl) hZ (own_at hw 72 rfl) (own_at hw 3 rfl) (by decide) (by decide)) (g := (mkF m 28 #[.val (.ref I), .val (.ref src), .val (.int (0 : Int32)), .val (.int l0), .val (.int ((2048 : Int32) - (1 : Int32))), .val (.long hv457), .second, .val (.int tv458), .unset, .unset] [(.long hv457), (.ref I)])) rfl (by rw [hml]; rfl) (Steps.refl _) (a := I) (by rw [eh458]; exact q459) q459' (argsL := [(.long hv457)]) (rest := []) (lenOf own_pd5 rfl) rfl (by show 2 * 0 + _ ≤ _; exact Nat.le_of_eq rfl) (hb hby own_d_prog_34_method_2_28) (fun _ _ => ⟨rfl, eh458, (by decide : 0 + 0 ≤ _), (by decide : 0 + 0 ≤ _)⟩)
  dsimp only [Pt.U, Pt.locs, Pt.cells, Pt.slots] at X459 l459 y459 z459 st459 hQ459
  subst l459 y459 z459
  obtain ⟨sv459, rfl, Nq459, eh459, hsa459, hsb459⟩ := hQ459
  have N459 := Fr.app N458 Nq459
  obtain ⟨T460, X460, e460, st460⟩ := getF X459 hx hZ hown (host := "") (Or.inl (own_at hw 22 rfl)) Via.refl eh459 dT (g := (mkF m 34 #[.val (.ref I), .val (.ref src), .val (.int (0 : Int32)), .val (.int l0), .val (.int ((2048 : Int32) - (1 : Int32))), .val (.long hv457), .second, .val (.int tv458), .val (.int sv459), .unset] [(.ref I)])) rfl rfl (hb hby own_d_prog_34_method_2_34)
  obtain ⟨cl461, Ar461, q461, G461⟩ := id lT
  obtain ⟨cq462, q462, q462'⟩ := dE.cell
  obtain ⟨_, _, ⟨T462, L462, k462, n462⟩, -, X462, ⟨Lc462, hQ462, l462, y462, z462⟩, st462⟩ := X460.privateBack hx (y := (⟨"com/example/orbitfold/orbitfold/StateIndex", "keep", "([JII)I"⟩ : MethodName)) hown (mvT hZ (own_at hw 73 rfl)) (mvT hZ (own_at hw 74 rfl)) (own_selp hZ (own_at hw 2 rfl) (own_at hw 75 rfl) (own_at hw 74 rfl) (by decide)) (Cond.privateMethod_at (mvP hZ (own_at hw 75 rfl) (args := #[]))) (mvT hZ (own_at hw 76 rfl)) (by decide) (backOf (W := 0) (rm_keep1 l Z a0 hw [] I kA sA tA bs wA ck cs ct cw ts sea wiu ww src cS x0 x1 x2 x3 l0 nd h0 n0 Z0 OL D NE GE Lx NS hln) hZ (own_at hw 76 rfl) (own_at hw 3 rfl) (by decide) (by decide)) (g := (mkF m 100 #[.val (.ref I), .val (.ref src), .val (.int (0 : Int32)), .val (.int l0), .val (.int ((2048 : Int32) - (1 : Int32))), .val (.long hv457), .second, .val (.int tv458), .val (.int sv459), .unset] [(.int l0), (.int (0 : Int32)), (.ref src), (.ref I)])) rfl (by rw [hml]; rfl) (Steps.refl _) (a := I) (by rw [e460]; exact q462) q462' (argsL := [(.ref src), (.int (0 : Int32)), (.int l0)]) (rest := []) (lenOf own_pd9 rfl) rfl (by show 2 * 0 + _ ≤ _; exact Nat.le_of_eq rfl) (hb hby own_d_prog_34_method_2_100) (fun _ _ => ⟨rfl, e460, (by decide : 0 + 1 ≤ _), (by decide : 0 + 3072 ≤ _)⟩)
  dsimp only [Pt.U, Pt.locs, Pt.cells, Pt.slots] at X462 l462 y462 z462 st462 hQ462
  subst l462 y462 z462
  obtain ⟨kB462, cB462, rfl, Nq462, K462, le462, D462, NE462⟩ := hQ462
  have N462 := Fr.app N459 Nq462
  have ne_I_kB462 : I ≠ kB462 := own_ne_le dE.lt le462
  have ne_bs_kB462 : bs ≠ kB462 := own_ne_le bE.lt le462
  have ne_kA_kB462 : kA ≠ kB462 := own_ne_le lK.lt le462
  have ne_sA_kB462 : sA ≠ kB462 := own_ne_le lS.lt le462
  have ne_tA_kB462 : tA ≠ kB462 := own_ne_le lT.lt le462
  have ne_wA_kB462 : wA ≠ kB462 := own_ne_le lW.lt le462
  have ne_src_kB462 : src ≠ kB462 := own_ne_le Lx.lt le462
  have sz_kB462 : h0.size ≤ kB462 := Nat.le_trans (Nat.le_refl _) le462
  have gn_kB462 : n0 ≤ kB462 := Nat.le_trans Z0 sz_kB462
  obtain ⟨i462_0, i462_1, i462_2, i462_3, i462_4, i462_5, i462_6, i462_7, i462_8, i462_9, i462_10, i462_11, i462_12, i462_13, i462_14⟩ := id D462
  have f463 := Lx.keep K462 (by simp [ns_I, ns_sA])
  have OL462 := OL.keep K462 (fun x hx => by
    simp only [List.mem_cons, List.not_mem_nil, or_false] at hx
    rcases hx with rfl | rfl
    · exact g_I
    · exact g_sA)
  have KP462 : Keep h0 T462.heap [I, sA, tA, bs, wA] := (Keep.refl _ _).trans K462 (fun x hx => by
    simp only [List.mem_cons, List.not_mem_nil, or_false] at hx
    rcases hx with rfl | rfl
    · exact Or.inl (by simp)
    · exact Or.inl (by simp))
  obtain ⟨T464, X464, e464, st464⟩ := getF X462 hx hZ hown (host := "") (Or.inl (own_at hw 22 rfl)) Via.refl rfl i462_3 (g := (mkF m 106 #[.val (.ref I), .val (.ref src), .val (.int (0 : Int32)), .val (.int l0), .val (.int ((2048 : Int32) - (1 : Int32))), .val (.long hv457), .second, .val (.int tv458), .val (.int sv459), .val (.int (0 : Int32))] [(.ref I)])) rfl rfl (hb hby own_d_prog_34_method_2_106)
  obtain ⟨cl466, Ar466, q466, G466⟩ := id i462_13
  obtain ⟨T466, h466, X466, e466, W466, st466⟩ := stI X464 hx hZ e464 Ar466 (j := sv459) (own_inb G466 2048 htl (own_svin hsa459 hsb459)) (g := (mkF m 119 #[.val (.ref I), .val (.ref src), .val (.int (0 : Int32)), .val (.int l0), .val (.int ((2048 : Int32) - (1 : Int32))), .val (.long hv457), .second, .val (.int tv458), .val (.int sv459), .val (.int (0 : Int32))] [(.int ((0 : Int32) ||| (tv458 <<< ((29 : Int32) &&& 31)))), (.int sv459), (.ref tA)])) rfl rfl (hb hby own_d_prog_34_method_2_119)
  have N466 := Fr.snoc X466 N462 g_tA
  have v465 := own_lst_set Ar466 q466 G466 W466
  have f467 := f463.other W466 ns_tA
  have f468 := i462_0.wr W466
  have f469 := i462_1.other W466 (Or.inl ne_I_tA)
  have f470 := i462_2.other W466 (Or.inl ne_I_tA)
  have f471 := i462_3.other W466 (Or.inl ne_I_tA)
  have f472 := i462_4.other W466 (Or.inl ne_I_tA)
  have f473 := i462_5.other W466 (Or.inl ne_I_tA)
  have f474 := i462_6.other W466 (Or.inl ne_I_tA)
  have f475 := i462_7.wr W466
  have f476 := i462_8.other W466 (Or.inl (Ne.symm ne_tA_bs))
  have f477 := i462_9.other W466 (Or.inl (Ne.symm ne_tA_bs))
  have f478 := i462_10.other W466 (Or.inl (Ne.symm ne_tA_bs))
  have f479 := i462_11.other W466 (Ne.symm ne_tA_kB462)
  have f480 := i462_12.other W466 ne_sA_tA
  have f481 : OwnLst Z h466 tA .int ct (List.set ts sv459.toNatClampNeg (.int ((0 : Int32) ||| (tv458 <<< ((29 : Int32) &&& 31))))) := v465
  have f482 := i462_14.other W466 (Ne.symm ne_tA_wA)
  have OL466 := OL462.wr W466 g_tA
  have KP466 : Keep h0 h466 [I, sA, tA, bs, wA] := KP462.wr W466 (Or.inl (by simp))
  obtain ⟨T483, X483, e483, st483⟩ := getF X466 hx hZ hown (host := "") (Or.inl (own_at hw 109 rfl)) Via.refl e466 f474 (g := (mkF m 122 #[.val (.ref I), .val (.ref src), .val (.int (0 : Int32)), .val (.int l0), .val (.int ((2048 : Int32) - (1 : Int32))), .val (.long hv457), .second, .val (.int tv458), .val (.int sv459), .val (.int (0 : Int32))] [(.ref I), (.ref I)])) rfl rfl (hb hby own_d_prog_34_method_2_122)
  obtain ⟨T484, h484, X484, e484, W484, st484⟩ := putF X483 hx hZ hown (host := "") (Or.inl (own_at hw 109 rfl)) Via.refl e483 f474 f468 (Or.inl (own_at hw 110 rfl)) (own_at hw 2 rfl) (ty := .int) (by decide) rfl rfl (g := (mkF m 127 #[.val (.ref I), .val (.ref src), .val (.int (0 : Int32)), .val (.int l0), .val (.int ((2048 : Int32) - (1 : Int32))), .val (.long hv457), .second, .val (.int tv458), .val (.int sv459), .val (.int (0 : Int32))] [(.int (sea + (1 : Int32))), (.ref I)])) rfl rfl (hb hby own_d_prog_34_method_2_127)
  have N484 := Fr.snoc X484 N466 g_I
  have f485 := f467.other W484 ns_I
  have f486 := f468.wr W484
  have f487 := f469.other W484 (Or.inr (slot_ne (Or.inl (own_at hw 11 rfl)) (Or.inl (own_at hw 110 rfl)) (by decide) (t := (.array .long)) (t' := .int) (by decide) (by decide)))
  have f488 := f470.other W484 (Or.inr (slot_ne (Or.inl (own_at hw 14 rfl)) (Or.inl (own_at hw 110 rfl)) (by decide) (t := (.array .int)) (t' := .int) (by decide) (by decide)))
  have f489 := f471.other W484 (Or.inr (slot_ne (Or.inl (own_at hw 23 rfl)) (Or.inl (own_at hw 110 rfl)) (by decide) (t := (.array .int)) (t' := .int) (by decide) (by decide)))
  have f490 := f472.other W484 (Or.inr (slot_ne (Or.inr (own_at hw 46 rfl)) (Or.inl (own_at hw 110 rfl)) (by decide) (t := (.object "java/util/BitSet")) (t' := .int) (by decide) (by decide)))
  have f491 := f473.other W484 (Or.inr (slot_ne (Or.inl (own_at hw 78 rfl)) (Or.inl (own_at hw 110 rfl)) (by decide) (t := .int) (t' := .int) (by decide) (by decide)))
  have f492 : Fld Z h484 I "com/example/orbitfold/orbitfold/StateIndex" "searchable" "I" (.int (sea + (1 : Int32))) := f474.same W484
  have f493 := f475.wr W484
  have f494 := f476.other W484 (Or.inl (Ne.symm ne_I_bs))
  have f495 := f477.other W484 (Or.inl (Ne.symm ne_I_bs))
  have f496 := f478.other W484 (Or.inl (Ne.symm ne_I_bs))
  have f497 := f479.other W484 (Ne.symm ne_I_kB462)
  have f498 := f480.other W484 (Ne.symm ne_I_sA)
  have f499 := f481.other W484 (Ne.symm ne_I_tA)
  have f500 := f482.other W484 (Ne.symm ne_I_wA)
  have OL484 := OL466.wr W484 g_I
  have KP484 : Keep h0 h484 [I, sA, tA, bs, wA] := KP466.wr W484 (Or.inl (by simp))
  obtain ⟨T501, X501, e501, st501⟩ := getF X484 hx hZ hown (host := "") (Or.inl (own_at hw 109 rfl)) Via.refl e484 f492 (g := (mkF m 134 #[.val (.ref I), .val (.ref src), .val (.int (0 : Int32)), .val (.int l0), .val (.int ((2048 : Int32) - (1 : Int32))), .val (.long hv457), .second, .val (.int tv458), .val (.int sv459), .val (.int (0 : Int32))] [(.ref I), (.long (2 : Int64))])) rfl rfl (hb hby own_d_prog_34_method_2_134)
  obtain ⟨T502, X502, e502, st502⟩ := getF X501 hx hZ hown (host := "") (Or.inl (own_at hw 22 rfl)) Via.refl e501 f489 (g := (mkF m 140 #[.val (.ref I), .val (.ref src), .val (.int (0 : Int32)), .val (.int l0), .val (.int ((2048 : Int32) - (1 : Int32))), .val (.long hv457), .second, .val (.int tv458), .val (.int sv459), .val (.int (0 : Int32))] [(.ref I), (.long ((2 : Int64) * ((sea + (1 : Int32)).toInt64)))])) rfl rfl (hb hby own_d_prog_34_method_2_140)
  obtain ⟨cl503, Ar503, q503, G503⟩ := id f499
  obtain ⟨fs, hr, hrun, hended, hW, hsame⟩ := X502.leave (v := some (.int (0 : Int32))) (fun h => by rw [Bd.returns] at h; cases h)
  refine ⟨_, _, pre0 _ ?_, hrun, hended, _, _, rfl, ?_, ⟨_, rfl⟩, hW, hsame.mono (by decide) (by decide)⟩
  · show Steps p.tables e below (s₁.setTop (mkF m 0 #[.val (.ref I), .val (.ref src), .val (.int (0 : Int32)), .val (.int l0), .unset, .unset, .unset, .unset, .unset, .unset] [])) _
    refine XS.aloadN X0.here hx rfl (hb hby own_d_prog_34_method_2_0) rfl rfl ?_
    refine st455 _ ?_
    refine X455.arraylength hx (cell := cl456) (by rw [e455]; exact Ar456.1) (State.isArrayOf_alike hZ.alike Ar456.2.1) (g := (mkF m 4 #[.val (.ref I), .val (.ref src), .val (.int (0 : Int32)), .val (.int l0), .unset, .unset, .unset, .unset, .unset, .unset] [(.ref tA)])) rfl (rest := []) rfl (hb hby own_d_prog_34_method_2_4) _ ?_
    rw [own_len (z := (2048 : Int32)) G456 (by rw [htl]; decide)]
    show Steps p.tables e below (T455.setTop (mkF m 5 #[.val (.ref I), .val (.ref src), .val (.int (0 : Int32)), .val (.int l0), .unset, .unset, .unset, .unset, .unset, .unset] [(.int (2048 : Int32))])) _
    refine XS.iconst X455.here hx rfl (hb hby own_d_prog_34_method_2_5) ?_
    refine XS.isub X455.here hx rfl (hb hby own_d_prog_34_method_2_6) rfl ?_
    refine XS.istore X455.here hx rfl (hb hby own_d_prog_34_method_2_7) rfl (l' := #[.val (.ref I), .val (.ref src), .val (.int (0 : Int32)), .val (.int l0), .val (.int ((2048 : Int32) - (1 : Int32))), .unset, .unset, .unset, .unset, .unset]) rfl ?_
    refine XS.aloadN X455.here hx rfl (hb hby own_d_prog_34_method_2_9) rfl rfl ?_
    show Steps p.tables e below (T455.setTop (mkF m 10 #[.val (.ref I), .val (.ref src), .val (.int (0 : Int32)), .val (.int l0), .val (.int ((2048 : Int32) - (1 : Int32))), .unset, .unset, .unset, .unset, .unset] [(.ref src)])) _
    refine XS.iloadN X455.here hx rfl (hb hby own_d_prog_34_method_2_10) rfl ?_
    refine XS.iloadN X455.here hx rfl (hb hby own_d_prog_34_method_2_11) rfl ?_
    refine st457 _ ?_
    refine XS.lstore X457.here hx rfl (hb hby own_d_prog_34_method_2_15) rfl (l' := #[.val (.ref I), .val (.ref src), .val (.int (0 : Int32)), .val (.int l0), .val (.int ((2048 : Int32) - (1 : Int32))), .val (.long hv457), .second, .unset, .unset, .unset]) rfl ?_
    show Steps p.tables e below (T457.setTop (mkF m 17 #[.val (.ref I), .val (.ref src), .val (.int (0 : Int32)), .val (.int l0), .val (.int ((2048 : Int32) - (1 : Int32))), .val (.long hv457), .second, .unset, .unset, .unset] [])) _
    refine XS.aloadN X457.here hx rfl (hb hby own_d_prog_34_method_2_17) rfl rfl ?_
    refine XS.lload X457.here hx rfl (hb hby own_d_prog_34_method_2_18) rfl ?_
    refine st458.trans ?_
    refine XS.istore X458.here hx rfl (hb hby own_d_prog_34_method_2_23) rfl (l' := #[.val (.ref I), .val (.ref src), .val (.int (0 : Int32)), .val (.int l0), .val (.int ((2048 : Int32) - (1 : Int32))), .val (.long hv457), .second, .val (.int tv458), .unset, .unset]) rfl ?_
    show Steps p.tables e below (T458.setTop (mkF m 25 #[.val (.ref I), .val (.ref src), .val (.int (0 : Int32)), .val (.int l0), .val (.int ((2048 : Int32) - (1 : Int32))), .val (.long hv457), .second, .val (.int tv458), .unset, .unset] [])) _
    refine XS.aloadN X458.here hx rfl (hb hby own_d_prog_34_method_2_25) rfl rfl ?_
    refine XS.lload X458.here hx rfl (hb hby own_d_prog_34_method_2_26) rfl ?_
    refine st459.trans ?_
    refine XS.istore X459.here hx rfl (hb hby own_d_prog_34_method_2_31) rfl (l' := #[.val (.ref I), .val (.ref src), .val (.int (0 : Int32)), .val (.int l0), .val (.int ((2048 : Int32) - (1 : Int32))), .val (.long hv457), .second, .val (.int tv458), .val (.int sv459), .unset]) rfl ?_
    show Steps p.tables e below (T459.setTop (mkF m 33 #[.val (.ref I), .val (.ref src), .val (.int (0 : Int32)), .val (.int l0), .val (.int ((2048 : Int32) - (1 : Int32))), .val (.long hv457), .second, .val (.int tv458), .val (.int sv459), .unset] [])) _
    refine XS.aloadN X459.here hx rfl (hb hby own_d_prog_34_method_2_33) rfl rfl ?_
    refine st460 _ ?_
    refine XS.iload X460.here hx rfl (hb hby own_d_prog_34_method_2_37) rfl ?_
    refine X460.iaload hx (j := sv459) (v := (.int (-1 : Int32))) (by rw [e460]; exact Ar461.1) (State.isArrayOf_alike hZ.alike Ar461.2.1) Ar461.2.2 (own_inb G461 2048 htl (own_svin hsa459 hsb459)) (own_get G461 (by rw [hts]; exact own_rep (Nat.lt_of_not_le (fun z => (own_svin hsa459 hsb459) (Or.inr z))))) (g := (mkF m 39 #[.val (.ref I), .val (.ref src), .val (.int (0 : Int32)), .val (.int l0), .val (.int ((2048 : Int32) - (1 : Int32))), .val (.long hv457), .second, .val (.int tv458), .val (.int sv459), .unset] [(.int sv459), (.ref tA)])) rfl rfl (hb hby own_d_prog_34_method_2_39) _ ?_
    show Steps p.tables e below (T460.setTop (mkF m 40 #[.val (.ref I), .val (.ref src), .val (.int (0 : Int32)), .val (.int l0), .val (.int ((2048 : Int32) - (1 : Int32))), .val (.long hv457), .second, .val (.int tv458), .val (.int sv459), .unset] [(.int (-1 : Int32))])) _
    refine XS.iconst X460.here hx rfl (hb hby own_d_prog_34_method_2_40) ?_
    refine XS.icmpYes X460.here hx rfl (pc0 := 41) (pc' := 96) rfl (hb hby own_d_prog_34_method_2_41) rfl (teq (rfl : (-1 : Int32) = (-1 : Int32))).1 (by decide) (by decide) ?_
    refine XS.aloadN X460.here hx rfl (hb hby own_d_prog_34_method_2_96) rfl rfl ?_
    refine XS.aloadN X460.here hx rfl (hb hby own_d_prog_34_method_2_97) rfl rfl ?_
    show Steps p.tables e below (T460.setTop (mkF m 98 #[.val (.ref I), .val (.ref src), .val (.int (0 : Int32)), .val (.int l0), .val (.int ((2048 : Int32) - (1 : Int32))), .val (.long hv457), .second, .val (.int tv458), .val (.int sv459), .unset] [(.ref src), (.ref I)])) _
    refine XS.iloadN X460.here hx rfl (hb hby own_d_prog_34_method_2_98) rfl ?_
    refine XS.iloadN X460.here hx rfl (hb hby own_d_prog_34_method_2_99) rfl ?_
    refine st462.trans ?_
    refine XS.istore X462.here hx rfl (hb hby own_d_prog_34_method_2_103) rfl (l' := #[.val (.ref I), .val (.ref src), .val (.int (0 : Int32)), .val (.int l0), .val (.int ((2048 : Int32) - (1 : Int32))), .val (.long hv457), .second, .val (.int tv458), .val (.int sv459), .val (.int (0 : Int32))]) rfl ?_
    show Steps p.tables e below (T462.setTop (mkF m 105 #[.val (.ref I), .val (.ref src), .val (.int (0 : Int32)), .val (.int l0), .val (.int ((2048 : Int32) - (1 : Int32))), .val (.long hv457), .second, .val (.int tv458), .val (.int sv459), .val (.int (0 : Int32))] [])) _
    refine XS.aloadN X462.here hx rfl (hb hby own_d_prog_34_method_2_105) rfl rfl ?_
    refine st464 _ ?_
    refine XS.iload X464.here hx rfl (hb hby own_d_prog_34_method_2_109) rfl ?_
    refine XS.iload X464.here hx rfl (hb hby own_d_prog_34_method_2_111) rfl ?_
    show Steps p.tables e below (T464.setTop (mkF m 113 #[.val (.ref I), .val (.ref src), .val (.int (0 : Int32)), .val (.int l0), .val (.int ((2048 : Int32) - (1 : Int32))), .val (.long hv457), .second, .val (.int tv458), .val (.int sv459), .val (.int (0 : Int32))] [(.int (0 : Int32)), (.int sv459), (.ref tA)])) _
    refine XS.iload X464.here hx rfl (hb hby own_d_prog_34_method_2_113) rfl ?_
    refine XS.bipush X464.here hx rfl (hb hby own_d_prog_34_method_2_115) ?_
    refine XS.ishl X464.here hx rfl (hb hby own_d_prog_34_method_2_117) rfl ?_
    refine XS.ior X464.here hx rfl (hb hby own_d_prog_34_method_2_118) rfl ?_
    show Steps p.tables e below (T464.setTop (mkF m 119 #[.val (.ref I), .val (.ref src), .val (.int (0 : Int32)), .val (.int l0), .val (.int ((2048 : Int32) - (1 : Int32))), .val (.long hv457), .second, .val (.int tv458), .val (.int sv459), .val (.int (0 : Int32))] [(.int ((0 : Int32) ||| (tv458 <<< ((29 : Int32) &&& 31)))), (.int sv459), (.ref tA)])) _
    refine st466 _ ?_
    refine XS.aloadN X466.here hx rfl (hb hby own_d_prog_34_method_2_120) rfl rfl ?_
    refine XS.dup X466.here hx rfl (hb hby own_d_prog_34_method_2_121) rfl rfl ?_
    refine st483 _ ?_
    show Steps p.tables e below (T483.setTop (mkF m 125 #[.val (.ref I), .val (.ref src), .val (.int (0 : Int32)), .val (.int l0), .val (.int ((2048 : Int32) - (1 : Int32))), .val (.long hv457), .second, .val (.int tv458), .val (.int sv459), .val (.int (0 : Int32))] [(.int sea), (.ref I)])) _
    refine XS.iconst X483.here hx rfl (hb hby own_d_prog_34_method_2_125) ?_
    refine XS.iadd X483.here hx rfl (hb hby own_d_prog_34_method_2_126) rfl ?_
    refine st484 _ ?_
    refine X484.ldc2J hx hown (mvT hZ (own_at hw 111 rfl)) (g := (mkF m 130 #[.val (.ref I), .val (.ref src), .val (.int (0 : Int32)), .val (.int l0), .val (.int ((2048 : Int32) - (1 : Int32))), .val (.long hv457), .second, .val (.int tv458), .val (.int sv459), .val (.int (0 : Int32))] [])) rfl (hb hby own_d_prog_34_method_2_130) ?_
    show Steps p.tables e below (T484.setTop (mkF m 133 #[.val (.ref I), .val (.ref src), .val (.int (0 : Int32)), .val (.int l0), .val (.int ((2048 : Int32) - (1 : Int32))), .val (.long hv457), .second, .val (.int tv458), .val (.int sv459), .val (.int (0 : Int32))] [(.long (2 : Int64))])) _
    refine XS.aloadN X484.here hx rfl (hb hby own_d_prog_34_method_2_133) rfl rfl ?_
    refine st501 _ ?_
    refine XS.i2l X501.here hx rfl (hb hby own_d_prog_34_method_2_137) rfl ?_
    refine XS.lmul X501.here hx rfl (hb hby own_d_prog_34_method_2_138) rfl ?_
    show Steps p.tables e below (T501.setTop (mkF m 139 #[.val (.ref I), .val (.ref src), .val (.int (0 : Int32)), .val (.int l0), .val (.int ((2048 : Int32) - (1 : Int32))), .val (.long hv457), .second, .val (.int tv458), .val (.int sv459), .val (.int (0 : Int32))] [(.long ((2 : Int64) * ((sea + (1 : Int32)).toInt64)))])) _
    refine XS.aloadN X501.here hx rfl (hb hby own_d_prog_34_method_2_139) rfl rfl ?_
    refine st502 _ ?_
    refine X502.arraylength hx (cell := cl503) (by rw [e502]; exact Ar503.1) (State.isArrayOf_alike hZ.alike Ar503.2.1) (g := (mkF m 143 #[.val (.ref I), .val (.ref src), .val (.int (0 : Int32)), .val (.int l0), .val (.int ((2048 : Int32) - (1 : Int32))), .val (.long hv457), .second, .val (.int tv458), .val (.int sv459), .val (.int (0 : Int32))] [(.ref tA), (.long ((2 : Int64) * ((sea + (1 : Int32)).toInt64)))])) rfl (rest := [(.long ((2 : Int64) * ((sea + (1 : Int32)).toInt64)))]) rfl (hb hby own_d_prog_34_method_2_143) _ ?_
    rw [own_len (z := (2048 : Int32)) G503 (by rw [List.length_set, htl]; decide)]
    show Steps p.tables e below (T502.setTop (mkF m 144 #[.val (.ref I), .val (.ref src), .val (.int (0 : Int32)), .val (.int l0), .val (.int ((2048 : Int32) - (1 : Int32))), .val (.long hv457), .second, .val (.int tv458), .val (.int sv459), .val (.int (0 : Int32))] [(.int (2048 : Int32)), (.long ((2 : Int64) * ((sea + (1 : Int32)).toInt64)))])) _
    refine XS.i2l X502.here hx rfl (hb hby own_d_prog_34_method_2_144) rfl ?_
    refine XS.lcmp X502.here hx rfl (hb hby own_d_prog_34_method_2_145) rfl ?_
    refine XS.ifYes X502.here hx rfl (pc0 := 146) (pc' := 153) rfl (hb hby own_d_prog_34_method_2_146) rfl ((if0 _ _).trans (flt (show ¬ ((0 : Int32) < lcmpW ((2 : Int64) * ((sea + (1 : Int32)).toInt64)) ((2048 : Int32).toInt64)) by rw [hsea]; decide)).2.2.2) (by decide) (by decide) ?_
    refine XS.iload X502.here hx rfl (hb hby own_d_prog_34_method_2_153) rfl ?_
    show Steps p.tables e below (T502.setTop (mkF m 155 #[.val (.ref I), .val (.ref src), .val (.int (0 : Int32)), .val (.int l0), .val (.int ((2048 : Int32) - (1 : Int32))), .val (.long hv457), .second, .val (.int tv458), .val (.int sv459), .val (.int (0 : Int32))] [(.int (0 : Int32))])) _
    exact own_retI X502 hx Bd.returns (hb hby own_d_prog_34_method_2_155) hr
  · show rm_ix1_Q Z I kA sA tA bs wA ck cs ct cw ts sea wiu ww src cS x0 x1 x2 x3 l0 nd h0 n0 _ T502.heap _
    rw [e502]
    exact ⟨kB462, cB462, _, _, wiu, ww, rfl, N484, KP484, sz_kB462, ⟨f486, f487, f488, f489, f490, f491, f492, f493, f494, f495, f496, f497, f498, f499, f500⟩, ⟨ne_I_kB462, ne_I_sA, ne_I_tA, ne_I_bs, ne_I_wA, (Ne.symm ne_sA_kB462), (Ne.symm ne_tA_kB462), (Ne.symm ne_bs_kB462), (Ne.symm ne_wA_kB462), ne_sA_tA, ne_sA_bs, ne_sA_wA, ne_tA_bs, ne_tA_wA, ne_bs_wA⟩, Or.inr ⟨sv459, tv458, hsa459, hsb459, ht458, by rw [hts]⟩, hwiu, Or.inr (by rw [hsea]; decide)⟩
theorem rm_ix2_ef (m : MethodId) (x0 : Addr) (x1 : Addr) (x2 : Int32) (x3 : Int32) : entryFrame m #[(.ref x0), (.ref x1), (.int x2), (.int x3)] 10 = mkF m 0 #[.val (.ref x0), .val (.ref x1), .val (.int x2), .val (.int x3), .unset, .unset, .unset, .unset, .unset, .unset] [] := by first | (simp [entryFrame, mkF, argsToLocals, Value.category]; done) | rfl
def rm_ix2_Q (Z : State) (I : Addr) (kA : Addr) (sA : Addr) (tA : Addr) (bs : Addr) (wA : Addr) (ck : ClassId) (cs : ClassId) (ct : ClassId) (cw : ClassId) (ks : List Value) (ss : List Value) (ts : List Value) (sea : Int32) (wiu : Int32) (ww : Int64) (src : Addr) (cS : ClassId) (x0 : Int64) (x1 : Int64) (x2 : Int64) (x3 : Int64) (l0 : Int32) (nd : Int32) (off : Int32) (len : Int32) (h0 : Heap) (n0 : Nat) (v : Option Value) (h : Heap) (L : List Loc) : Prop := ∃ (n1 s1 : Int32) (ksB ssB tsB : List Value) (szB seB wiB : Int32) (wwB : Int64), v = some (.int n1) ∧ Fr n0 L ∧ Keep h0 h [I, kA, sA, tA, bs, wA] ∧ OwnIdx Z h I kA sA tA bs wA ck cs ct cw ksB ssB tsB szB seB wiB wwB ∧ OwnBase ksB ssB l0 nd x0 x1 x2 ∧ OwnHas ksB ssB off len x0 x1 x2 x3 n1 s1
set_option maxRecDepth 65536 in
set_option maxHeartbeats 40000000 in
theorem rm_ix2 (l : Launch) (Z : State) (a0 : Array Value) (hw : ∀ d ∈ tables_1, d.before a0 Z = true) (ws : List Jvm.Cond) (I : Addr) (kA : Addr) (sA : Addr) (tA : Addr) (bs : Addr) (wA : Addr) (ck : ClassId) (cs : ClassId) (ct : ClassId) (cw : ClassId) (ks : List Value) (ss : List Value) (ts : List Value) (sea : Int32) (wiu : Int32) (ww : Int64) (src : Addr) (cS : ClassId) (x0 : Int64) (x1 : Int64) (x2 : Int64) (x3 : Int64) (l0 : Int32) (nd : Int32) (off : Int32) (len : Int32) (h0 : Heap) (n0 : Nat) (Z0 : n0 ≤ h0.size) (OL : Old Z n0 h0) (D : OwnIdx Z h0 I kA sA tA bs wA ck cs ct cw ks ss ts (1 : Int32) sea wiu ww) (NE : OwnNe I kA sA tA bs wA) (GE : OwnGe n0 I kA sA tA bs wA) (Lx : OwnLst Z h0 src .long cS [.long x0, .long x1, .long x2, .long x3]) (NS : OwnNs src I kA sA tA bs wA) (BA : OwnBase ks ss l0 nd x0 x1 x2) (hln : (l0 = (1 : Int32) ∧ nd = (1024 : Int32)) ∨ (l0 = (2 : Int32) ∧ nd = (2048 : Int32)) ∨ (l0 = (3 : Int32) ∧ nd = (3072 : Int32))) (hol : (off = (0 : Int32) ∧ len = (1 : Int32)) ∨ (off = (0 : Int32) ∧ len = (2 : Int32)) ∨ (off = (1 : Int32) ∧ len = (1 : Int32)) ∨ (off = (1 : Int32) ∧ len = (2 : Int32))) (hwiu : wiu = (0 : Int32) ∨ wiu = (1 : Int32)) (hT : OwnTs ts) (hsea : sea = (0 : Int32) ∨ sea = (1 : Int32)) :
    MetFree l (⟨"com/example/orbitfold/orbitfold/StateIndex", "indexOf", "([JII)I"⟩ : MethodName) (head1 (Jvm.Cond.code (⟨"com/example/orbitfold/orbitfold/StateIndex", "indexOf", "([JII)I"⟩ : MethodName) prog_34_method_2_code 10 (some .int) :: ws) ({ frames := 3, cells := 0, slots := 0, locals := 44 } : Room)) (fun a₀ U₀ => a₀ = #[(.ref I), (.ref src), (.int off), (.int len)] ∧ Z.Warmed39 U₀.vm ∧ U₀.heap = h0) (fun _ _ _ _ _ => True) (fun _ U₀ o₀ U₁ => ∃ v₀ L₀, o₀ = .returned v₀ ∧ rm_ix2_Q Z I kA sA tA bs wA ck cs ct cw ks ss ts sea wiu ww src cS x0 x1 x2 x3 l0 nd off len h0 n0 v₀ U₁.heap L₀ ∧ FrameEnd U₀ o₀ U₁ L₀ ({ frames := 3, cells := 0, slots := 0, locals := 44 } : Room).cells ({ frames := 3, cells := 0, slots := 0, locals := 44 } : Room).slots) := by
  refine MetFree.of_bodySF (plainFor_of_name own_pn4) hisR ?_
  intro p e s m args below meth c s₁ Bd hml0 hP hK
  obtain ⟨rfl, hZ, hh⟩ := hP
  have hx := Bd.exec
  have hby := Bd.bytes
  have hml : c.maxLocals = 10 := hml0
  have hown : s.vm.findClass "com/example/orbitfold/orbitfold/StateIndex" = some m.cls := findClass_of_methodNamed Bd.named
  have hnm := (name_of_methodNamed Bd.named Bd.method).1
  have X0 : Stand p l e ({ frames := 3, cells := 0, slots := 0, locals := 44 } : Room) s m #[(.ref I), (.ref src), (.int off), (.int len)] below meth c s₁ [] 0 0 := Stand.of_body Bd
  have e0 : s₁.heap = h0 := by rw [← hh, Bd.state]; rfl
  have N0 := Fr.nil n0
  have pre0 : ∀ t, Steps p.tables e below (s₁.setTop (mkF m 0 #[.val (.ref I), .val (.ref src), .val (.int off), .val (.int len), .unset, .unset, .unset, .unset, .unset, .unset] [])) t → Steps p.tables e below (s₁.setTop (entryFrame m #[(.ref I), (.ref src), (.int off), (.int len)] 10)) t := fun t kk₀ => castTop (rm_ix2_ef m I src off len) kk₀
  obtain ⟨dE, dK, dS, dT, dB, dZ, dR, bE, bW, bY, bO, lK, lS, lT, lW⟩ := id D
  obtain ⟨ne_I_kA, ne_I_sA, ne_I_tA, ne_I_bs, ne_I_wA, ne_kA_sA, ne_kA_tA, ne_kA_bs, ne_kA_wA, ne_sA_tA, ne_sA_bs, ne_sA_wA, ne_tA_bs, ne_tA_wA, ne_bs_wA⟩ := id NE
  obtain ⟨g_I, g_kA, g_sA, g_tA, g_bs, g_wA⟩ := id GE
  obtain ⟨ns_I, ns_kA, ns_sA, ns_tA, ns_bs, ns_wA⟩ := id NS
  have htl := hT.len
  obtain ⟨T504, X504, e504, st504⟩ := getF X0 hx hZ hown (host := "") (Or.inl (own_at hw 22 rfl)) Via.refl e0 dT (g := (mkF m 1 #[.val (.ref I), .val (.ref src), .val (.int off), .val (.int len), .unset, .unset, .unset, .unset, .unset, .unset] [(.ref I)])) rfl rfl (hb hby own_d_prog_34_method_2_1)
  obtain ⟨cl505, Ar505, q505, G505⟩ := id lT
  obtain ⟨_, _, ⟨T506, L506, k506, n506⟩, -, X506, ⟨Lc506, hQ506, l506, y506, z506⟩, st506⟩ := Jvm.LawKit.callS X504 hx (y := (⟨"com/example/orbitfold/orbitfold/StateIndex", "hash", "([JII)J"⟩ : MethodName)) hown (mvT hZ (own_at hw 52 rfl)) (mvT hZ (own_at hw 53 rfl)) (mvT hZ (own_at hw 3 rfl)) (mvT hZ (own_at hw 54 rfl)) (by decide) (backOf (W := 0) (rm_hash l Z a0 hw [] src cS x0 x1 x2 x3 off len h0 n0 Z0 Lx (own_hol45 hol)) hZ (own_at hw 54 rfl) (own_at hw 3 rfl) (by decide) (by decide)) (g := (mkF m 12 #[.val (.ref I), .val (.ref src), .val (.int off), .val (.int len), .val (.int ((2048 : Int32) - (1 : Int32))), .unset, .unset, .unset, .unset, .unset] [(.int len), (.int off), (.ref src)])) rfl (by rw [hml]; rfl) (argsL := [(.ref src), (.int off), (.int len)]) (rest := []) (lenOf own_pd10 rfl) rfl (by show 2 * 0 + _ ≤ _; exact Nat.le_of_eq rfl) (hb hby own_d_prog_34_method_2_12) (fun _ _ => ⟨rfl, e504, (by decide : 0 + 0 ≤ _), (by decide : 0 + 0 ≤ _)⟩)
  dsimp only [Pt.U, Pt.locs, Pt.cells, Pt.slots] at X506 l506 y506 z506 st506 hQ506
  subst l506 y506 z506
  obtain ⟨hv506, rfl, Nq506, eh506⟩ := hQ506
  have N506 := Fr.app N0 Nq506
  obtain ⟨cq507, q507, q507'⟩ := dE.cell
  obtain ⟨_, _, ⟨T507, L507, k507, n507⟩, -, X507, ⟨Lc507, hQ507, l507, y507, z507⟩, st507⟩ := X506.privateBack hx (y := (⟨"com/example/orbitfold/orbitfold/StateIndex", "tagOf", "(J)I"⟩ : MethodName)) hown (mvT hZ (own_at hw 56 rfl)) (mvT hZ (own_at hw 57 rfl)) (own_selp hZ (own_at hw 2 rfl) (own_at hw 58 rfl) (own_at hw 57 rfl) (by decide)) (Cond.privateMethod_at (mvP hZ (own_at hw 58 rfl) (args := #[]))) (mvT hZ (own_at hw 59 rfl)) (by decide) (backOf (W := 0) (rm_tag l Z a0 hw [] I hv506 tA ct ts h0 n0 Z0 dT lT htl) hZ (own_at hw 59 rfl) (own_at hw 3 rfl) (by decide) (by decide)) (g := (mkF m 20 #[.val (.ref I), .val (.ref src), .val (.int off), .val (.int len), .val (.int ((2048 : Int32) - (1 : Int32))), .val (.long hv506), .second, .unset, .unset, .unset] [(.long hv506), (.ref I)])) rfl (by rw [hml]; rfl) (Steps.refl _) (a := I) (by rw [eh506]; exact q507) q507' (argsL := [(.long hv506)]) (rest := []) (lenOf own_pd5 rfl) rfl (by show 2 * 0 + _ ≤ _; exact Nat.le_of_eq rfl) (hb hby own_d_prog_34_method_2_20) (fun _ _ => ⟨rfl, eh506, (by decide : 0 + 0 ≤ _), (by decide : 0 + 0 ≤ _)⟩)
  dsimp only [Pt.U, Pt.locs, Pt.cells, Pt.slots] at X507 l507 y507 z507 st507 hQ507
  subst l507 y507 z507
  obtain ⟨tv507, rfl, Nq507, eh507, ht507⟩ := hQ507
  have N507 := Fr.app N506 Nq507
  obtain ⟨cq508, q508, q508'⟩ := dE.cell
  obtain ⟨_, _, ⟨T508, L508, k508, n508⟩, -, X508, ⟨Lc508, hQ508, l508, y508, z508⟩, st508⟩ := X507.privateBack hx (y := (⟨"com/example/orbitfold/orbitfold/StateIndex", "slotOf", "(J)I"⟩ : MethodName)) hown (mvT hZ (own_at hw 69 rfl)) (mvT hZ (own_at hw 70 rfl)) (own_selp hZ (own_at hw 2 rfl) (own_at hw 71 rfl) (own_at hw 70 rfl) (by decide)) (Cond.privateMethod_at (mvP hZ (own_at hw 71 rfl) (args := #[]))) (mvT hZ (own_at hw 72 rfl)) (by decide) (backOf (W := 0) (rm_slot l Z a0 hw [] I hv506 tA ct ts h0 n0 Z0 dT lT htl) hZ (own_at hw 72 rfl) (own_at hw 3 rfl) (by decide) (by decide)) (g := (mkF m 28 #[.val (.ref I), .val (.ref src), .val (.int off), .val (.int len), .val (.int ((2048 : Int32) - (1 : Int32))), .val (.long hv506), .second, .val (.int tv507), .unset, .unset] [(.long hv506), (.ref I)])) rfl (by rw [hml]; rfl) (Steps.refl _) (a := I) (by rw [eh507]; exact q508) q508' (argsL := [(.long hv506)]) (rest := []) (lenOf own_pd5 rfl) rfl (by show 2 * 0 + _ ≤ _; exact Nat.le_of_eq rfl) (hb hby own_d_prog_34_method_2_28) (fun _ _ => ⟨rfl, eh507, (by decide : 0 + 0 ≤ _), (by decide : 0 + 0 ≤ _)⟩)
  dsimp only [Pt.U, Pt.locs, Pt.cells, Pt.slots] at X508 l508 y508 z508 st508 hQ508
  subst l508 y508 z508
  obtain ⟨sv508, rfl, Nq508, eh508, hsa508, hsb508⟩ := hQ508
  have N508 := Fr.app N507 Nq508
  have stP509 : ∀ target, Steps p.tables e below (T508.setTop (mkF m 33 #[.val (.ref I), .val (.ref src), .val (.int off), .val (.int len), .val (.int ((2048 : Int32) - (1 : Int32))), .val (.long hv506), .second, .val (.int tv507), .val (.int sv508), .unset] [])) target → Steps p.tables e below (s₁.setTop (mkF m 0 #[.val (.ref I), .val (.ref src), .val (.int off), .val (.int len), .unset, .unset, .unset, .unset, .unset, .unset] [])) target := by
    intro target k₀
    show Steps p.tables e below (s₁.setTop (mkF m 0 #[.val (.ref I), .val (.ref src), .val (.int off), .val (.int len), .unset, .unset, .unset, .unset, .unset, .unset] [])) _
    refine XS.aloadN X0.here hx rfl (hb hby own_d_prog_34_method_2_0) rfl rfl ?_
    refine st504 _ ?_
    refine X504.arraylength hx (cell := cl505) (by rw [e504]; exact Ar505.1) (State.isArrayOf_alike hZ.alike Ar505.2.1) (g := (mkF m 4 #[.val (.ref I), .val (.ref src), .val (.int off), .val (.int len), .unset, .unset, .unset, .unset, .unset, .unset] [(.ref tA)])) rfl (rest := []) rfl (hb hby own_d_prog_34_method_2_4) _ ?_
    rw [own_len (z := (2048 : Int32)) G505 (by rw [htl]; decide)]
    show Steps p.tables e below (T504.setTop (mkF m 5 #[.val (.ref I), .val (.ref src), .val (.int off), .val (.int len), .unset, .unset, .unset, .unset, .unset, .unset] [(.int (2048 : Int32))])) _
    refine XS.iconst X504.here hx rfl (hb hby own_d_prog_34_method_2_5) ?_
    refine XS.isub X504.here hx rfl (hb hby own_d_prog_34_method_2_6) rfl ?_
    refine XS.istore X504.here hx rfl (hb hby own_d_prog_34_method_2_7) rfl (l' := #[.val (.ref I), .val (.ref src), .val (.int off), .val (.int len), .val (.int ((2048 : Int32) - (1 : Int32))), .unset, .unset, .unset, .unset, .unset]) rfl ?_
    refine XS.aloadN X504.here hx rfl (hb hby own_d_prog_34_method_2_9) rfl rfl ?_
    show Steps p.tables e below (T504.setTop (mkF m 10 #[.val (.ref I), .val (.ref src), .val (.int off), .val (.int len), .val (.int ((2048 : Int32) - (1 : Int32))), .unset, .unset, .unset, .unset, .unset] [(.ref src)])) _
    refine XS.iloadN X504.here hx rfl (hb hby own_d_prog_34_method_2_10) rfl ?_
    refine XS.iloadN X504.here hx rfl (hb hby own_d_prog_34_method_2_11) rfl ?_
    refine st506 _ ?_
    refine XS.lstore X506.here hx rfl (hb hby own_d_prog_34_method_2_15) rfl (l' := #[.val (.ref I), .val (.ref src), .val (.int off), .val (.int len), .val (.int ((2048 : Int32) - (1 : Int32))), .val (.long hv506), .second, .unset, .unset, .unset]) rfl ?_
    show Steps p.tables e below (T506.setTop (mkF m 17 #[.val (.ref I), .val (.ref src), .val (.int off), .val (.int len), .val (.int ((2048 : Int32) - (1 : Int32))), .val (.long hv506), .second, .unset, .unset, .unset] [])) _
    refine XS.aloadN X506.here hx rfl (hb hby own_d_prog_34_method_2_17) rfl rfl ?_
    refine XS.lload X506.here hx rfl (hb hby own_d_prog_34_method_2_18) rfl ?_
    refine st507.trans ?_
    refine XS.istore X507.here hx rfl (hb hby own_d_prog_34_method_2_23) rfl (l' := #[.val (.ref I), .val (.ref src), .val (.int off), .val (.int len), .val (.int ((2048 : Int32) - (1 : Int32))), .val (.long hv506), .second, .val (.int tv507), .unset, .unset]) rfl ?_
    show Steps p.tables e below (T507.setTop (mkF m 25 #[.val (.ref I), .val (.ref src), .val (.int off), .val (.int len), .val (.int ((2048 : Int32) - (1 : Int32))), .val (.long hv506), .second, .val (.int tv507), .unset, .unset] [])) _
    refine XS.aloadN X507.here hx rfl (hb hby own_d_prog_34_method_2_25) rfl rfl ?_
    refine XS.lload X507.here hx rfl (hb hby own_d_prog_34_method_2_26) rfl ?_
    refine st508.trans ?_
    refine XS.istore X508.here hx rfl (hb hby own_d_prog_34_method_2_31) rfl (l' := #[.val (.ref I), .val (.ref src), .val (.int off), .val (.int len), .val (.int ((2048 : Int32) - (1 : Int32))), .val (.long hv506), .second, .val (.int tv507), .val (.int sv508), .unset]) rfl ?_
    exact k₀
  rcases own_probe hT hsa508 hsb508 with hg0 | ⟨t0, ht0, hg0, hg1⟩
  · obtain ⟨T510, X510, e510, st510⟩ := getF X508 hx hZ hown (host := "") (Or.inl (own_at hw 22 rfl)) Via.refl eh508 dT (g := (mkF m 34 #[.val (.ref I), .val (.ref src), .val (.int off), .val (.int len), .val (.int ((2048 : Int32) - (1 : Int32))), .val (.long hv506), .second, .val (.int tv507), .val (.int sv508), .unset] [(.ref I)])) rfl rfl (hb hby own_d_prog_34_method_2_34)
    obtain ⟨cl511, Ar511, q511, G511⟩ := id lT
    obtain ⟨cq512, q512, q512'⟩ := dE.cell
    obtain ⟨_, _, ⟨T512, L512, k512, n512⟩, -, X512, ⟨Lc512, hQ512, l512, y512, z512⟩, st512⟩ := X510.privateBack hx (y := (⟨"com/example/orbitfold/orbitfold/StateIndex", "keep", "([JII)I"⟩ : MethodName)) hown (mvT hZ (own_at hw 73 rfl)) (mvT hZ (own_at hw 74 rfl)) (own_selp hZ (own_at hw 2 rfl) (own_at hw 75 rfl) (own_at hw 74 rfl) (by decide)) (Cond.privateMethod_at (mvP hZ (own_at hw 75 rfl) (args := #[]))) (mvT hZ (own_at hw 76 rfl)) (by decide) (backOf (W := 0) (rm_keep2 l Z a0 hw [] I kA sA tA bs wA ck cs ct cw ks ss ts sea wiu ww src cS x0 x1 x2 x3 l0 nd off len h0 n0 Z0 OL ⟨dE, dK, dS, dT, dB, dZ, dR, bE, bW, bY, bO, lK, lS, lT, lW⟩ NE GE Lx NS BA hln hol) hZ (own_at hw 76 rfl) (own_at hw 3 rfl) (by decide) (by decide)) (g := (mkF m 100 #[.val (.ref I), .val (.ref src), .val (.int off), .val (.int len), .val (.int ((2048 : Int32) - (1 : Int32))), .val (.long hv506), .second, .val (.int tv507), .val (.int sv508), .unset] [(.int len), (.int off), (.ref src), (.ref I)])) rfl (by rw [hml]; rfl) (Steps.refl _) (a := I) (by rw [e510]; exact q512) q512' (argsL := [(.ref src), (.int off), (.int len)]) (rest := []) (lenOf own_pd9 rfl) rfl (by show 2 * 0 + _ ≤ _; exact Nat.le_of_eq rfl) (hb hby own_d_prog_34_method_2_100) (fun _ _ => ⟨rfl, e510, (by decide : 0 + 0 ≤ _), (by decide : 0 + 0 ≤ _)⟩)
    dsimp only [Pt.U, Pt.locs, Pt.cells, Pt.slots] at X512 l512 y512 z512 st512 hQ512
    subst l512 y512 z512
    obtain ⟨rfl, Nq512, K512, D512⟩ := hQ512
    have N512 := Fr.app N508 Nq512
    obtain ⟨i512_0, i512_1, i512_2, i512_3, i512_4, i512_5, i512_6, i512_7, i512_8, i512_9, i512_10, i512_11, i512_12, i512_13, i512_14⟩ := id D512
    have f513 := Lx.keep K512 (by simp [ns_I, ns_sA, ns_kA])
    have OL512 := OL.keep K512 (fun x hx => by
      simp only [List.mem_cons, List.not_mem_nil, or_false] at hx
      rcases hx with rfl | rfl | rfl
      · exact g_I
      · exact g_sA
      · exact g_kA)
    have KP512 : Keep h0 T512.heap [I, kA, sA, tA, bs, wA] := (Keep.refl _ _).trans K512 (fun x hx => by
      simp only [List.mem_cons, List.not_mem_nil, or_false] at hx
      rcases hx with rfl | rfl | rfl
      · exact Or.inl (by simp)
      · exact Or.inl (by simp)
      · exact Or.inl (by simp))
    obtain ⟨T514, X514, e514, st514⟩ := getF X512 hx hZ hown (host := "") (Or.inl (own_at hw 22 rfl)) Via.refl rfl i512_3 (g := (mkF m 106 #[.val (.ref I), .val (.ref src), .val (.int off), .val (.int len), .val (.int ((2048 : Int32) - (1 : Int32))), .val (.long hv506), .second, .val (.int tv507), .val (.int sv508), .val (.int (1 : Int32))] [(.ref I)])) rfl rfl (hb hby own_d_prog_34_method_2_106)
    obtain ⟨cl516, Ar516, q516, G516⟩ := id i512_13
    obtain ⟨T516, h516, X516, e516, W516, st516⟩ := stI X514 hx hZ e514 Ar516 (j := sv508) (own_inb G516 2048 htl (own_svin hsa508 hsb508)) (g := (mkF m 119 #[.val (.ref I), .val (.ref src), .val (.int off), .val (.int len), .val (.int ((2048 : Int32) - (1 : Int32))), .val (.long hv506), .second, .val (.int tv507), .val (.int sv508), .val (.int (1 : Int32))] [(.int ((1 : Int32) ||| (tv507 <<< ((29 : Int32) &&& 31)))), (.int sv508), (.ref tA)])) rfl rfl (hb hby own_d_prog_34_method_2_119)
    have N516 := Fr.snoc X516 N512 g_tA
    have v515 := own_lst_set Ar516 q516 G516 W516
    have f517 := f513.other W516 ns_tA
    have f518 := i512_0.wr W516
    have f519 := i512_1.other W516 (Or.inl ne_I_tA)
    have f520 := i512_2.other W516 (Or.inl ne_I_tA)
    have f521 := i512_3.other W516 (Or.inl ne_I_tA)
    have f522 := i512_4.other W516 (Or.inl ne_I_tA)
    have f523 := i512_5.other W516 (Or.inl ne_I_tA)
    have f524 := i512_6.other W516 (Or.inl ne_I_tA)
    have f525 := i512_7.wr W516
    have f526 := i512_8.other W516 (Or.inl (Ne.symm ne_tA_bs))
    have f527 := i512_9.other W516 (Or.inl (Ne.symm ne_tA_bs))
    have f528 := i512_10.other W516 (Or.inl (Ne.symm ne_tA_bs))
    have f529 := i512_11.other W516 ne_kA_tA
    have f530 := i512_12.other W516 ne_sA_tA
    have f531 : OwnLst Z h516 tA .int ct (List.set ts sv508.toNatClampNeg (.int ((1 : Int32) ||| (tv507 <<< ((29 : Int32) &&& 31))))) := v515
    have f532 := i512_14.other W516 (Ne.symm ne_tA_wA)
    have OL516 := OL512.wr W516 g_tA
    have KP516 : Keep h0 h516 [I, kA, sA, tA, bs, wA] := KP512.wr W516 (Or.inl (by simp))
    obtain ⟨T533, X533, e533, st533⟩ := getF X516 hx hZ hown (host := "") (Or.inl (own_at hw 109 rfl)) Via.refl e516 f524 (g := (mkF m 122 #[.val (.ref I), .val (.ref src), .val (.int off), .val (.int len), .val (.int ((2048 : Int32) - (1 : Int32))), .val (.long hv506), .second, .val (.int tv507), .val (.int sv508), .val (.int (1 : Int32))] [(.ref I), (.ref I)])) rfl rfl (hb hby own_d_prog_34_method_2_122)
    obtain ⟨T534, h534, X534, e534, W534, st534⟩ := putF X533 hx hZ hown (host := "") (Or.inl (own_at hw 109 rfl)) Via.refl e533 f524 f518 (Or.inl (own_at hw 110 rfl)) (own_at hw 2 rfl) (ty := .int) (by decide) rfl rfl (g := (mkF m 127 #[.val (.ref I), .val (.ref src), .val (.int off), .val (.int len), .val (.int ((2048 : Int32) - (1 : Int32))), .val (.long hv506), .second, .val (.int tv507), .val (.int sv508), .val (.int (1 : Int32))] [(.int (sea + (1 : Int32))), (.ref I)])) rfl rfl (hb hby own_d_prog_34_method_2_127)
    have N534 := Fr.snoc X534 N516 g_I
    have f535 := f517.other W534 ns_I
    have f536 := f518.wr W534
    have f537 := f519.other W534 (Or.inr (slot_ne (Or.inl (own_at hw 11 rfl)) (Or.inl (own_at hw 110 rfl)) (by decide) (t := (.array .long)) (t' := .int) (by decide) (by decide)))
    have f538 := f520.other W534 (Or.inr (slot_ne (Or.inl (own_at hw 14 rfl)) (Or.inl (own_at hw 110 rfl)) (by decide) (t := (.array .int)) (t' := .int) (by decide) (by decide)))
    have f539 := f521.other W534 (Or.inr (slot_ne (Or.inl (own_at hw 23 rfl)) (Or.inl (own_at hw 110 rfl)) (by decide) (t := (.array .int)) (t' := .int) (by decide) (by decide)))
    have f540 := f522.other W534 (Or.inr (slot_ne (Or.inr (own_at hw 46 rfl)) (Or.inl (own_at hw 110 rfl)) (by decide) (t := (.object "java/util/BitSet")) (t' := .int) (by decide) (by decide)))
    have f541 := f523.other W534 (Or.inr (slot_ne (Or.inl (own_at hw 78 rfl)) (Or.inl (own_at hw 110 rfl)) (by decide) (t := .int) (t' := .int) (by decide) (by decide)))
    have f542 : Fld Z h534 I "com/example/orbitfold/orbitfold/StateIndex" "searchable" "I" (.int (sea + (1 : Int32))) := f524.same W534
    have f543 := f525.wr W534
    have f544 := f526.other W534 (Or.inl (Ne.symm ne_I_bs))
    have f545 := f527.other W534 (Or.inl (Ne.symm ne_I_bs))
    have f546 := f528.other W534 (Or.inl (Ne.symm ne_I_bs))
    have f547 := f529.other W534 (Ne.symm ne_I_kA)
    have f548 := f530.other W534 (Ne.symm ne_I_sA)
    have f549 := f531.other W534 (Ne.symm ne_I_tA)
    have f550 := f532.other W534 (Ne.symm ne_I_wA)
    have OL534 := OL516.wr W534 g_I
    have KP534 : Keep h0 h534 [I, kA, sA, tA, bs, wA] := KP516.wr W534 (Or.inl (by simp))
    obtain ⟨T551, X551, e551, st551⟩ := getF X534 hx hZ hown (host := "") (Or.inl (own_at hw 109 rfl)) Via.refl e534 f542 (g := (mkF m 134 #[.val (.ref I), .val (.ref src), .val (.int off), .val (.int len), .val (.int ((2048 : Int32) - (1 : Int32))), .val (.long hv506), .second, .val (.int tv507), .val (.int sv508), .val (.int (1 : Int32))] [(.ref I), (.long (2 : Int64))])) rfl rfl (hb hby own_d_prog_34_method_2_134)
    obtain ⟨T552, X552, e552, st552⟩ := getF X551 hx hZ hown (host := "") (Or.inl (own_at hw 22 rfl)) Via.refl e551 f539 (g := (mkF m 140 #[.val (.ref I), .val (.ref src), .val (.int off), .val (.int len), .val (.int ((2048 : Int32) - (1 : Int32))), .val (.long hv506), .second, .val (.int tv507), .val (.int sv508), .val (.int (1 : Int32))] [(.ref I), (.long ((2 : Int64) * ((sea + (1 : Int32)).toInt64)))])) rfl rfl (hb hby own_d_prog_34_method_2_140)
    obtain ⟨cl553, Ar553, q553, G553⟩ := id f549
    obtain ⟨fs, hr, hrun, hended, hW, hsame⟩ := X552.leave (v := some (.int (1 : Int32))) (fun h => by rw [Bd.returns] at h; cases h)
    refine ⟨_, _, pre0 _ ?_, hrun, hended, _, _, rfl, ?_, ⟨_, rfl⟩, hW, hsame.mono (by decide) (by decide)⟩
    · show Steps p.tables e below (s₁.setTop (mkF m 0 #[.val (.ref I), .val (.ref src), .val (.int off), .val (.int len), .unset, .unset, .unset, .unset, .unset, .unset] [])) _
      refine stP509 _ ?_
      refine XS.aloadN X508.here hx rfl (hb hby own_d_prog_34_method_2_33) rfl rfl ?_
      refine st510 _ ?_
      refine XS.iload X510.here hx rfl (hb hby own_d_prog_34_method_2_37) rfl ?_
      show Steps p.tables e below (T510.setTop (mkF m 39 #[.val (.ref I), .val (.ref src), .val (.int off), .val (.int len), .val (.int ((2048 : Int32) - (1 : Int32))), .val (.long hv506), .second, .val (.int tv507), .val (.int sv508), .unset] [(.int sv508), (.ref tA)])) _
      refine X510.iaload hx (j := sv508) (v := (.int (-1 : Int32))) (by rw [e510]; exact Ar511.1) (State.isArrayOf_alike hZ.alike Ar511.2.1) Ar511.2.2 (own_inb G511 2048 htl (own_svin hsa508 hsb508)) (own_get G511 hg0) (g := (mkF m 39 #[.val (.ref I), .val (.ref src), .val (.int off), .val (.int len), .val (.int ((2048 : Int32) - (1 : Int32))), .val (.long hv506), .second, .val (.int tv507), .val (.int sv508), .unset] [(.int sv508), (.ref tA)])) rfl rfl (hb hby own_d_prog_34_method_2_39) _ ?_
      refine XS.iconst X510.here hx rfl (hb hby own_d_prog_34_method_2_40) ?_
      refine XS.icmpYes X510.here hx rfl (pc0 := 41) (pc' := 96) rfl (hb hby own_d_prog_34_method_2_41) rfl (teq (rfl : (-1 : Int32) = (-1 : Int32))).1 (by decide) (by decide) ?_
      refine XS.aloadN X510.here hx rfl (hb hby own_d_prog_34_method_2_96) rfl rfl ?_
      show Steps p.tables e below (T510.setTop (mkF m 97 #[.val (.ref I), .val (.ref src), .val (.int off), .val (.int len), .val (.int ((2048 : Int32) - (1 : Int32))), .val (.long hv506), .second, .val (.int tv507), .val (.int sv508), .unset] [(.ref I)])) _
      refine XS.aloadN X510.here hx rfl (hb hby own_d_prog_34_method_2_97) rfl rfl ?_
      refine XS.iloadN X510.here hx rfl (hb hby own_d_prog_34_method_2_98) rfl ?_
      refine XS.iloadN X510.here hx rfl (hb hby own_d_prog_34_method_2_99) rfl ?_
      refine st512.trans ?_
      show Steps p.tables e below (T512.setTop (mkF m 103 #[.val (.ref I), .val (.ref src), .val (.int off), .val (.int len), .val (.int ((2048 : Int32) - (1 : Int32))), .val (.long hv506), .second, .val (.int tv507), .val (.int sv508), .unset] [(.int (1 : Int32))])) _
      refine XS.istore X512.here hx rfl (hb hby own_d_prog_34_method_2_103) rfl (l' := #[.val (.ref I), .val (.ref src), .val (.int off), .val (.int len), .val (.int ((2048 : Int32) - (1 : Int32))), .val (.long hv506), .second, .val (.int tv507), .val (.int sv508), .val (.int (1 : Int32))]) rfl ?_
      refine XS.aloadN X512.here hx rfl (hb hby own_d_prog_34_method_2_105) rfl rfl ?_
      refine st514 _ ?_
      refine XS.iload X514.here hx rfl (hb hby own_d_prog_34_method_2_109) rfl ?_
      show Steps p.tables e below (T514.setTop (mkF m 111 #[.val (.ref I), .val (.ref src), .val (.int off), .val (.int len), .val (.int ((2048 : Int32) - (1 : Int32))), .val (.long hv506), .second, .val (.int tv507), .val (.int sv508), .val (.int (1 : Int32))] [(.int sv508), (.ref tA)])) _
      refine XS.iload X514.here hx rfl (hb hby own_d_prog_34_method_2_111) rfl ?_
      refine XS.iload X514.here hx rfl (hb hby own_d_prog_34_method_2_113) rfl ?_
      refine XS.bipush X514.here hx rfl (hb hby own_d_prog_34_method_2_115) ?_
      refine XS.ishl X514.here hx rfl (hb hby own_d_prog_34_method_2_117) rfl ?_
      show Steps p.tables e below (T514.setTop (mkF m 118 #[.val (.ref I), .val (.ref src), .val (.int off), .val (.int len), .val (.int ((2048 : Int32) - (1 : Int32))), .val (.long hv506), .second, .val (.int tv507), .val (.int sv508), .val (.int (1 : Int32))] [(.int (tv507 <<< ((29 : Int32) &&& 31))), (.int (1 : Int32)), (.int sv508), (.ref tA)])) _
      refine XS.ior X514.here hx rfl (hb hby own_d_prog_34_method_2_118) rfl ?_
      refine st516 _ ?_
      refine XS.aloadN X516.here hx rfl (hb hby own_d_prog_34_method_2_120) rfl rfl ?_
      refine XS.dup X516.here hx rfl (hb hby own_d_prog_34_method_2_121) rfl rfl ?_
      show Steps p.tables e below (T516.setTop (mkF m 122 #[.val (.ref I), .val (.ref src), .val (.int off), .val (.int len), .val (.int ((2048 : Int32) - (1 : Int32))), .val (.long hv506), .second, .val (.int tv507), .val (.int sv508), .val (.int (1 : Int32))] [(.ref I), (.ref I)])) _
      refine st533 _ ?_
      refine XS.iconst X533.here hx rfl (hb hby own_d_prog_34_method_2_125) ?_
      refine XS.iadd X533.here hx rfl (hb hby own_d_prog_34_method_2_126) rfl ?_
      refine st534 _ ?_
      show Steps p.tables e below (T534.setTop (mkF m 130 #[.val (.ref I), .val (.ref src), .val (.int off), .val (.int len), .val (.int ((2048 : Int32) - (1 : Int32))), .val (.long hv506), .second, .val (.int tv507), .val (.int sv508), .val (.int (1 : Int32))] [])) _
      refine X534.ldc2J hx hown (mvT hZ (own_at hw 111 rfl)) (g := (mkF m 130 #[.val (.ref I), .val (.ref src), .val (.int off), .val (.int len), .val (.int ((2048 : Int32) - (1 : Int32))), .val (.long hv506), .second, .val (.int tv507), .val (.int sv508), .val (.int (1 : Int32))] [])) rfl (hb hby own_d_prog_34_method_2_130) ?_
      refine XS.aloadN X534.here hx rfl (hb hby own_d_prog_34_method_2_133) rfl rfl ?_
      refine st551 _ ?_
      refine XS.i2l X551.here hx rfl (hb hby own_d_prog_34_method_2_137) rfl ?_
      show Steps p.tables e below (T551.setTop (mkF m 138 #[.val (.ref I), .val (.ref src), .val (.int off), .val (.int len), .val (.int ((2048 : Int32) - (1 : Int32))), .val (.long hv506), .second, .val (.int tv507), .val (.int sv508), .val (.int (1 : Int32))] [(.long ((sea + (1 : Int32)).toInt64)), (.long (2 : Int64))])) _
      refine XS.lmul X551.here hx rfl (hb hby own_d_prog_34_method_2_138) rfl ?_
      refine XS.aloadN X551.here hx rfl (hb hby own_d_prog_34_method_2_139) rfl rfl ?_
      refine st552 _ ?_
      refine X552.arraylength hx (cell := cl553) (by rw [e552]; exact Ar553.1) (State.isArrayOf_alike hZ.alike Ar553.2.1) (g := (mkF m 143 #[.val (.ref I), .val (.ref src), .val (.int off), .val (.int len), .val (.int ((2048 : Int32) - (1 : Int32))), .val (.long hv506), .second, .val (.int tv507), .val (.int sv508), .val (.int (1 : Int32))] [(.ref tA), (.long ((2 : Int64) * ((sea + (1 : Int32)).toInt64)))])) rfl (rest := [(.long ((2 : Int64) * ((sea + (1 : Int32)).toInt64)))]) rfl (hb hby own_d_prog_34_method_2_143) _ ?_
      rw [own_len (z := (2048 : Int32)) G553 (by rw [List.length_set, htl]; decide)]
      show Steps p.tables e below (T552.setTop (mkF m 144 #[.val (.ref I), .val (.ref src), .val (.int off), .val (.int len), .val (.int ((2048 : Int32) - (1 : Int32))), .val (.long hv506), .second, .val (.int tv507), .val (.int sv508), .val (.int (1 : Int32))] [(.int (2048 : Int32)), (.long ((2 : Int64) * ((sea + (1 : Int32)).toInt64)))])) _
      refine XS.i2l X552.here hx rfl (hb hby own_d_prog_34_method_2_144) rfl ?_
      refine XS.lcmp X552.here hx rfl (hb hby own_d_prog_34_method_2_145) rfl ?_
      refine XS.ifYes X552.here hx rfl (pc0 := 146) (pc' := 153) rfl (hb hby own_d_prog_34_method_2_146) rfl ((if0 _ _).trans (flt (show ¬ ((0 : Int32) < lcmpW ((2 : Int64) * ((sea + (1 : Int32)).toInt64)) ((2048 : Int32).toInt64)) by rcases hsea with z | z <;> rw [z] <;> decide)).2.2.2) (by decide) (by decide) ?_
      refine XS.iload X552.here hx rfl (hb hby own_d_prog_34_method_2_153) rfl ?_
      show Steps p.tables e below (T552.setTop (mkF m 155 #[.val (.ref I), .val (.ref src), .val (.int off), .val (.int len), .val (.int ((2048 : Int32) - (1 : Int32))), .val (.long hv506), .second, .val (.int tv507), .val (.int sv508), .val (.int (1 : Int32))] [(.int (1 : Int32))])) _
      exact own_retI X552 hx Bd.returns (hb hby own_d_prog_34_method_2_155) hr
    · show rm_ix2_Q Z I kA sA tA bs wA ck cs ct cw ks ss ts sea wiu ww src cS x0 x1 x2 x3 l0 nd off len h0 n0 _ T552.heap _
      rw [e552]
      exact ⟨(1 : Int32), l0, _, _, _, _, _, _, _, rfl, N534, KP534, ⟨f536, f537, f538, f539, f540, f541, f542, f543, f544, f545, f546, f547, f548, f549, f550⟩, (own_has2 hln hol x0 x1 x2 x3 BA).1, (own_has2 hln hol x0 x1 x2 x3 BA).2⟩
  · by_cases q : ((((0 : Int32) ||| (t0 <<< ((29 : Int32) &&& 31))).toUInt32 >>> ((29 : Int32) &&& 31).toUInt32).toInt32) = tv507
    · obtain ⟨T602, X602, e602, st602⟩ := getF X508 hx hZ hown (host := "") (Or.inl (own_at hw 22 rfl)) Via.refl eh508 dT (g := (mkF m 34 #[.val (.ref I), .val (.ref src), .val (.int off), .val (.int len), .val (.int ((2048 : Int32) - (1 : Int32))), .val (.long hv506), .second, .val (.int tv507), .val (.int sv508), .unset] [(.ref I)])) rfl rfl (hb hby own_d_prog_34_method_2_34)
      obtain ⟨cl603, Ar603, q603, G603⟩ := id lT
      obtain ⟨T604, X604, e604, st604⟩ := getF X602 hx hZ hown (host := "") (Or.inl (own_at hw 22 rfl)) Via.refl e602 dT (g := (mkF m 45 #[.val (.ref I), .val (.ref src), .val (.int off), .val (.int len), .val (.int ((2048 : Int32) - (1 : Int32))), .val (.long hv506), .second, .val (.int tv507), .val (.int sv508), .unset] [(.ref I)])) rfl rfl (hb hby own_d_prog_34_method_2_45)
      obtain ⟨cl605, Ar605, q605, G605⟩ := id lT
      obtain ⟨cq606, q606, q606'⟩ := dE.cell
      obtain ⟨_, _, ⟨T606, L606, k606, n606⟩, -, X606, ⟨Lc606, hQ606, l606, y606, z606⟩, st606⟩ := X604.privateBack hx (y := (⟨"com/example/orbitfold/orbitfold/StateIndex", "matches", "(I[JII)Z"⟩ : MethodName)) hown (mvT hZ (own_at hw 147 rfl)) (mvT hZ (own_at hw 148 rfl)) (own_selp hZ (own_at hw 2 rfl) (own_at hw 149 rfl) (own_at hw 148 rfl) (by decide)) (Cond.privateMethod_at (mvP hZ (own_at hw 149 rfl) (args := #[]))) (mvT hZ (own_at hw 150 rfl)) (by decide) (backOf (W := 0) (rm_mat l Z a0 hw [] I kA sA ck cs ks ss src cS x0 x1 x2 x3 l0 nd off len h0 n0 Z0 dK dS lK lS Lx BA hln hol) hZ (own_at hw 150 rfl) (own_at hw 3 rfl) (by decide) (by decide)) (g := (mkF m 72 #[.val (.ref I), .val (.ref src), .val (.int off), .val (.int len), .val (.int ((2048 : Int32) - (1 : Int32))), .val (.long hv506), .second, .val (.int tv507), .val (.int sv508), .val (.int ((0 : Int32) ||| (t0 <<< ((29 : Int32) &&& 31))))] [(.int len), (.int off), (.ref src), (.int (0 : Int32)), (.ref I)])) rfl (by rw [hml]; rfl) (Steps.refl _) (a := I) (by rw [e604]; exact q606) q606' (argsL := [(.int (0 : Int32)), (.ref src), (.int off), (.int len)]) (rest := []) (lenOf own_pd11 rfl) rfl (by show 2 * 0 + _ ≤ _; exact Nat.le_of_eq rfl) (hb hby own_d_prog_34_method_2_72) (fun _ _ => ⟨rfl, e604, (by decide : 0 + 0 ≤ _), (by decide : 0 + 0 ≤ _)⟩)
      dsimp only [Pt.U, Pt.locs, Pt.cells, Pt.slots] at X606 l606 y606 z606 st606 hQ606
      subst l606 y606 z606
      obtain ⟨rv606, rfl, Nq606, eh606, hm606⟩ := hQ606
      have N606 := Fr.app N508 Nq606
      have stP607 : ∀ target, Steps p.tables e below (T606.setTop (mkF m 75 #[.val (.ref I), .val (.ref src), .val (.int off), .val (.int len), .val (.int ((2048 : Int32) - (1 : Int32))), .val (.long hv506), .second, .val (.int tv507), .val (.int sv508), .val (.int ((0 : Int32) ||| (t0 <<< ((29 : Int32) &&& 31))))] [(.int rv606)])) target → Steps p.tables e below (s₁.setTop (mkF m 0 #[.val (.ref I), .val (.ref src), .val (.int off), .val (.int len), .unset, .unset, .unset, .unset, .unset, .unset] [])) target := by
        intro target k₀
        show Steps p.tables e below (s₁.setTop (mkF m 0 #[.val (.ref I), .val (.ref src), .val (.int off), .val (.int len), .unset, .unset, .unset, .unset, .unset, .unset] [])) _
        refine stP509 _ ?_
        refine XS.aloadN X508.here hx rfl (hb hby own_d_prog_34_method_2_33) rfl rfl ?_
        refine st602 _ ?_
        refine XS.iload X602.here hx rfl (hb hby own_d_prog_34_method_2_37) rfl ?_
        show Steps p.tables e below (T602.setTop (mkF m 39 #[.val (.ref I), .val (.ref src), .val (.int off), .val (.int len), .val (.int ((2048 : Int32) - (1 : Int32))), .val (.long hv506), .second, .val (.int tv507), .val (.int sv508), .unset] [(.int sv508), (.ref tA)])) _
        refine X602.iaload hx (j := sv508) (v := (.int ((0 : Int32) ||| (t0 <<< ((29 : Int32) &&& 31))))) (by rw [e602]; exact Ar603.1) (State.isArrayOf_alike hZ.alike Ar603.2.1) Ar603.2.2 (own_inb G603 2048 htl (own_svin hsa508 hsb508)) (own_get G603 hg0) (g := (mkF m 39 #[.val (.ref I), .val (.ref src), .val (.int off), .val (.int len), .val (.int ((2048 : Int32) - (1 : Int32))), .val (.long hv506), .second, .val (.int tv507), .val (.int sv508), .unset] [(.int sv508), (.ref tA)])) rfl rfl (hb hby own_d_prog_34_method_2_39) _ ?_
        refine XS.iconst X602.here hx rfl (hb hby own_d_prog_34_method_2_40) ?_
        refine XS.icmpNo X602.here hx rfl (hb hby own_d_prog_34_method_2_41) rfl (feq (own_e0 ht0).1).1 ?_
        refine XS.aloadN X602.here hx rfl (hb hby own_d_prog_34_method_2_44) rfl rfl ?_
        show Steps p.tables e below (T602.setTop (mkF m 45 #[.val (.ref I), .val (.ref src), .val (.int off), .val (.int len), .val (.int ((2048 : Int32) - (1 : Int32))), .val (.long hv506), .second, .val (.int tv507), .val (.int sv508), .unset] [(.ref I)])) _
        refine st604 _ ?_
        refine XS.iload X604.here hx rfl (hb hby own_d_prog_34_method_2_48) rfl ?_
        refine X604.iaload hx (j := sv508) (v := (.int ((0 : Int32) ||| (t0 <<< ((29 : Int32) &&& 31))))) (by rw [e604]; exact Ar605.1) (State.isArrayOf_alike hZ.alike Ar605.2.1) Ar605.2.2 (own_inb G605 2048 htl (own_svin hsa508 hsb508)) (own_get G605 hg0) (g := (mkF m 50 #[.val (.ref I), .val (.ref src), .val (.int off), .val (.int len), .val (.int ((2048 : Int32) - (1 : Int32))), .val (.long hv506), .second, .val (.int tv507), .val (.int sv508), .unset] [(.int sv508), (.ref tA)])) rfl rfl (hb hby own_d_prog_34_method_2_50) _ ?_
        refine XS.istore X604.here hx rfl (hb hby own_d_prog_34_method_2_51) rfl (l' := #[.val (.ref I), .val (.ref src), .val (.int off), .val (.int len), .val (.int ((2048 : Int32) - (1 : Int32))), .val (.long hv506), .second, .val (.int tv507), .val (.int sv508), .val (.int ((0 : Int32) ||| (t0 <<< ((29 : Int32) &&& 31))))]) rfl ?_
        show Steps p.tables e below (T604.setTop (mkF m 53 #[.val (.ref I), .val (.ref src), .val (.int off), .val (.int len), .val (.int ((2048 : Int32) - (1 : Int32))), .val (.long hv506), .second, .val (.int tv507), .val (.int sv508), .val (.int ((0 : Int32) ||| (t0 <<< ((29 : Int32) &&& 31))))] [])) _
        refine XS.iload X604.here hx rfl (hb hby own_d_prog_34_method_2_53) rfl ?_
        refine XS.bipush X604.here hx rfl (hb hby own_d_prog_34_method_2_55) ?_
        refine XS.iushr X604.here hx rfl (hb hby own_d_prog_34_method_2_57) rfl ?_
        refine XS.iload X604.here hx rfl (hb hby own_d_prog_34_method_2_58) rfl ?_
        show Steps p.tables e below (T604.setTop (mkF m 60 #[.val (.ref I), .val (.ref src), .val (.int off), .val (.int len), .val (.int ((2048 : Int32) - (1 : Int32))), .val (.long hv506), .second, .val (.int tv507), .val (.int sv508), .val (.int ((0 : Int32) ||| (t0 <<< ((29 : Int32) &&& 31))))] [(.int tv507), (.int ((((0 : Int32) ||| (t0 <<< ((29 : Int32) &&& 31))).toUInt32 >>> ((29 : Int32) &&& 31).toUInt32).toInt32))])) _
        refine XS.icmpNo X604.here hx rfl (hb hby own_d_prog_34_method_2_60) rfl (teq q).2 ?_
        refine XS.aloadN X604.here hx rfl (hb hby own_d_prog_34_method_2_63) rfl rfl ?_
        refine XS.iload X604.here hx rfl (hb hby own_d_prog_34_method_2_64) rfl ?_
        refine X604.ldcI hx hown (mvT hZ (own_at hw 79 rfl)) (g := (mkF m 66 #[.val (.ref I), .val (.ref src), .val (.int off), .val (.int len), .val (.int ((2048 : Int32) - (1 : Int32))), .val (.long hv506), .second, .val (.int tv507), .val (.int sv508), .val (.int ((0 : Int32) ||| (t0 <<< ((29 : Int32) &&& 31))))] [(.int ((0 : Int32) ||| (t0 <<< ((29 : Int32) &&& 31)))), (.ref I)])) rfl (hb hby own_d_prog_34_method_2_66) ?_
        show Steps p.tables e below (T604.setTop (mkF m 68 #[.val (.ref I), .val (.ref src), .val (.int off), .val (.int len), .val (.int ((2048 : Int32) - (1 : Int32))), .val (.long hv506), .second, .val (.int tv507), .val (.int sv508), .val (.int ((0 : Int32) ||| (t0 <<< ((29 : Int32) &&& 31))))] [(.int (536870911 : Int32)), (.int ((0 : Int32) ||| (t0 <<< ((29 : Int32) &&& 31)))), (.ref I)])) _
        refine XS.iand X604.here hx rfl (hb hby own_d_prog_34_method_2_68) rfl ?_
        show Steps p.tables e below (T604.setTop (mkF m 69 #[.val (.ref I), .val (.ref src), .val (.int off), .val (.int len), .val (.int ((2048 : Int32) - (1 : Int32))), .val (.long hv506), .second, .val (.int tv507), .val (.int sv508), .val (.int ((0 : Int32) ||| (t0 <<< ((29 : Int32) &&& 31))))] [(.int (((0 : Int32) ||| (t0 <<< ((29 : Int32) &&& 31))) &&& (536870911 : Int32))), (.ref I)])) _
        rw [(own_e0 ht0).2]
        refine XS.aloadN X604.here hx rfl (hb hby own_d_prog_34_method_2_69) rfl rfl ?_
        refine XS.iloadN X604.here hx rfl (hb hby own_d_prog_34_method_2_70) rfl ?_
        refine XS.iloadN X604.here hx rfl (hb hby own_d_prog_34_method_2_71) rfl ?_
        show Steps p.tables e below (T604.setTop (mkF m 72 #[.val (.ref I), .val (.ref src), .val (.int off), .val (.int len), .val (.int ((2048 : Int32) - (1 : Int32))), .val (.long hv506), .second, .val (.int tv507), .val (.int sv508), .val (.int ((0 : Int32) ||| (t0 <<< ((29 : Int32) &&& 31))))] [(.int len), (.int off), (.ref src), (.int (0 : Int32)), (.ref I)])) _
        refine st606.trans ?_
        exact k₀
      rcases hm606 with rv0 | ⟨rv1, hll, hmt⟩
      · obtain ⟨T608, X608, e608, st608⟩ := getF X606 hx hZ hown (host := "") (Or.inl (own_at hw 22 rfl)) Via.refl eh606 dT (g := (mkF m 34 #[.val (.ref I), .val (.ref src), .val (.int off), .val (.int len), .val (.int ((2048 : Int32) - (1 : Int32))), .val (.long hv506), .second, .val (.int tv507), .val (.int ((sv508 + (1 : Int32)) &&& ((2048 : Int32) - (1 : Int32)))), .val (.int ((0 : Int32) ||| (t0 <<< ((29 : Int32) &&& 31))))] [(.ref I)])) rfl rfl (hb hby own_d_prog_34_method_2_34)
        obtain ⟨cl609, Ar609, q609, G609⟩ := id lT
        obtain ⟨cq610, q610, q610'⟩ := dE.cell
        obtain ⟨_, _, ⟨T610, L610, k610, n610⟩, -, X610, ⟨Lc610, hQ610, l610, y610, z610⟩, st610⟩ := X608.privateBack hx (y := (⟨"com/example/orbitfold/orbitfold/StateIndex", "keep", "([JII)I"⟩ : MethodName)) hown (mvT hZ (own_at hw 73 rfl)) (mvT hZ (own_at hw 74 rfl)) (own_selp hZ (own_at hw 2 rfl) (own_at hw 75 rfl) (own_at hw 74 rfl) (by decide)) (Cond.privateMethod_at (mvP hZ (own_at hw 75 rfl) (args := #[]))) (mvT hZ (own_at hw 76 rfl)) (by decide) (backOf (W := 0) (rm_keep2 l Z a0 hw [] I kA sA tA bs wA ck cs ct cw ks ss ts sea wiu ww src cS x0 x1 x2 x3 l0 nd off len h0 n0 Z0 OL ⟨dE, dK, dS, dT, dB, dZ, dR, bE, bW, bY, bO, lK, lS, lT, lW⟩ NE GE Lx NS BA hln hol) hZ (own_at hw 76 rfl) (own_at hw 3 rfl) (by decide) (by decide)) (g := (mkF m 100 #[.val (.ref I), .val (.ref src), .val (.int off), .val (.int len), .val (.int ((2048 : Int32) - (1 : Int32))), .val (.long hv506), .second, .val (.int tv507), .val (.int ((sv508 + (1 : Int32)) &&& ((2048 : Int32) - (1 : Int32)))), .val (.int ((0 : Int32) ||| (t0 <<< ((29 : Int32) &&& 31))))] [(.int len), (.int off), (.ref src), (.ref I)])) rfl (by rw [hml]; rfl) (Steps.refl _) (a := I) (by rw [e608]; exact q610) q610' (argsL := [(.ref src), (.int off), (.int len)]) (rest := []) (lenOf own_pd9 rfl) rfl (by show 2 * 0 + _ ≤ _; exact Nat.le_of_eq rfl) (hb hby own_d_prog_34_method_2_100) (fun _ _ => ⟨rfl, e608, (by decide : 0 + 0 ≤ _), (by decide : 0 + 0 ≤ _)⟩)
        dsimp only [Pt.U, Pt.locs, Pt.cells, Pt.slots] at X610 l610 y610 z610 st610 hQ610
        subst l610 y610 z610
        obtain ⟨rfl, Nq610, K610, D610⟩ := hQ610
        have N610 := Fr.app N606 Nq610
        obtain ⟨i610_0, i610_1, i610_2, i610_3, i610_4, i610_5, i610_6, i610_7, i610_8, i610_9, i610_10, i610_11, i610_12, i610_13, i610_14⟩ := id D610
        have f611 := Lx.keep K610 (by simp [ns_I, ns_sA, ns_kA])
        have OL610 := OL.keep K610 (fun x hx => by
          simp only [List.mem_cons, List.not_mem_nil, or_false] at hx
          rcases hx with rfl | rfl | rfl
          · exact g_I
          · exact g_sA
          · exact g_kA)
        have KP610 : Keep h0 T610.heap [I, kA, sA, tA, bs, wA] := (Keep.refl _ _).trans K610 (fun x hx => by
          simp only [List.mem_cons, List.not_mem_nil, or_false] at hx
          rcases hx with rfl | rfl | rfl
          · exact Or.inl (by simp)
          · exact Or.inl (by simp)
          · exact Or.inl (by simp))
        obtain ⟨T612, X612, e612, st612⟩ := getF X610 hx hZ hown (host := "") (Or.inl (own_at hw 22 rfl)) Via.refl rfl i610_3 (g := (mkF m 106 #[.val (.ref I), .val (.ref src), .val (.int off), .val (.int len), .val (.int ((2048 : Int32) - (1 : Int32))), .val (.long hv506), .second, .val (.int tv507), .val (.int ((sv508 + (1 : Int32)) &&& ((2048 : Int32) - (1 : Int32)))), .val (.int (1 : Int32))] [(.ref I)])) rfl rfl (hb hby own_d_prog_34_method_2_106)
        obtain ⟨cl614, Ar614, q614, G614⟩ := id i610_13
        obtain ⟨T614, h614, X614, e614, W614, st614⟩ := stI X612 hx hZ e612 Ar614 (j := ((sv508 + (1 : Int32)) &&& ((2048 : Int32) - (1 : Int32)))) (own_inb G614 2048 htl (own_svin (own_next hsa508 hsb508).1 (own_next hsa508 hsb508).2.1)) (g := (mkF m 119 #[.val (.ref I), .val (.ref src), .val (.int off), .val (.int len), .val (.int ((2048 : Int32) - (1 : Int32))), .val (.long hv506), .second, .val (.int tv507), .val (.int ((sv508 + (1 : Int32)) &&& ((2048 : Int32) - (1 : Int32)))), .val (.int (1 : Int32))] [(.int ((1 : Int32) ||| (tv507 <<< ((29 : Int32) &&& 31)))), (.int ((sv508 + (1 : Int32)) &&& ((2048 : Int32) - (1 : Int32)))), (.ref tA)])) rfl rfl (hb hby own_d_prog_34_method_2_119)
        have N614 := Fr.snoc X614 N610 g_tA
        have v613 := own_lst_set Ar614 q614 G614 W614
        have f615 := f611.other W614 ns_tA
        have f616 := i610_0.wr W614
        have f617 := i610_1.other W614 (Or.inl ne_I_tA)
        have f618 := i610_2.other W614 (Or.inl ne_I_tA)
        have f619 := i610_3.other W614 (Or.inl ne_I_tA)
        have f620 := i610_4.other W614 (Or.inl ne_I_tA)
        have f621 := i610_5.other W614 (Or.inl ne_I_tA)
        have f622 := i610_6.other W614 (Or.inl ne_I_tA)
        have f623 := i610_7.wr W614
        have f624 := i610_8.other W614 (Or.inl (Ne.symm ne_tA_bs))
        have f625 := i610_9.other W614 (Or.inl (Ne.symm ne_tA_bs))
        have f626 := i610_10.other W614 (Or.inl (Ne.symm ne_tA_bs))
        have f627 := i610_11.other W614 ne_kA_tA
        have f628 := i610_12.other W614 ne_sA_tA
        have f629 : OwnLst Z h614 tA .int ct (List.set ts ((sv508 + (1 : Int32)) &&& ((2048 : Int32) - (1 : Int32))).toNatClampNeg (.int ((1 : Int32) ||| (tv507 <<< ((29 : Int32) &&& 31))))) := v613
        have f630 := i610_14.other W614 (Ne.symm ne_tA_wA)
        have OL614 := OL610.wr W614 g_tA
        have KP614 : Keep h0 h614 [I, kA, sA, tA, bs, wA] := KP610.wr W614 (Or.inl (by simp))
        obtain ⟨T631, X631, e631, st631⟩ := getF X614 hx hZ hown (host := "") (Or.inl (own_at hw 109 rfl)) Via.refl e614 f622 (g := (mkF m 122 #[.val (.ref I), .val (.ref src), .val (.int off), .val (.int len), .val (.int ((2048 : Int32) - (1 : Int32))), .val (.long hv506), .second, .val (.int tv507), .val (.int ((sv508 + (1 : Int32)) &&& ((2048 : Int32) - (1 : Int32)))), .val (.int (1 : Int32))] [(.ref I), (.ref I)])) rfl rfl (hb hby own_d_prog_34_method_2_122)
        obtain ⟨T632, h632, X632, e632, W632, st632⟩ := putF X631 hx hZ hown (host := "") (Or.inl (own_at hw 109 rfl)) Via.refl e631 f622 f616 (Or.inl (own_at hw 110 rfl)) (own_at hw 2 rfl) (ty := .int) (by decide) rfl rfl (g := (mkF m 127 #[.val (.ref I), .val (.ref src), .val (.int off), .val (.int len), .val (.int ((2048 : Int32) - (1 : Int32))), .val (.long hv506), .second, .val (.int tv507), .val (.int ((sv508 + (1 : Int32)) &&& ((2048 : Int32) - (1 : Int32)))), .val (.int (1 : Int32))] [(.int (sea + (1 : Int32))), (.ref I)])) rfl rfl (hb hby own_d_prog_34_method_2_127)
        have N632 := Fr.snoc X632 N614 g_I
        have f633 := f615.other W632 ns_I
        have f634 := f616.wr W632
        have f635 := f617.other W632 (Or.inr (slot_ne (Or.inl (own_at hw 11 rfl)) (Or.inl (own_at hw 110 rfl)) (by decide) (t := (.array .long)) (t' := .int) (by decide) (by decide)))
        have f636 := f618.other W632 (Or.inr (slot_ne (Or.inl (own_at hw 14 rfl)) (Or.inl (own_at hw 110 rfl)) (by decide) (t := (.array .int)) (t' := .int) (by decide) (by decide)))
        have f637 := f619.other W632 (Or.inr (slot_ne (Or.inl (own_at hw 23 rfl)) (Or.inl (own_at hw 110 rfl)) (by decide) (t := (.array .int)) (t' := .int) (by decide) (by decide)))
        have f638 := f620.other W632 (Or.inr (slot_ne (Or.inr (own_at hw 46 rfl)) (Or.inl (own_at hw 110 rfl)) (by decide) (t := (.object "java/util/BitSet")) (t' := .int) (by decide) (by decide)))
        have f639 := f621.other W632 (Or.inr (slot_ne (Or.inl (own_at hw 78 rfl)) (Or.inl (own_at hw 110 rfl)) (by decide) (t := .int) (t' := .int) (by decide) (by decide)))
        have f640 : Fld Z h632 I "com/example/orbitfold/orbitfold/StateIndex" "searchable" "I" (.int (sea + (1 : Int32))) := f622.same W632
        have f641 := f623.wr W632
        have f642 := f624.other W632 (Or.inl (Ne.symm ne_I_bs))
        have f643 := f625.other W632 (Or.inl (Ne.symm ne_I_bs))
        have f644 := f626.other W632 (Or.inl (Ne.symm ne_I_bs))
        have f645 := f627.other W632 (Ne.symm ne_I_kA)
        have f646 := f628.other W632 (Ne.symm ne_I_sA)
        have f647 := f629.other W632 (Ne.symm ne_I_tA)
        have f648 := f630.other W632 (Ne.symm ne_I_wA)
        have OL632 := OL614.wr W632 g_I
        have KP632 : Keep h0 h632 [I, kA, sA, tA, bs, wA] := KP614.wr W632 (Or.inl (by simp))
        obtain ⟨T649, X649, e649, st649⟩ := getF X632 hx hZ hown (host := "") (Or.inl (own_at hw 109 rfl)) Via.refl e632 f640 (g := (mkF m 134 #[.val (.ref I), .val (.ref src), .val (.int off), .val (.int len), .val (.int ((2048 : Int32) - (1 : Int32))), .val (.long hv506), .second, .val (.int tv507), .val (.int ((sv508 + (1 : Int32)) &&& ((2048 : Int32) - (1 : Int32)))), .val (.int (1 : Int32))] [(.ref I), (.long (2 : Int64))])) rfl rfl (hb hby own_d_prog_34_method_2_134)
        obtain ⟨T650, X650, e650, st650⟩ := getF X649 hx hZ hown (host := "") (Or.inl (own_at hw 22 rfl)) Via.refl e649 f637 (g := (mkF m 140 #[.val (.ref I), .val (.ref src), .val (.int off), .val (.int len), .val (.int ((2048 : Int32) - (1 : Int32))), .val (.long hv506), .second, .val (.int tv507), .val (.int ((sv508 + (1 : Int32)) &&& ((2048 : Int32) - (1 : Int32)))), .val (.int (1 : Int32))] [(.ref I), (.long ((2 : Int64) * ((sea + (1 : Int32)).toInt64)))])) rfl rfl (hb hby own_d_prog_34_method_2_140)
        obtain ⟨cl651, Ar651, q651, G651⟩ := id f647
        obtain ⟨fs, hr, hrun, hended, hW, hsame⟩ := X650.leave (v := some (.int (1 : Int32))) (fun h => by rw [Bd.returns] at h; cases h)
        refine ⟨_, _, pre0 _ ?_, hrun, hended, _, _, rfl, ?_, ⟨_, rfl⟩, hW, hsame.mono (by decide) (by decide)⟩
        · show Steps p.tables e below (s₁.setTop (mkF m 0 #[.val (.ref I), .val (.ref src), .val (.int off), .val (.int len), .unset, .unset, .unset, .unset, .unset, .unset] [])) _
          refine stP607 _ ?_
          refine XS.ifYes X606.here hx rfl (pc0 := 75) (pc' := 84) rfl (hb hby own_d_prog_34_method_2_75) rfl ((if0 _ _).trans (teq rv0).1) (by decide) (by decide) ?_
          refine XS.iload X606.here hx rfl (hb hby own_d_prog_34_method_2_84) rfl ?_
          refine XS.iconst X606.here hx rfl (hb hby own_d_prog_34_method_2_86) ?_
          show Steps p.tables e below (T606.setTop (mkF m 87 #[.val (.ref I), .val (.ref src), .val (.int off), .val (.int len), .val (.int ((2048 : Int32) - (1 : Int32))), .val (.long hv506), .second, .val (.int tv507), .val (.int sv508), .val (.int ((0 : Int32) ||| (t0 <<< ((29 : Int32) &&& 31))))] [(.int (1 : Int32)), (.int sv508)])) _
          refine XS.iadd X606.here hx rfl (hb hby own_d_prog_34_method_2_87) rfl ?_
          refine XS.iload X606.here hx rfl (hb hby own_d_prog_34_method_2_88) rfl ?_
          refine XS.iand X606.here hx rfl (hb hby own_d_prog_34_method_2_90) rfl ?_
          refine XS.istore X606.here hx rfl (hb hby own_d_prog_34_method_2_91) rfl (l' := #[.val (.ref I), .val (.ref src), .val (.int off), .val (.int len), .val (.int ((2048 : Int32) - (1 : Int32))), .val (.long hv506), .second, .val (.int tv507), .val (.int ((sv508 + (1 : Int32)) &&& ((2048 : Int32) - (1 : Int32)))), .val (.int ((0 : Int32) ||| (t0 <<< ((29 : Int32) &&& 31))))]) rfl ?_
          show Steps p.tables e below (T606.setTop (mkF m 93 #[.val (.ref I), .val (.ref src), .val (.int off), .val (.int len), .val (.int ((2048 : Int32) - (1 : Int32))), .val (.long hv506), .second, .val (.int tv507), .val (.int ((sv508 + (1 : Int32)) &&& ((2048 : Int32) - (1 : Int32)))), .val (.int ((0 : Int32) ||| (t0 <<< ((29 : Int32) &&& 31))))] [])) _
          refine XS.goto X606.here hx rfl (pc0 := 93) (pc' := 33) rfl (hb hby own_d_prog_34_method_2_93) (by decide) (by decide) ?_
          refine XS.aloadN X606.here hx rfl (hb hby own_d_prog_34_method_2_33) rfl rfl ?_
          refine st608 _ ?_
          refine XS.iload X608.here hx rfl (hb hby own_d_prog_34_method_2_37) rfl ?_
          show Steps p.tables e below (T608.setTop (mkF m 39 #[.val (.ref I), .val (.ref src), .val (.int off), .val (.int len), .val (.int ((2048 : Int32) - (1 : Int32))), .val (.long hv506), .second, .val (.int tv507), .val (.int ((sv508 + (1 : Int32)) &&& ((2048 : Int32) - (1 : Int32)))), .val (.int ((0 : Int32) ||| (t0 <<< ((29 : Int32) &&& 31))))] [(.int ((sv508 + (1 : Int32)) &&& ((2048 : Int32) - (1 : Int32)))), (.ref tA)])) _
          refine X608.iaload hx (j := ((sv508 + (1 : Int32)) &&& ((2048 : Int32) - (1 : Int32)))) (v := (.int (-1 : Int32))) (by rw [e608]; exact Ar609.1) (State.isArrayOf_alike hZ.alike Ar609.2.1) Ar609.2.2 (own_inb G609 2048 htl (own_svin (own_next hsa508 hsb508).1 (own_next hsa508 hsb508).2.1)) (own_get G609 hg1) (g := (mkF m 39 #[.val (.ref I), .val (.ref src), .val (.int off), .val (.int len), .val (.int ((2048 : Int32) - (1 : Int32))), .val (.long hv506), .second, .val (.int tv507), .val (.int ((sv508 + (1 : Int32)) &&& ((2048 : Int32) - (1 : Int32)))), .val (.int ((0 : Int32) ||| (t0 <<< ((29 : Int32) &&& 31))))] [(.int ((sv508 + (1 : Int32)) &&& ((2048 : Int32) - (1 : Int32)))), (.ref tA)])) rfl rfl (hb hby own_d_prog_34_method_2_39) _ ?_
          refine XS.iconst X608.here hx rfl (hb hby own_d_prog_34_method_2_40) ?_
          refine XS.icmpYes X608.here hx rfl (pc0 := 41) (pc' := 96) rfl (hb hby own_d_prog_34_method_2_41) rfl (teq (rfl : (-1 : Int32) = (-1 : Int32))).1 (by decide) (by decide) ?_
          refine XS.aloadN X608.here hx rfl (hb hby own_d_prog_34_method_2_96) rfl rfl ?_
          show Steps p.tables e below (T608.setTop (mkF m 97 #[.val (.ref I), .val (.ref src), .val (.int off), .val (.int len), .val (.int ((2048 : Int32) - (1 : Int32))), .val (.long hv506), .second, .val (.int tv507), .val (.int ((sv508 + (1 : Int32)) &&& ((2048 : Int32) - (1 : Int32)))), .val (.int ((0 : Int32) ||| (t0 <<< ((29 : Int32) &&& 31))))] [(.ref I)])) _
          refine XS.aloadN X608.here hx rfl (hb hby own_d_prog_34_method_2_97) rfl rfl ?_
          refine XS.iloadN X608.here hx rfl (hb hby own_d_prog_34_method_2_98) rfl ?_
          refine XS.iloadN X608.here hx rfl (hb hby own_d_prog_34_method_2_99) rfl ?_
          refine st610.trans ?_
          show Steps p.tables e below (T610.setTop (mkF m 103 #[.val (.ref I), .val (.ref src), .val (.int off), .val (.int len), .val (.int ((2048 : Int32) - (1 : Int32))), .val (.long hv506), .second, .val (.int tv507), .val (.int ((sv508 + (1 : Int32)) &&& ((2048 : Int32) - (1 : Int32)))), .val (.int ((0 : Int32) ||| (t0 <<< ((29 : Int32) &&& 31))))] [(.int (1 : Int32))])) _
          refine XS.istore X610.here hx rfl (hb hby own_d_prog_34_method_2_103) rfl (l' := #[.val (.ref I), .val (.ref src), .val (.int off), .val (.int len), .val (.int ((2048 : Int32) - (1 : Int32))), .val (.long hv506), .second, .val (.int tv507), .val (.int ((sv508 + (1 : Int32)) &&& ((2048 : Int32) - (1 : Int32)))), .val (.int (1 : Int32))]) rfl ?_
          refine XS.aloadN X610.here hx rfl (hb hby own_d_prog_34_method_2_105) rfl rfl ?_
          refine st612 _ ?_
          refine XS.iload X612.here hx rfl (hb hby own_d_prog_34_method_2_109) rfl ?_
          show Steps p.tables e below (T612.setTop (mkF m 111 #[.val (.ref I), .val (.ref src), .val (.int off), .val (.int len), .val (.int ((2048 : Int32) - (1 : Int32))), .val (.long hv506), .second, .val (.int tv507), .val (.int ((sv508 + (1 : Int32)) &&& ((2048 : Int32) - (1 : Int32)))), .val (.int (1 : Int32))] [(.int ((sv508 + (1 : Int32)) &&& ((2048 : Int32) - (1 : Int32)))), (.ref tA)])) _
          refine XS.iload X612.here hx rfl (hb hby own_d_prog_34_method_2_111) rfl ?_
          refine XS.iload X612.here hx rfl (hb hby own_d_prog_34_method_2_113) rfl ?_
          refine XS.bipush X612.here hx rfl (hb hby own_d_prog_34_method_2_115) ?_
          refine XS.ishl X612.here hx rfl (hb hby own_d_prog_34_method_2_117) rfl ?_
          show Steps p.tables e below (T612.setTop (mkF m 118 #[.val (.ref I), .val (.ref src), .val (.int off), .val (.int len), .val (.int ((2048 : Int32) - (1 : Int32))), .val (.long hv506), .second, .val (.int tv507), .val (.int ((sv508 + (1 : Int32)) &&& ((2048 : Int32) - (1 : Int32)))), .val (.int (1 : Int32))] [(.int (tv507 <<< ((29 : Int32) &&& 31))), (.int (1 : Int32)), (.int ((sv508 + (1 : Int32)) &&& ((2048 : Int32) - (1 : Int32)))), (.ref tA)])) _
          refine XS.ior X612.here hx rfl (hb hby own_d_prog_34_method_2_118) rfl ?_
          refine st614 _ ?_
          refine XS.aloadN X614.here hx rfl (hb hby own_d_prog_34_method_2_120) rfl rfl ?_
          refine XS.dup X614.here hx rfl (hb hby own_d_prog_34_method_2_121) rfl rfl ?_
          show Steps p.tables e below (T614.setTop (mkF m 122 #[.val (.ref I), .val (.ref src), .val (.int off), .val (.int len), .val (.int ((2048 : Int32) - (1 : Int32))), .val (.long hv506), .second, .val (.int tv507), .val (.int ((sv508 + (1 : Int32)) &&& ((2048 : Int32) - (1 : Int32)))), .val (.int (1 : Int32))] [(.ref I), (.ref I)])) _
          refine st631 _ ?_
          refine XS.iconst X631.here hx rfl (hb hby own_d_prog_34_method_2_125) ?_
          refine XS.iadd X631.here hx rfl (hb hby own_d_prog_34_method_2_126) rfl ?_
          refine st632 _ ?_
          show Steps p.tables e below (T632.setTop (mkF m 130 #[.val (.ref I), .val (.ref src), .val (.int off), .val (.int len), .val (.int ((2048 : Int32) - (1 : Int32))), .val (.long hv506), .second, .val (.int tv507), .val (.int ((sv508 + (1 : Int32)) &&& ((2048 : Int32) - (1 : Int32)))), .val (.int (1 : Int32))] [])) _
          refine X632.ldc2J hx hown (mvT hZ (own_at hw 111 rfl)) (g := (mkF m 130 #[.val (.ref I), .val (.ref src), .val (.int off), .val (.int len), .val (.int ((2048 : Int32) - (1 : Int32))), .val (.long hv506), .second, .val (.int tv507), .val (.int ((sv508 + (1 : Int32)) &&& ((2048 : Int32) - (1 : Int32)))), .val (.int (1 : Int32))] [])) rfl (hb hby own_d_prog_34_method_2_130) ?_
          refine XS.aloadN X632.here hx rfl (hb hby own_d_prog_34_method_2_133) rfl rfl ?_
          refine st649 _ ?_
          refine XS.i2l X649.here hx rfl (hb hby own_d_prog_34_method_2_137) rfl ?_
          show Steps p.tables e below (T649.setTop (mkF m 138 #[.val (.ref I), .val (.ref src), .val (.int off), .val (.int len), .val (.int ((2048 : Int32) - (1 : Int32))), .val (.long hv506), .second, .val (.int tv507), .val (.int ((sv508 + (1 : Int32)) &&& ((2048 : Int32) - (1 : Int32)))), .val (.int (1 : Int32))] [(.long ((sea + (1 : Int32)).toInt64)), (.long (2 : Int64))])) _
          refine XS.lmul X649.here hx rfl (hb hby own_d_prog_34_method_2_138) rfl ?_
          refine XS.aloadN X649.here hx rfl (hb hby own_d_prog_34_method_2_139) rfl rfl ?_
          refine st650 _ ?_
          refine X650.arraylength hx (cell := cl651) (by rw [e650]; exact Ar651.1) (State.isArrayOf_alike hZ.alike Ar651.2.1) (g := (mkF m 143 #[.val (.ref I), .val (.ref src), .val (.int off), .val (.int len), .val (.int ((2048 : Int32) - (1 : Int32))), .val (.long hv506), .second, .val (.int tv507), .val (.int ((sv508 + (1 : Int32)) &&& ((2048 : Int32) - (1 : Int32)))), .val (.int (1 : Int32))] [(.ref tA), (.long ((2 : Int64) * ((sea + (1 : Int32)).toInt64)))])) rfl (rest := [(.long ((2 : Int64) * ((sea + (1 : Int32)).toInt64)))]) rfl (hb hby own_d_prog_34_method_2_143) _ ?_
          rw [own_len (z := (2048 : Int32)) G651 (by rw [List.length_set, htl]; decide)]
          show Steps p.tables e below (T650.setTop (mkF m 144 #[.val (.ref I), .val (.ref src), .val (.int off), .val (.int len), .val (.int ((2048 : Int32) - (1 : Int32))), .val (.long hv506), .second, .val (.int tv507), .val (.int ((sv508 + (1 : Int32)) &&& ((2048 : Int32) - (1 : Int32)))), .val (.int (1 : Int32))] [(.int (2048 : Int32)), (.long ((2 : Int64) * ((sea + (1 : Int32)).toInt64)))])) _
          refine XS.i2l X650.here hx rfl (hb hby own_d_prog_34_method_2_144) rfl ?_
          refine XS.lcmp X650.here hx rfl (hb hby own_d_prog_34_method_2_145) rfl ?_
          refine XS.ifYes X650.here hx rfl (pc0 := 146) (pc' := 153) rfl (hb hby own_d_prog_34_method_2_146) rfl ((if0 _ _).trans (flt (show ¬ ((0 : Int32) < lcmpW ((2 : Int64) * ((sea + (1 : Int32)).toInt64)) ((2048 : Int32).toInt64)) by rcases hsea with z | z <;> rw [z] <;> decide)).2.2.2) (by decide) (by decide) ?_
          refine XS.iload X650.here hx rfl (hb hby own_d_prog_34_method_2_153) rfl ?_
          show Steps p.tables e below (T650.setTop (mkF m 155 #[.val (.ref I), .val (.ref src), .val (.int off), .val (.int len), .val (.int ((2048 : Int32) - (1 : Int32))), .val (.long hv506), .second, .val (.int tv507), .val (.int ((sv508 + (1 : Int32)) &&& ((2048 : Int32) - (1 : Int32)))), .val (.int (1 : Int32))] [(.int (1 : Int32))])) _
          exact own_retI X650 hx Bd.returns (hb hby own_d_prog_34_method_2_155) hr
        · show rm_ix2_Q Z I kA sA tA bs wA ck cs ct cw ks ss ts sea wiu ww src cS x0 x1 x2 x3 l0 nd off len h0 n0 _ T650.heap _
          rw [e650]
          exact ⟨(1 : Int32), l0, _, _, _, _, _, _, _, rfl, N632, KP632, ⟨f634, f635, f636, f637, f638, f639, f640, f641, f642, f643, f644, f645, f646, f647, f648⟩, (own_has2 hln hol x0 x1 x2 x3 BA).1, (own_has2 hln hol x0 x1 x2 x3 BA).2⟩
      · obtain ⟨fs, hr, hrun, hended, hW, hsame⟩ := X606.leave (v := some (.int (0 : Int32))) (fun h => by rw [Bd.returns] at h; cases h)
        refine ⟨_, _, pre0 _ ?_, hrun, hended, _, _, rfl, ?_, ⟨_, rfl⟩, hW, hsame.mono (by decide) (by decide)⟩
        · show Steps p.tables e below (s₁.setTop (mkF m 0 #[.val (.ref I), .val (.ref src), .val (.int off), .val (.int len), .unset, .unset, .unset, .unset, .unset, .unset] [])) _
          refine stP607 _ ?_
          refine XS.ifNo X606.here hx rfl (hb hby own_d_prog_34_method_2_75) rfl ((if0 _ _).trans (feq (show ¬ (rv606 = (0 : Int32)) by rw [rv1]; decide)).1) ?_
          refine XS.iload X606.here hx rfl (hb hby own_d_prog_34_method_2_78) rfl ?_
          refine X606.ldcI hx hown (mvT hZ (own_at hw 79 rfl)) (g := (mkF m 80 #[.val (.ref I), .val (.ref src), .val (.int off), .val (.int len), .val (.int ((2048 : Int32) - (1 : Int32))), .val (.long hv506), .second, .val (.int tv507), .val (.int sv508), .val (.int ((0 : Int32) ||| (t0 <<< ((29 : Int32) &&& 31))))] [(.int ((0 : Int32) ||| (t0 <<< ((29 : Int32) &&& 31))))])) rfl (hb hby own_d_prog_34_method_2_80) ?_
          show Steps p.tables e below (T606.setTop (mkF m 82 #[.val (.ref I), .val (.ref src), .val (.int off), .val (.int len), .val (.int ((2048 : Int32) - (1 : Int32))), .val (.long hv506), .second, .val (.int tv507), .val (.int sv508), .val (.int ((0 : Int32) ||| (t0 <<< ((29 : Int32) &&& 31))))] [(.int (536870911 : Int32)), (.int ((0 : Int32) ||| (t0 <<< ((29 : Int32) &&& 31))))])) _
          refine XS.iand X606.here hx rfl (hb hby own_d_prog_34_method_2_82) rfl ?_
          show Steps p.tables e below (T606.setTop (mkF m 83 #[.val (.ref I), .val (.ref src), .val (.int off), .val (.int len), .val (.int ((2048 : Int32) - (1 : Int32))), .val (.long hv506), .second, .val (.int tv507), .val (.int sv508), .val (.int ((0 : Int32) ||| (t0 <<< ((29 : Int32) &&& 31))))] [(.int (((0 : Int32) ||| (t0 <<< ((29 : Int32) &&& 31))) &&& (536870911 : Int32)))])) _
          rw [(own_e0 ht0).2]
          exact own_retI X606 hx Bd.returns (hb hby own_d_prog_34_method_2_83) hr
        · show rm_ix2_Q Z I kA sA tA bs wA ck cs ct cw ks ss ts sea wiu ww src cS x0 x1 x2 x3 l0 nd off len h0 n0 _ T606.heap _
          rw [eh606]
          exact ⟨(0 : Int32), (0 : Int32), _, _, _, _, _, _, _, rfl, N606, (Keep.refl _ _), ⟨dE, dK, dS, dT, dB, dZ, dR, bE, bW, bY, bO, lK, lS, lT, lW⟩, BA, own_has1 hln hol x0 x1 x2 x3 BA hll hmt⟩
    · obtain ⟨T554, X554, e554, st554⟩ := getF X508 hx hZ hown (host := "") (Or.inl (own_at hw 22 rfl)) Via.refl eh508 dT (g := (mkF m 34 #[.val (.ref I), .val (.ref src), .val (.int off), .val (.int len), .val (.int ((2048 : Int32) - (1 : Int32))), .val (.long hv506), .second, .val (.int tv507), .val (.int sv508), .unset] [(.ref I)])) rfl rfl (hb hby own_d_prog_34_method_2_34)
      obtain ⟨cl555, Ar555, q555, G555⟩ := id lT
      obtain ⟨T556, X556, e556, st556⟩ := getF X554 hx hZ hown (host := "") (Or.inl (own_at hw 22 rfl)) Via.refl e554 dT (g := (mkF m 45 #[.val (.ref I), .val (.ref src), .val (.int off), .val (.int len), .val (.int ((2048 : Int32) - (1 : Int32))), .val (.long hv506), .second, .val (.int tv507), .val (.int sv508), .unset] [(.ref I)])) rfl rfl (hb hby own_d_prog_34_method_2_45)
      obtain ⟨cl557, Ar557, q557, G557⟩ := id lT
      obtain ⟨T558, X558, e558, st558⟩ := getF X556 hx hZ hown (host := "") (Or.inl (own_at hw 22 rfl)) Via.refl e556 dT (g := (mkF m 34 #[.val (.ref I), .val (.ref src), .val (.int off), .val (.int len), .val (.int ((2048 : Int32) - (1 : Int32))), .val (.long hv506), .second, .val (.int tv507), .val (.int ((sv508 + (1 : Int32)) &&& ((2048 : Int32) - (1 : Int32)))), .val (.int ((0 : Int32) ||| (t0 <<< ((29 : Int32) &&& 31))))] [(.ref I)])) rfl rfl (hb hby own_d_prog_34_method_2_34)
      obtain ⟨cl559, Ar559, q559, G559⟩ := id lT
      obtain ⟨cq560, q560, q560'⟩ := dE.cell
      obtain ⟨_, _, ⟨T560, L560, k560, n560⟩, -, X560, ⟨Lc560, hQ560, l560, y560, z560⟩, st560⟩ := X558.privateBack hx (y := (⟨"com/example/orbitfold/orbitfold/StateIndex", "keep", "([JII)I"⟩ : MethodName)) hown (mvT hZ (own_at hw 73 rfl)) (mvT hZ (own_at hw 74 rfl)) (own_selp hZ (own_at hw 2 rfl) (own_at hw 75 rfl) (own_at hw 74 rfl) (by decide)) (Cond.privateMethod_at (mvP hZ (own_at hw 75 rfl) (args := #[]))) (mvT hZ (own_at hw 76 rfl)) (by decide) (backOf (W := 0) (rm_keep2 l Z a0 hw [] I kA sA tA bs wA ck cs ct cw ks ss ts sea wiu ww src cS x0 x1 x2 x3 l0 nd off len h0 n0 Z0 OL ⟨dE, dK, dS, dT, dB, dZ, dR, bE, bW, bY, bO, lK, lS, lT, lW⟩ NE GE Lx NS BA hln hol) hZ (own_at hw 76 rfl) (own_at hw 3 rfl) (by decide) (by decide)) (g := (mkF m 100 #[.val (.ref I), .val (.ref src), .val (.int off), .val (.int len), .val (.int ((2048 : Int32) - (1 : Int32))), .val (.long hv506), .second, .val (.int tv507), .val (.int ((sv508 + (1 : Int32)) &&& ((2048 : Int32) - (1 : Int32)))), .val (.int ((0 : Int32) ||| (t0 <<< ((29 : Int32) &&& 31))))] [(.int len), (.int off), (.ref src), (.ref I)])) rfl (by rw [hml]; rfl) (Steps.refl _) (a := I) (by rw [e558]; exact q560) q560' (argsL := [(.ref src), (.int off), (.int len)]) (rest := []) (lenOf own_pd9 rfl) rfl (by show 2 * 0 + _ ≤ _; exact Nat.le_of_eq rfl) (hb hby own_d_prog_34_method_2_100) (fun _ _ => ⟨rfl, e558, (by decide : 0 + 0 ≤ _), (by decide : 0 + 0 ≤ _)⟩)
      dsimp only [Pt.U, Pt.locs, Pt.cells, Pt.slots] at X560 l560 y560 z560 st560 hQ560
      subst l560 y560 z560
      obtain ⟨rfl, Nq560, K560, D560⟩ := hQ560
      have N560 := Fr.app N508 Nq560
      obtain ⟨i560_0, i560_1, i560_2, i560_3, i560_4, i560_5, i560_6, i560_7, i560_8, i560_9, i560_10, i560_11, i560_12, i560_13, i560_14⟩ := id D560
      have f561 := Lx.keep K560 (by simp [ns_I, ns_sA, ns_kA])
      have OL560 := OL.keep K560 (fun x hx => by
        simp only [List.mem_cons, List.not_mem_nil, or_false] at hx
        rcases hx with rfl | rfl | rfl
        · exact g_I
        · exact g_sA
        · exact g_kA)
      have KP560 : Keep h0 T560.heap [I, kA, sA, tA, bs, wA] := (Keep.refl _ _).trans K560 (fun x hx => by
        simp only [List.mem_cons, List.not_mem_nil, or_false] at hx
        rcases hx with rfl | rfl | rfl
        · exact Or.inl (by simp)
        · exact Or.inl (by simp)
        · exact Or.inl (by simp))
      obtain ⟨T562, X562, e562, st562⟩ := getF X560 hx hZ hown (host := "") (Or.inl (own_at hw 22 rfl)) Via.refl rfl i560_3 (g := (mkF m 106 #[.val (.ref I), .val (.ref src), .val (.int off), .val (.int len), .val (.int ((2048 : Int32) - (1 : Int32))), .val (.long hv506), .second, .val (.int tv507), .val (.int ((sv508 + (1 : Int32)) &&& ((2048 : Int32) - (1 : Int32)))), .val (.int (1 : Int32))] [(.ref I)])) rfl rfl (hb hby own_d_prog_34_method_2_106)
      obtain ⟨cl564, Ar564, q564, G564⟩ := id i560_13
      obtain ⟨T564, h564, X564, e564, W564, st564⟩ := stI X562 hx hZ e562 Ar564 (j := ((sv508 + (1 : Int32)) &&& ((2048 : Int32) - (1 : Int32)))) (own_inb G564 2048 htl (own_svin (own_next hsa508 hsb508).1 (own_next hsa508 hsb508).2.1)) (g := (mkF m 119 #[.val (.ref I), .val (.ref src), .val (.int off), .val (.int len), .val (.int ((2048 : Int32) - (1 : Int32))), .val (.long hv506), .second, .val (.int tv507), .val (.int ((sv508 + (1 : Int32)) &&& ((2048 : Int32) - (1 : Int32)))), .val (.int (1 : Int32))] [(.int ((1 : Int32) ||| (tv507 <<< ((29 : Int32) &&& 31)))), (.int ((sv508 + (1 : Int32)) &&& ((2048 : Int32) - (1 : Int32)))), (.ref tA)])) rfl rfl (hb hby own_d_prog_34_method_2_119)
      have N564 := Fr.snoc X564 N560 g_tA
      have v563 := own_lst_set Ar564 q564 G564 W564
      have f565 := f561.other W564 ns_tA
      have f566 := i560_0.wr W564
      have f567 := i560_1.other W564 (Or.inl ne_I_tA)
      have f568 := i560_2.other W564 (Or.inl ne_I_tA)
      have f569 := i560_3.other W564 (Or.inl ne_I_tA)
      have f570 := i560_4.other W564 (Or.inl ne_I_tA)
      have f571 := i560_5.other W564 (Or.inl ne_I_tA)
      have f572 := i560_6.other W564 (Or.inl ne_I_tA)
      have f573 := i560_7.wr W564
      have f574 := i560_8.other W564 (Or.inl (Ne.symm ne_tA_bs))
      have f575 := i560_9.other W564 (Or.inl (Ne.symm ne_tA_bs))
      have f576 := i560_10.other W564 (Or.inl (Ne.symm ne_tA_bs))
      have f577 := i560_11.other W564 ne_kA_tA
      have f578 := i560_12.other W564 ne_sA_tA
      have f579 : OwnLst Z h564 tA .int ct (List.set ts ((sv508 + (1 : Int32)) &&& ((2048 : Int32) - (1 : Int32))).toNatClampNeg (.int ((1 : Int32) ||| (tv507 <<< ((29 : Int32) &&& 31))))) := v563
      have f580 := i560_14.other W564 (Ne.symm ne_tA_wA)
      have OL564 := OL560.wr W564 g_tA
      have KP564 : Keep h0 h564 [I, kA, sA, tA, bs, wA] := KP560.wr W564 (Or.inl (by simp))
      obtain ⟨T581, X581, e581, st581⟩ := getF X564 hx hZ hown (host := "") (Or.inl (own_at hw 109 rfl)) Via.refl e564 f572 (g := (mkF m 122 #[.val (.ref I), .val (.ref src), .val (.int off), .val (.int len), .val (.int ((2048 : Int32) - (1 : Int32))), .val (.long hv506), .second, .val (.int tv507), .val (.int ((sv508 + (1 : Int32)) &&& ((2048 : Int32) - (1 : Int32)))), .val (.int (1 : Int32))] [(.ref I), (.ref I)])) rfl rfl (hb hby own_d_prog_34_method_2_122)
      obtain ⟨T582, h582, X582, e582, W582, st582⟩ := putF X581 hx hZ hown (host := "") (Or.inl (own_at hw 109 rfl)) Via.refl e581 f572 f566 (Or.inl (own_at hw 110 rfl)) (own_at hw 2 rfl) (ty := .int) (by decide) rfl rfl (g := (mkF m 127 #[.val (.ref I), .val (.ref src), .val (.int off), .val (.int len), .val (.int ((2048 : Int32) - (1 : Int32))), .val (.long hv506), .second, .val (.int tv507), .val (.int ((sv508 + (1 : Int32)) &&& ((2048 : Int32) - (1 : Int32)))), .val (.int (1 : Int32))] [(.int (sea + (1 : Int32))), (.ref I)])) rfl rfl (hb hby own_d_prog_34_method_2_127)
      have N582 := Fr.snoc X582 N564 g_I
      have f583 := f565.other W582 ns_I
      have f584 := f566.wr W582
      have f585 := f567.other W582 (Or.inr (slot_ne (Or.inl (own_at hw 11 rfl)) (Or.inl (own_at hw 110 rfl)) (by decide) (t := (.array .long)) (t' := .int) (by decide) (by decide)))
      have f586 := f568.other W582 (Or.inr (slot_ne (Or.inl (own_at hw 14 rfl)) (Or.inl (own_at hw 110 rfl)) (by decide) (t := (.array .int)) (t' := .int) (by decide) (by decide)))
      have f587 := f569.other W582 (Or.inr (slot_ne (Or.inl (own_at hw 23 rfl)) (Or.inl (own_at hw 110 rfl)) (by decide) (t := (.array .int)) (t' := .int) (by decide) (by decide)))
      have f588 := f570.other W582 (Or.inr (slot_ne (Or.inr (own_at hw 46 rfl)) (Or.inl (own_at hw 110 rfl)) (by decide) (t := (.object "java/util/BitSet")) (t' := .int) (by decide) (by decide)))
      have f589 := f571.other W582 (Or.inr (slot_ne (Or.inl (own_at hw 78 rfl)) (Or.inl (own_at hw 110 rfl)) (by decide) (t := .int) (t' := .int) (by decide) (by decide)))
      have f590 : Fld Z h582 I "com/example/orbitfold/orbitfold/StateIndex" "searchable" "I" (.int (sea + (1 : Int32))) := f572.same W582
      have f591 := f573.wr W582
      have f592 := f574.other W582 (Or.inl (Ne.symm ne_I_bs))
      have f593 := f575.other W582 (Or.inl (Ne.symm ne_I_bs))
      have f594 := f576.other W582 (Or.inl (Ne.symm ne_I_bs))
      have f595 := f577.other W582 (Ne.symm ne_I_kA)
      have f596 := f578.other W582 (Ne.symm ne_I_sA)
      have f597 := f579.other W582 (Ne.symm ne_I_tA)
      have f598 := f580.other W582 (Ne.symm ne_I_wA)
      have OL582 := OL564.wr W582 g_I
      have KP582 : Keep h0 h582 [I, kA, sA, tA, bs, wA] := KP564.wr W582 (Or.inl (by simp))
      obtain ⟨T599, X599, e599, st599⟩ := getF X582 hx hZ hown (host := "") (Or.inl (own_at hw 109 rfl)) Via.refl e582 f590 (g := (mkF m 134 #[.val (.ref I), .val (.ref src), .val (.int off), .val (.int len), .val (.int ((2048 : Int32) - (1 : Int32))), .val (.long hv506), .second, .val (.int tv507), .val (.int ((sv508 + (1 : Int32)) &&& ((2048 : Int32) - (1 : Int32)))), .val (.int (1 : Int32))] [(.ref I), (.long (2 : Int64))])) rfl rfl (hb hby own_d_prog_34_method_2_134)
      obtain ⟨T600, X600, e600, st600⟩ := getF X599 hx hZ hown (host := "") (Or.inl (own_at hw 22 rfl)) Via.refl e599 f587 (g := (mkF m 140 #[.val (.ref I), .val (.ref src), .val (.int off), .val (.int len), .val (.int ((2048 : Int32) - (1 : Int32))), .val (.long hv506), .second, .val (.int tv507), .val (.int ((sv508 + (1 : Int32)) &&& ((2048 : Int32) - (1 : Int32)))), .val (.int (1 : Int32))] [(.ref I), (.long ((2 : Int64) * ((sea + (1 : Int32)).toInt64)))])) rfl rfl (hb hby own_d_prog_34_method_2_140)
      obtain ⟨cl601, Ar601, q601, G601⟩ := id f597
      obtain ⟨fs, hr, hrun, hended, hW, hsame⟩ := X600.leave (v := some (.int (1 : Int32))) (fun h => by rw [Bd.returns] at h; cases h)
      refine ⟨_, _, pre0 _ ?_, hrun, hended, _, _, rfl, ?_, ⟨_, rfl⟩, hW, hsame.mono (by decide) (by decide)⟩
      · show Steps p.tables e below (s₁.setTop (mkF m 0 #[.val (.ref I), .val (.ref src), .val (.int off), .val (.int len), .unset, .unset, .unset, .unset, .unset, .unset] [])) _
        refine stP509 _ ?_
        refine XS.aloadN X508.here hx rfl (hb hby own_d_prog_34_method_2_33) rfl rfl ?_
        refine st554 _ ?_
        refine XS.iload X554.here hx rfl (hb hby own_d_prog_34_method_2_37) rfl ?_
        show Steps p.tables e below (T554.setTop (mkF m 39 #[.val (.ref I), .val (.ref src), .val (.int off), .val (.int len), .val (.int ((2048 : Int32) - (1 : Int32))), .val (.long hv506), .second, .val (.int tv507), .val (.int sv508), .unset] [(.int sv508), (.ref tA)])) _
        refine X554.iaload hx (j := sv508) (v := (.int ((0 : Int32) ||| (t0 <<< ((29 : Int32) &&& 31))))) (by rw [e554]; exact Ar555.1) (State.isArrayOf_alike hZ.alike Ar555.2.1) Ar555.2.2 (own_inb G555 2048 htl (own_svin hsa508 hsb508)) (own_get G555 hg0) (g := (mkF m 39 #[.val (.ref I), .val (.ref src), .val (.int off), .val (.int len), .val (.int ((2048 : Int32) - (1 : Int32))), .val (.long hv506), .second, .val (.int tv507), .val (.int sv508), .unset] [(.int sv508), (.ref tA)])) rfl rfl (hb hby own_d_prog_34_method_2_39) _ ?_
        refine XS.iconst X554.here hx rfl (hb hby own_d_prog_34_method_2_40) ?_
        refine XS.icmpNo X554.here hx rfl (hb hby own_d_prog_34_method_2_41) rfl (feq (own_e0 ht0).1).1 ?_
        refine XS.aloadN X554.here hx rfl (hb hby own_d_prog_34_method_2_44) rfl rfl ?_
        show Steps p.tables e below (T554.setTop (mkF m 45 #[.val (.ref I), .val (.ref src), .val (.int off), .val (.int len), .val (.int ((2048 : Int32) - (1 : Int32))), .val (.long hv506), .second, .val (.int tv507), .val (.int sv508), .unset] [(.ref I)])) _
        refine st556 _ ?_
        refine XS.iload X556.here hx rfl (hb hby own_d_prog_34_method_2_48) rfl ?_
        refine X556.iaload hx (j := sv508) (v := (.int ((0 : Int32) ||| (t0 <<< ((29 : Int32) &&& 31))))) (by rw [e556]; exact Ar557.1) (State.isArrayOf_alike hZ.alike Ar557.2.1) Ar557.2.2 (own_inb G557 2048 htl (own_svin hsa508 hsb508)) (own_get G557 hg0) (g := (mkF m 50 #[.val (.ref I), .val (.ref src), .val (.int off), .val (.int len), .val (.int ((2048 : Int32) - (1 : Int32))), .val (.long hv506), .second, .val (.int tv507), .val (.int sv508), .unset] [(.int sv508), (.ref tA)])) rfl rfl (hb hby own_d_prog_34_method_2_50) _ ?_
        refine XS.istore X556.here hx rfl (hb hby own_d_prog_34_method_2_51) rfl (l' := #[.val (.ref I), .val (.ref src), .val (.int off), .val (.int len), .val (.int ((2048 : Int32) - (1 : Int32))), .val (.long hv506), .second, .val (.int tv507), .val (.int sv508), .val (.int ((0 : Int32) ||| (t0 <<< ((29 : Int32) &&& 31))))]) rfl ?_
        show Steps p.tables e below (T556.setTop (mkF m 53 #[.val (.ref I), .val (.ref src), .val (.int off), .val (.int len), .val (.int ((2048 : Int32) - (1 : Int32))), .val (.long hv506), .second, .val (.int tv507), .val (.int sv508), .val (.int ((0 : Int32) ||| (t0 <<< ((29 : Int32) &&& 31))))] [])) _
        refine XS.iload X556.here hx rfl (hb hby own_d_prog_34_method_2_53) rfl ?_
        refine XS.bipush X556.here hx rfl (hb hby own_d_prog_34_method_2_55) ?_
        refine XS.iushr X556.here hx rfl (hb hby own_d_prog_34_method_2_57) rfl ?_
        refine XS.iload X556.here hx rfl (hb hby own_d_prog_34_method_2_58) rfl ?_
        show Steps p.tables e below (T556.setTop (mkF m 60 #[.val (.ref I), .val (.ref src), .val (.int off), .val (.int len), .val (.int ((2048 : Int32) - (1 : Int32))), .val (.long hv506), .second, .val (.int tv507), .val (.int sv508), .val (.int ((0 : Int32) ||| (t0 <<< ((29 : Int32) &&& 31))))] [(.int tv507), (.int ((((0 : Int32) ||| (t0 <<< ((29 : Int32) &&& 31))).toUInt32 >>> ((29 : Int32) &&& 31).toUInt32).toInt32))])) _
        refine XS.icmpYes X556.here hx rfl (pc0 := 60) (pc' := 84) rfl (hb hby own_d_prog_34_method_2_60) rfl (feq q).2 (by decide) (by decide) ?_
        refine XS.iload X556.here hx rfl (hb hby own_d_prog_34_method_2_84) rfl ?_
        refine XS.iconst X556.here hx rfl (hb hby own_d_prog_34_method_2_86) ?_
        refine XS.iadd X556.here hx rfl (hb hby own_d_prog_34_method_2_87) rfl ?_
        show Steps p.tables e below (T556.setTop (mkF m 88 #[.val (.ref I), .val (.ref src), .val (.int off), .val (.int len), .val (.int ((2048 : Int32) - (1 : Int32))), .val (.long hv506), .second, .val (.int tv507), .val (.int sv508), .val (.int ((0 : Int32) ||| (t0 <<< ((29 : Int32) &&& 31))))] [(.int (sv508 + (1 : Int32)))])) _
        refine XS.iload X556.here hx rfl (hb hby own_d_prog_34_method_2_88) rfl ?_
        refine XS.iand X556.here hx rfl (hb hby own_d_prog_34_method_2_90) rfl ?_
        refine XS.istore X556.here hx rfl (hb hby own_d_prog_34_method_2_91) rfl (l' := #[.val (.ref I), .val (.ref src), .val (.int off), .val (.int len), .val (.int ((2048 : Int32) - (1 : Int32))), .val (.long hv506), .second, .val (.int tv507), .val (.int ((sv508 + (1 : Int32)) &&& ((2048 : Int32) - (1 : Int32)))), .val (.int ((0 : Int32) ||| (t0 <<< ((29 : Int32) &&& 31))))]) rfl ?_
        refine XS.goto X556.here hx rfl (pc0 := 93) (pc' := 33) rfl (hb hby own_d_prog_34_method_2_93) (by decide) (by decide) ?_
        show Steps p.tables e below (T556.setTop (mkF m 33 #[.val (.ref I), .val (.ref src), .val (.int off), .val (.int len), .val (.int ((2048 : Int32) - (1 : Int32))), .val (.long hv506), .second, .val (.int tv507), .val (.int ((sv508 + (1 : Int32)) &&& ((2048 : Int32) - (1 : Int32)))), .val (.int ((0 : Int32) ||| (t0 <<< ((29 : Int32) &&& 31))))] [])) _
        refine XS.aloadN X556.here hx rfl (hb hby own_d_prog_34_method_2_33) rfl rfl ?_
        refine st558 _ ?_
        refine XS.iload X558.here hx rfl (hb hby own_d_prog_34_method_2_37) rfl ?_
        refine X558.iaload hx (j := ((sv508 + (1 : Int32)) &&& ((2048 : Int32) - (1 : Int32)))) (v := (.int (-1 : Int32))) (by rw [e558]; exact Ar559.1) (State.isArrayOf_alike hZ.alike Ar559.2.1) Ar559.2.2 (own_inb G559 2048 htl (own_svin (own_next hsa508 hsb508).1 (own_next hsa508 hsb508).2.1)) (own_get G559 hg1) (g := (mkF m 39 #[.val (.ref I), .val (.ref src), .val (.int off), .val (.int len), .val (.int ((2048 : Int32) - (1 : Int32))), .val (.long hv506), .second, .val (.int tv507), .val (.int ((sv508 + (1 : Int32)) &&& ((2048 : Int32) - (1 : Int32)))), .val (.int ((0 : Int32) ||| (t0 <<< ((29 : Int32) &&& 31))))] [(.int ((sv508 + (1 : Int32)) &&& ((2048 : Int32) - (1 : Int32)))), (.ref tA)])) rfl rfl (hb hby own_d_prog_34_method_2_39) _ ?_
        show Steps p.tables e below (T558.setTop (mkF m 40 #[.val (.ref I), .val (.ref src), .val (.int off), .val (.int len), .val (.int ((2048 : Int32) - (1 : Int32))), .val (.long hv506), .second, .val (.int tv507), .val (.int ((sv508 + (1 : Int32)) &&& ((2048 : Int32) - (1 : Int32)))), .val (.int ((0 : Int32) ||| (t0 <<< ((29 : Int32) &&& 31))))] [(.int (-1 : Int32))])) _
        refine XS.iconst X558.here hx rfl (hb hby own_d_prog_34_method_2_40) ?_
        refine XS.icmpYes X558.here hx rfl (pc0 := 41) (pc' := 96) rfl (hb hby own_d_prog_34_method_2_41) rfl (teq (rfl : (-1 : Int32) = (-1 : Int32))).1 (by decide) (by decide) ?_
        refine XS.aloadN X558.here hx rfl (hb hby own_d_prog_34_method_2_96) rfl rfl ?_
        refine XS.aloadN X558.here hx rfl (hb hby own_d_prog_34_method_2_97) rfl rfl ?_
        show Steps p.tables e below (T558.setTop (mkF m 98 #[.val (.ref I), .val (.ref src), .val (.int off), .val (.int len), .val (.int ((2048 : Int32) - (1 : Int32))), .val (.long hv506), .second, .val (.int tv507), .val (.int ((sv508 + (1 : Int32)) &&& ((2048 : Int32) - (1 : Int32)))), .val (.int ((0 : Int32) ||| (t0 <<< ((29 : Int32) &&& 31))))] [(.ref src), (.ref I)])) _
        refine XS.iloadN X558.here hx rfl (hb hby own_d_prog_34_method_2_98) rfl ?_
        refine XS.iloadN X558.here hx rfl (hb hby own_d_prog_34_method_2_99) rfl ?_
        refine st560.trans ?_
        refine XS.istore X560.here hx rfl (hb hby own_d_prog_34_method_2_103) rfl (l' := #[.val (.ref I), .val (.ref src), .val (.int off), .val (.int len), .val (.int ((2048 : Int32) - (1 : Int32))), .val (.long hv506), .second, .val (.int tv507), .val (.int ((sv508 + (1 : Int32)) &&& ((2048 : Int32) - (1 : Int32)))), .val (.int (1 : Int32))]) rfl ?_
        show Steps p.tables e below (T560.setTop (mkF m 105 #[.val (.ref I), .val (.ref src), .val (.int off), .val (.int len), .val (.int ((2048 : Int32) - (1 : Int32))), .val (.long hv506), .second, .val (.int tv507), .val (.int ((sv508 + (1 : Int32)) &&& ((2048 : Int32) - (1 : Int32)))), .val (.int (1 : Int32))] [])) _
        refine XS.aloadN X560.here hx rfl (hb hby own_d_prog_34_method_2_105) rfl rfl ?_
        refine st562 _ ?_
        refine XS.iload X562.here hx rfl (hb hby own_d_prog_34_method_2_109) rfl ?_
        refine XS.iload X562.here hx rfl (hb hby own_d_prog_34_method_2_111) rfl ?_
        show Steps p.tables e below (T562.setTop (mkF m 113 #[.val (.ref I), .val (.ref src), .val (.int off), .val (.int len), .val (.int ((2048 : Int32) - (1 : Int32))), .val (.long hv506), .second, .val (.int tv507), .val (.int ((sv508 + (1 : Int32)) &&& ((2048 : Int32) - (1 : Int32)))), .val (.int (1 : Int32))] [(.int (1 : Int32)), (.int ((sv508 + (1 : Int32)) &&& ((2048 : Int32) - (1 : Int32)))), (.ref tA)])) _
        refine XS.iload X562.here hx rfl (hb hby own_d_prog_34_method_2_113) rfl ?_
        refine XS.bipush X562.here hx rfl (hb hby own_d_prog_34_method_2_115) ?_
        refine XS.ishl X562.here hx rfl (hb hby own_d_prog_34_method_2_117) rfl ?_
        refine XS.ior X562.here hx rfl (hb hby own_d_prog_34_method_2_118) rfl ?_
        show Steps p.tables e below (T562.setTop (mkF m 119 #[.val (.ref I), .val (.ref src), .val (.int off), .val (.int len), .val (.int ((2048 : Int32) - (1 : Int32))), .val (.long hv506), .second, .val (.int tv507), .val (.int ((sv508 + (1 : Int32)) &&& ((2048 : Int32) - (1 : Int32)))), .val (.int (1 : Int32))] [(.int ((1 : Int32) ||| (tv507 <<< ((29 : Int32) &&& 31)))), (.int ((sv508 + (1 : Int32)) &&& ((2048 : Int32) - (1 : Int32)))), (.ref tA)])) _
        refine st564 _ ?_
        refine XS.aloadN X564.here hx rfl (hb hby own_d_prog_34_method_2_120) rfl rfl ?_
        refine XS.dup X564.here hx rfl (hb hby own_d_prog_34_method_2_121) rfl rfl ?_
        refine st581 _ ?_
        show Steps p.tables e below (T581.setTop (mkF m 125 #[.val (.ref I), .val (.ref src), .val (.int off), .val (.int len), .val (.int ((2048 : Int32) - (1 : Int32))), .val (.long hv506), .second, .val (.int tv507), .val (.int ((sv508 + (1 : Int32)) &&& ((2048 : Int32) - (1 : Int32)))), .val (.int (1 : Int32))] [(.int sea), (.ref I)])) _
        refine XS.iconst X581.here hx rfl (hb hby own_d_prog_34_method_2_125) ?_
        refine XS.iadd X581.here hx rfl (hb hby own_d_prog_34_method_2_126) rfl ?_
        refine st582 _ ?_
        refine X582.ldc2J hx hown (mvT hZ (own_at hw 111 rfl)) (g := (mkF m 130 #[.val (.ref I), .val (.ref src), .val (.int off), .val (.int len), .val (.int ((2048 : Int32) - (1 : Int32))), .val (.long hv506), .second, .val (.int tv507), .val (.int ((sv508 + (1 : Int32)) &&& ((2048 : Int32) - (1 : Int32)))), .val (.int (1 : Int32))] [])) rfl (hb hby own_d_prog_34_method_2_130) ?_
        show Steps p.tables e below (T582.setTop (mkF m 133 #[.val (.ref I), .val (.ref src), .val (.int off), .val (.int len), .val (.int ((2048 : Int32) - (1 : Int32))), .val (.long hv506), .second, .val (.int tv507), .val (.int ((sv508 + (1 : Int32)) &&& ((2048 : Int32) - (1 : Int32)))), .val (.int (1 : Int32))] [(.long (2 : Int64))])) _
        refine XS.aloadN X582.here hx rfl (hb hby own_d_prog_34_method_2_133) rfl rfl ?_
        refine st599 _ ?_
        refine XS.i2l X599.here hx rfl (hb hby own_d_prog_34_method_2_137) rfl ?_
        refine XS.lmul X599.here hx rfl (hb hby own_d_prog_34_method_2_138) rfl ?_
        show Steps p.tables e below (T599.setTop (mkF m 139 #[.val (.ref I), .val (.ref src), .val (.int off), .val (.int len), .val (.int ((2048 : Int32) - (1 : Int32))), .val (.long hv506), .second, .val (.int tv507), .val (.int ((sv508 + (1 : Int32)) &&& ((2048 : Int32) - (1 : Int32)))), .val (.int (1 : Int32))] [(.long ((2 : Int64) * ((sea + (1 : Int32)).toInt64)))])) _
        refine XS.aloadN X599.here hx rfl (hb hby own_d_prog_34_method_2_139) rfl rfl ?_
        refine st600 _ ?_
        refine X600.arraylength hx (cell := cl601) (by rw [e600]; exact Ar601.1) (State.isArrayOf_alike hZ.alike Ar601.2.1) (g := (mkF m 143 #[.val (.ref I), .val (.ref src), .val (.int off), .val (.int len), .val (.int ((2048 : Int32) - (1 : Int32))), .val (.long hv506), .second, .val (.int tv507), .val (.int ((sv508 + (1 : Int32)) &&& ((2048 : Int32) - (1 : Int32)))), .val (.int (1 : Int32))] [(.ref tA), (.long ((2 : Int64) * ((sea + (1 : Int32)).toInt64)))])) rfl (rest := [(.long ((2 : Int64) * ((sea + (1 : Int32)).toInt64)))]) rfl (hb hby own_d_prog_34_method_2_143) _ ?_
        rw [own_len (z := (2048 : Int32)) G601 (by rw [List.length_set, htl]; decide)]
        show Steps p.tables e below (T600.setTop (mkF m 144 #[.val (.ref I), .val (.ref src), .val (.int off), .val (.int len), .val (.int ((2048 : Int32) - (1 : Int32))), .val (.long hv506), .second, .val (.int tv507), .val (.int ((sv508 + (1 : Int32)) &&& ((2048 : Int32) - (1 : Int32)))), .val (.int (1 : Int32))] [(.int (2048 : Int32)), (.long ((2 : Int64) * ((sea + (1 : Int32)).toInt64)))])) _
        refine XS.i2l X600.here hx rfl (hb hby own_d_prog_34_method_2_144) rfl ?_
        refine XS.lcmp X600.here hx rfl (hb hby own_d_prog_34_method_2_145) rfl ?_
        refine XS.ifYes X600.here hx rfl (pc0 := 146) (pc' := 153) rfl (hb hby own_d_prog_34_method_2_146) rfl ((if0 _ _).trans (flt (show ¬ ((0 : Int32) < lcmpW ((2 : Int64) * ((sea + (1 : Int32)).toInt64)) ((2048 : Int32).toInt64)) by rcases hsea with z | z <;> rw [z] <;> decide)).2.2.2) (by decide) (by decide) ?_
        refine XS.iload X600.here hx rfl (hb hby own_d_prog_34_method_2_153) rfl ?_
        show Steps p.tables e below (T600.setTop (mkF m 155 #[.val (.ref I), .val (.ref src), .val (.int off), .val (.int len), .val (.int ((2048 : Int32) - (1 : Int32))), .val (.long hv506), .second, .val (.int tv507), .val (.int ((sv508 + (1 : Int32)) &&& ((2048 : Int32) - (1 : Int32)))), .val (.int (1 : Int32))] [(.int (1 : Int32))])) _
        exact own_retI X600 hx Bd.returns (hb hby own_d_prog_34_method_2_155) hr
      · show rm_ix2_Q Z I kA sA tA bs wA ck cs ct cw ks ss ts sea wiu ww src cS x0 x1 x2 x3 l0 nd off len h0 n0 _ T600.heap _
        rw [e600]
        exact ⟨(1 : Int32), l0, _, _, _, _, _, _, _, rfl, N582, KP582, ⟨f584, f585, f586, f587, f588, f589, f590, f591, f592, f593, f594, f595, f596, f597, f598⟩, (own_has2 hln hol x0 x1 x2 x3 BA).1, (own_has2 hln hol x0 x1 x2 x3 BA).2⟩
theorem rm_copy_ef (m : MethodId) (x0 : Addr) (x1 : Int32) (x2 : Addr) : entryFrame m #[(.ref x0), (.int x1), (.ref x2)] 6 = mkF m 0 #[.val (.ref x0), .val (.int x1), .val (.ref x2), .unset, .unset, .unset] [] := by first | (simp [entryFrame, mkF, argsToLocals, Value.category]; done) | rfl
def rm_copy_Q (Z : State) (I : Addr) (kA : Addr) (sA : Addr) (ck : ClassId) (cs : ClassId) (ks : List Value) (ss : List Value) (out : Addr) (co : ClassId) (pe : Int64) (ix : Int32) (sv : Int32) (ln : Int32) (k0 : Int64) (k1 : Int64) (k2 : Int64) (nd : Int32) (h0 : Heap) (n0 : Nat) (v : Option Value) (h : Heap) (L : List Loc) : Prop := v = some (.int ln) ∧ Fr n0 L ∧ Keep h0 h [out] ∧ OwnLst Z h out .long co (own_out pe k0 k1 k2 ln)
set_option maxRecDepth 65536 in
set_option maxHeartbeats 40000000 in
theorem rm_copy (l : Launch) (Z : State) (a0 : Array Value) (hw : ∀ d ∈ tables_1, d.before a0 Z = true) (ws : List Jvm.Cond) (I : Addr) (kA : Addr) (sA : Addr) (ck : ClassId) (cs : ClassId) (ks : List Value) (ss : List Value) (out : Addr) (co : ClassId) (pe : Int64) (ix : Int32) (sv : Int32) (ln : Int32) (k0 : Int64) (k1 : Int64) (k2 : Int64) (nd : Int32) (h0 : Heap) (n0 : Nat) (Z0 : n0 ≤ h0.size) (OL : Old Z n0 h0) (dK : Fld Z h0 I "com/example/orbitfold/orbitfold/StateIndex" "keys" "[J" (.ref kA)) (dS : Fld Z h0 I "com/example/orbitfold/orbitfold/StateIndex" "starts" "[I" (.ref sA)) (lK : OwnLst Z h0 kA .long ck ks) (lS : OwnLst Z h0 sA .int cs ss) (lO : OwnLst Z h0 out .long co [.long pe, .long pe, .long pe, .long pe]) (n1 : I ≠ out) (n2 : kA ≠ out) (n3 : sA ≠ out) (g_o : n0 ≤ out) (hkl : ks.length = nd.toNatClampNeg) (hnd : nd = (1024 : Int32) ∨ nd = (2048 : Int32) ∨ nd = (3072 : Int32)) (hsl : ss.length = 1024) (hix : ix = (0 : Int32) ∨ ix = (1 : Int32)) (hsv : sv = (0 : Int32) ∨ sv = (1 : Int32) ∨ sv = (2 : Int32) ∨ sv = (3 : Int32)) (hln : ln = (1 : Int32) ∨ ln = (2 : Int32) ∨ ln = (3 : Int32)) (hs_a : ss[ix.toNatClampNeg]? = some (.int sv)) (hs_b : ss[(ix + (1 : Int32)).toNatClampNeg]? = some (.int (sv + ln))) (hg0 : ks[(sv + (0 : Int32)).toNatClampNeg]? = some (.long k0)) (hg1 : ln ≠ (1 : Int32) → ks[(sv + ((0 : Int32) + (1 : Int32))).toNatClampNeg]? = some (.long k1)) (hg2 : ln = (3 : Int32) → ks[(sv + (((0 : Int32) + (1 : Int32)) + (1 : Int32))).toNatClampNeg]? = some (.long k2)) :
    MetFree l (⟨"com/example/orbitfold/orbitfold/StateIndex", "copy", "(I[J)I"⟩ : MethodName) (head1 (Jvm.Cond.code (⟨"com/example/orbitfold/orbitfold/StateIndex", "copy", "(I[J)I"⟩ : MethodName) prog_34_method_5_code 6 (some .int) :: ws) ({ frames := 0, cells := 0, slots := 0, locals := 0 } : Room)) (fun a₀ U₀ => a₀ = #[(.ref I), (.int ix), (.ref out)] ∧ Z.Warmed39 U₀.vm ∧ U₀.heap = h0) (fun _ _ _ _ _ => True) (fun _ U₀ o₀ U₁ => ∃ v₀ L₀, o₀ = .returned v₀ ∧ rm_copy_Q Z I kA sA ck cs ks ss out co pe ix sv ln k0 k1 k2 nd h0 n0 v₀ U₁.heap L₀ ∧ FrameEnd U₀ o₀ U₁ L₀ ({ frames := 0, cells := 0, slots := 0, locals := 0 } : Room).cells ({ frames := 0, cells := 0, slots := 0, locals := 0 } : Room).slots) := by
  refine MetFree.of_bodySF (plainFor_of_name own_pn4) hisR ?_
  intro p e s m args below meth c s₁ Bd hml0 hP hK
  obtain ⟨rfl, hZ, hh⟩ := hP
  have hx := Bd.exec
  have hby := Bd.bytes
  have hml : c.maxLocals = 6 := hml0
  have hown : s.vm.findClass "com/example/orbitfold/orbitfold/StateIndex" = some m.cls := findClass_of_methodNamed Bd.named
  have hnm := (name_of_methodNamed Bd.named Bd.method).1
  have X0 : Stand p l e ({ frames := 0, cells := 0, slots := 0, locals := 0 } : Room) s m #[(.ref I), (.int ix), (.ref out)] below meth c s₁ [] 0 0 := Stand.of_body Bd
  have e0 : s₁.heap = h0 := by rw [← hh, Bd.state]; rfl
  have N0 := Fr.nil n0
  have pre0 : ∀ t, Steps p.tables e below (s₁.setTop (mkF m 0 #[.val (.ref I), .val (.int ix), .val (.ref out), .unset, .unset, .unset] [])) t → Steps p.tables e below (s₁.setTop (entryFrame m #[(.ref I), (.int ix), (.ref out)] 6)) t := fun t kk₀ => castTop (rm_copy_ef m I ix out) kk₀
  rcases hln with q | q | q
  · obtain ⟨T652, X652, e652, st652⟩ := getF X0 hx hZ hown (host := "") (Or.inl (own_at hw 13 rfl)) Via.refl e0 dS (g := (mkF m 1 #[.val (.ref I), .val (.int ix), .val (.ref out), .unset, .unset, .unset] [(.ref I)])) rfl rfl (hb hby own_d_prog_34_method_5_1)
    obtain ⟨cl653, Ar653, q653, G653⟩ := id lS
    obtain ⟨T654, X654, e654, st654⟩ := getF X652 hx hZ hown (host := "") (Or.inl (own_at hw 13 rfl)) Via.refl e652 dS (g := (mkF m 8 #[.val (.ref I), .val (.int ix), .val (.ref out), .val (.int sv), .unset, .unset] [(.ref I)])) rfl rfl (hb hby own_d_prog_34_method_5_8)
    obtain ⟨cl655, Ar655, q655, G655⟩ := id lS
    obtain ⟨T656, X656, e656, st656⟩ := getF X654 hx hZ hown (host := "") (Or.inl (own_at hw 10 rfl)) Via.refl e654 dK (g := (mkF m 33 #[.val (.ref I), .val (.int ix), .val (.ref out), .val (.int sv), .val (.int ln), .val (.int (0 : Int32))] [(.ref I), (.int (0 : Int32)), (.ref out)])) rfl rfl (hb hby own_d_prog_34_method_5_33)
    obtain ⟨cl657, Ar657, q657, G657⟩ := id lK
    obtain ⟨cl659, Ar659, q659, G659⟩ := id lO
    obtain ⟨T659, h659, X659, e659, W659, st659⟩ := stJ X656 hx hZ e656 Ar659 (j := (0 : Int32)) (own_inb G659 4 rfl (by decide)) (g := (mkF m 41 #[.val (.ref I), .val (.int ix), .val (.ref out), .val (.int sv), .val (.int ln), .val (.int (0 : Int32))] [(.long k0), (.int (0 : Int32)), (.ref out)])) rfl rfl (hb hby own_d_prog_34_method_5_41)
    have N659 := Fr.snoc X659 N0 g_o
    have v658 := own_lst_set Ar659 q659 G659 W659
    have f660 := dK.other W659 (Or.inl n1)
    have f661 := dS.other W659 (Or.inl n1)
    have f662 := lK.other W659 n2
    have f663 := lS.other W659 n3
    have f664 : OwnLst Z h659 out .long co [.long k0, .long pe, .long pe, .long pe] := v658
    have OL659 := OL.wr W659 g_o
    have KP659 : Keep h0 h659 [out] := (Keep.refl _ _).wr W659 (Or.inl (by simp))
    obtain ⟨fs, hr, hrun, hended, hW, hsame⟩ := X659.leave (v := some (.int ln)) (fun h => by rw [Bd.returns] at h; cases h)
    refine ⟨_, _, pre0 _ ?_, hrun, hended, _, _, rfl, ?_, ⟨_, rfl⟩, hW, hsame.mono (by decide) (by decide)⟩
    · show Steps p.tables e below (s₁.setTop (mkF m 0 #[.val (.ref I), .val (.int ix), .val (.ref out), .unset, .unset, .unset] [])) _
      refine XS.aloadN X0.here hx rfl (hb hby own_d_prog_34_method_5_0) rfl rfl ?_
      refine st652 _ ?_
      refine XS.iloadN X652.here hx rfl (hb hby own_d_prog_34_method_5_4) rfl ?_
      refine X652.iaload hx (j := ix) (v := (.int sv)) (by rw [e652]; exact Ar653.1) (State.isArrayOf_alike hZ.alike Ar653.2.1) Ar653.2.2 (own_inb G653 1024 hsl (show ¬ (ix < 0 ∨ 1024 ≤ (ix).toNatClampNeg) by rcases hix with z | z <;> rw [z] <;> decide)) (own_get G653 hs_a) (g := (mkF m 5 #[.val (.ref I), .val (.int ix), .val (.ref out), .unset, .unset, .unset] [(.int ix), (.ref sA)])) rfl rfl (hb hby own_d_prog_34_method_5_5) _ ?_
      show Steps p.tables e below (T652.setTop (mkF m 6 #[.val (.ref I), .val (.int ix), .val (.ref out), .unset, .unset, .unset] [(.int sv)])) _
      refine XS.istoreN X652.here hx rfl (hb hby own_d_prog_34_method_5_6) rfl (l' := #[.val (.ref I), .val (.int ix), .val (.ref out), .val (.int sv), .unset, .unset]) rfl ?_
      refine XS.aloadN X652.here hx rfl (hb hby own_d_prog_34_method_5_7) rfl rfl ?_
      refine st654 _ ?_
      refine XS.iloadN X654.here hx rfl (hb hby own_d_prog_34_method_5_11) rfl ?_
      show Steps p.tables e below (T654.setTop (mkF m 12 #[.val (.ref I), .val (.int ix), .val (.ref out), .val (.int sv), .unset, .unset] [(.int ix), (.ref sA)])) _
      refine XS.iconst X654.here hx rfl (hb hby own_d_prog_34_method_5_12) ?_
      refine XS.iadd X654.here hx rfl (hb hby own_d_prog_34_method_5_13) rfl ?_
      refine X654.iaload hx (j := (ix + (1 : Int32))) (v := (.int (sv + ln))) (by rw [e654]; exact Ar655.1) (State.isArrayOf_alike hZ.alike Ar655.2.1) Ar655.2.2 (own_inb G655 1024 hsl (show ¬ ((ix + (1 : Int32)) < 0 ∨ 1024 ≤ ((ix + (1 : Int32))).toNatClampNeg) by rcases hix with z | z <;> rw [z] <;> decide)) (own_get G655 hs_b) (g := (mkF m 14 #[.val (.ref I), .val (.int ix), .val (.ref out), .val (.int sv), .unset, .unset] [(.int (ix + (1 : Int32))), (.ref sA)])) rfl rfl (hb hby own_d_prog_34_method_5_14) _ ?_
      refine XS.iloadN X654.here hx rfl (hb hby own_d_prog_34_method_5_15) rfl ?_
      show Steps p.tables e below (T654.setTop (mkF m 16 #[.val (.ref I), .val (.int ix), .val (.ref out), .val (.int sv), .unset, .unset] [(.int sv), (.int (sv + ln))])) _
      refine XS.isub X654.here hx rfl (hb hby own_d_prog_34_method_5_16) rfl ?_
      show Steps p.tables e below (T654.setTop (mkF m 17 #[.val (.ref I), .val (.int ix), .val (.ref out), .val (.int sv), .unset, .unset] [(.int ((sv + ln) - sv))])) _
      rw [own_addsub sv ln]
      refine XS.istore X654.here hx rfl (hb hby own_d_prog_34_method_5_17) rfl (l' := #[.val (.ref I), .val (.int ix), .val (.ref out), .val (.int sv), .val (.int ln), .unset]) rfl ?_
      refine XS.iconst X654.here hx rfl (hb hby own_d_prog_34_method_5_19) ?_
      refine XS.istore X654.here hx rfl (hb hby own_d_prog_34_method_5_20) rfl (l' := #[.val (.ref I), .val (.int ix), .val (.ref out), .val (.int sv), .val (.int ln), .val (.int (0 : Int32))]) rfl ?_
      show Steps p.tables e below (T654.setTop (mkF m 22 #[.val (.ref I), .val (.int ix), .val (.ref out), .val (.int sv), .val (.int ln), .val (.int (0 : Int32))] [])) _
      refine XS.iload X654.here hx rfl (hb hby own_d_prog_34_method_5_22) rfl ?_
      refine XS.iload X654.here hx rfl (hb hby own_d_prog_34_method_5_24) rfl ?_
      refine XS.icmpNo X654.here hx rfl (hb hby own_d_prog_34_method_5_26) rfl (tlt (show (0 : Int32) < ln by rw [q]; decide)).2.1 ?_
      refine XS.aloadN X654.here hx rfl (hb hby own_d_prog_34_method_5_29) rfl rfl ?_
      show Steps p.tables e below (T654.setTop (mkF m 30 #[.val (.ref I), .val (.int ix), .val (.ref out), .val (.int sv), .val (.int ln), .val (.int (0 : Int32))] [(.ref out)])) _
      refine XS.iload X654.here hx rfl (hb hby own_d_prog_34_method_5_30) rfl ?_
      refine XS.aloadN X654.here hx rfl (hb hby own_d_prog_34_method_5_32) rfl rfl ?_
      refine st656 _ ?_
      refine XS.iloadN X656.here hx rfl (hb hby own_d_prog_34_method_5_36) rfl ?_
      show Steps p.tables e below (T656.setTop (mkF m 37 #[.val (.ref I), .val (.int ix), .val (.ref out), .val (.int sv), .val (.int ln), .val (.int (0 : Int32))] [(.int sv), (.ref kA), (.int (0 : Int32)), (.ref out)])) _
      refine XS.iload X656.here hx rfl (hb hby own_d_prog_34_method_5_37) rfl ?_
      refine XS.iadd X656.here hx rfl (hb hby own_d_prog_34_method_5_39) rfl ?_
      refine X656.laload hx (j := (sv + (0 : Int32))) (v := (.long k0)) (by rw [e656]; exact Ar657.1) (State.isArrayOf_alike hZ.alike Ar657.2.1) Ar657.2.2 (own_inb G657 _ hkl (own_cpb hnd hsv).1) (own_get G657 hg0) (g := (mkF m 40 #[.val (.ref I), .val (.int ix), .val (.ref out), .val (.int sv), .val (.int ln), .val (.int (0 : Int32))] [(.int (sv + (0 : Int32))), (.ref kA), (.int (0 : Int32)), (.ref out)])) rfl rfl (hb hby own_d_prog_34_method_5_40) _ ?_
      refine st659 _ ?_
      show Steps p.tables e below (T659.setTop (mkF m 42 #[.val (.ref I), .val (.int ix), .val (.ref out), .val (.int sv), .val (.int ln), .val (.int (0 : Int32))] [])) _
      refine XS.iinc X659.here hx rfl (hb hby own_d_prog_34_method_5_42) rfl (l' := #[.val (.ref I), .val (.int ix), .val (.ref out), .val (.int sv), .val (.int ln), .val (.int ((0 : Int32) + (1 : Int32)))]) rfl ?_
      refine XS.goto X659.here hx rfl (pc0 := 45) (pc' := 22) rfl (hb hby own_d_prog_34_method_5_45) (by decide) (by decide) ?_
      refine XS.iload X659.here hx rfl (hb hby own_d_prog_34_method_5_22) rfl ?_
      refine XS.iload X659.here hx rfl (hb hby own_d_prog_34_method_5_24) rfl ?_
      show Steps p.tables e below (T659.setTop (mkF m 26 #[.val (.ref I), .val (.int ix), .val (.ref out), .val (.int sv), .val (.int ln), .val (.int ((0 : Int32) + (1 : Int32)))] [(.int ln), (.int ((0 : Int32) + (1 : Int32)))])) _
      refine XS.icmpYes X659.here hx rfl (pc0 := 26) (pc' := 48) rfl (hb hby own_d_prog_34_method_5_26) rfl (flt (show ¬ (((0 : Int32) + (1 : Int32)) < ln) by rw [q]; decide)).2.1 (by decide) (by decide) ?_
      refine XS.iload X659.here hx rfl (hb hby own_d_prog_34_method_5_48) rfl ?_
      exact own_retI X659 hx Bd.returns (hb hby own_d_prog_34_method_5_50) hr
    · show rm_copy_Q Z I kA sA ck cs ks ss out co pe ix sv ln k0 k1 k2 nd h0 n0 _ T659.heap _
      rw [e659]
      exact ⟨rfl, N659, KP659, by rw [q, own_out1]; exact f664⟩
  · obtain ⟨T665, X665, e665, st665⟩ := getF X0 hx hZ hown (host := "") (Or.inl (own_at hw 13 rfl)) Via.refl e0 dS (g := (mkF m 1 #[.val (.ref I), .val (.int ix), .val (.ref out), .unset, .unset, .unset] [(.ref I)])) rfl rfl (hb hby own_d_prog_34_method_5_1)
    obtain ⟨cl666, Ar666, q666, G666⟩ := id lS
    obtain ⟨T667, X667, e667, st667⟩ := getF X665 hx hZ hown (host := "") (Or.inl (own_at hw 13 rfl)) Via.refl e665 dS (g := (mkF m 8 #[.val (.ref I), .val (.int ix), .val (.ref out), .val (.int sv), .unset, .unset] [(.ref I)])) rfl rfl (hb hby own_d_prog_34_method_5_8)
    obtain ⟨cl668, Ar668, q668, G668⟩ := id lS
    obtain ⟨T669, X669, e669, st669⟩ := getF X667 hx hZ hown (host := "") (Or.inl (own_at hw 10 rfl)) Via.refl e667 dK (g := (mkF m 33 #[.val (.ref I), .val (.int ix), .val (.ref out), .val (.int sv), .val (.int ln), .val (.int (0 : Int32))] [(.ref I), (.int (0 : Int32)), (.ref out)])) rfl rfl (hb hby own_d_prog_34_method_5_33)
    obtain ⟨cl670, Ar670, q670, G670⟩ := id lK
    obtain ⟨cl672, Ar672, q672, G672⟩ := id lO
    obtain ⟨T672, h672, X672, e672, W672, st672⟩ := stJ X669 hx hZ e669 Ar672 (j := (0 : Int32)) (own_inb G672 4 rfl (by decide)) (g := (mkF m 41 #[.val (.ref I), .val (.int ix), .val (.ref out), .val (.int sv), .val (.int ln), .val (.int (0 : Int32))] [(.long k0), (.int (0 : Int32)), (.ref out)])) rfl rfl (hb hby own_d_prog_34_method_5_41)
    have N672 := Fr.snoc X672 N0 g_o
    have v671 := own_lst_set Ar672 q672 G672 W672
    have f673 := dK.other W672 (Or.inl n1)
    have f674 := dS.other W672 (Or.inl n1)
    have f675 := lK.other W672 n2
    have f676 := lS.other W672 n3
    have f677 : OwnLst Z h672 out .long co [.long k0, .long pe, .long pe, .long pe] := v671
    have OL672 := OL.wr W672 g_o
    have KP672 : Keep h0 h672 [out] := (Keep.refl _ _).wr W672 (Or.inl (by simp))
    obtain ⟨T678, X678, e678, st678⟩ := getF X672 hx hZ hown (host := "") (Or.inl (own_at hw 10 rfl)) Via.refl e672 f673 (g := (mkF m 33 #[.val (.ref I), .val (.int ix), .val (.ref out), .val (.int sv), .val (.int ln), .val (.int ((0 : Int32) + (1 : Int32)))] [(.ref I), (.int ((0 : Int32) + (1 : Int32))), (.ref out)])) rfl rfl (hb hby own_d_prog_34_method_5_33)
    obtain ⟨cl679, Ar679, q679, G679⟩ := id f675
    obtain ⟨cl681, Ar681, q681, G681⟩ := id f677
    obtain ⟨T681, h681, X681, e681, W681, st681⟩ := stJ X678 hx hZ e678 Ar681 (j := ((0 : Int32) + (1 : Int32))) (own_inb G681 4 rfl (by decide)) (g := (mkF m 41 #[.val (.ref I), .val (.int ix), .val (.ref out), .val (.int sv), .val (.int ln), .val (.int ((0 : Int32) + (1 : Int32)))] [(.long k1), (.int ((0 : Int32) + (1 : Int32))), (.ref out)])) rfl rfl (hb hby own_d_prog_34_method_5_41)
    have N681 := Fr.snoc X681 N672 g_o
    have v680 := own_lst_set Ar681 q681 G681 W681
    have f682 := f673.other W681 (Or.inl n1)
    have f683 := f674.other W681 (Or.inl n1)
    have f684 := f675.other W681 n2
    have f685 := f676.other W681 n3
    have f686 : OwnLst Z h681 out .long co [.long k0, .long k1, .long pe, .long pe] := v680
    have OL681 := OL672.wr W681 g_o
    have KP681 : Keep h0 h681 [out] := KP672.wr W681 (Or.inl (by simp))
    obtain ⟨fs, hr, hrun, hended, hW, hsame⟩ := X681.leave (v := some (.int ln)) (fun h => by rw [Bd.returns] at h; cases h)
    refine ⟨_, _, pre0 _ ?_, hrun, hended, _, _, rfl, ?_, ⟨_, rfl⟩, hW, hsame.mono (by decide) (by decide)⟩
    · show Steps p.tables e below (s₁.setTop (mkF m 0 #[.val (.ref I), .val (.int ix), .val (.ref out), .unset, .unset, .unset] [])) _
      refine XS.aloadN X0.here hx rfl (hb hby own_d_prog_34_method_5_0) rfl rfl ?_
      refine st665 _ ?_
      refine XS.iloadN X665.here hx rfl (hb hby own_d_prog_34_method_5_4) rfl ?_
      refine X665.iaload hx (j := ix) (v := (.int sv)) (by rw [e665]; exact Ar666.1) (State.isArrayOf_alike hZ.alike Ar666.2.1) Ar666.2.2 (own_inb G666 1024 hsl (show ¬ (ix < 0 ∨ 1024 ≤ (ix).toNatClampNeg) by rcases hix with z | z <;> rw [z] <;> decide)) (own_get G666 hs_a) (g := (mkF m 5 #[.val (.ref I), .val (.int ix), .val (.ref out), .unset, .unset, .unset] [(.int ix), (.ref sA)])) rfl rfl (hb hby own_d_prog_34_method_5_5) _ ?_
      show Steps p.tables e below (T665.setTop (mkF m 6 #[.val (.ref I), .val (.int ix), .val (.ref out), .unset, .unset, .unset] [(.int sv)])) _
      refine XS.istoreN X665.here hx rfl (hb hby own_d_prog_34_method_5_6) rfl (l' := #[.val (.ref I), .val (.int ix), .val (.ref out), .val (.int sv), .unset, .unset]) rfl ?_
      refine XS.aloadN X665.here hx rfl (hb hby own_d_prog_34_method_5_7) rfl rfl ?_
      refine st667 _ ?_
      refine XS.iloadN X667.here hx rfl (hb hby own_d_prog_34_method_5_11) rfl ?_
      show Steps p.tables e below (T667.setTop (mkF m 12 #[.val (.ref I), .val (.int ix), .val (.ref out), .val (.int sv), .unset, .unset] [(.int ix), (.ref sA)])) _
      refine XS.iconst X667.here hx rfl (hb hby own_d_prog_34_method_5_12) ?_
      refine XS.iadd X667.here hx rfl (hb hby own_d_prog_34_method_5_13) rfl ?_
      refine X667.iaload hx (j := (ix + (1 : Int32))) (v := (.int (sv + ln))) (by rw [e667]; exact Ar668.1) (State.isArrayOf_alike hZ.alike Ar668.2.1) Ar668.2.2 (own_inb G668 1024 hsl (show ¬ ((ix + (1 : Int32)) < 0 ∨ 1024 ≤ ((ix + (1 : Int32))).toNatClampNeg) by rcases hix with z | z <;> rw [z] <;> decide)) (own_get G668 hs_b) (g := (mkF m 14 #[.val (.ref I), .val (.int ix), .val (.ref out), .val (.int sv), .unset, .unset] [(.int (ix + (1 : Int32))), (.ref sA)])) rfl rfl (hb hby own_d_prog_34_method_5_14) _ ?_
      refine XS.iloadN X667.here hx rfl (hb hby own_d_prog_34_method_5_15) rfl ?_
      show Steps p.tables e below (T667.setTop (mkF m 16 #[.val (.ref I), .val (.int ix), .val (.ref out), .val (.int sv), .unset, .unset] [(.int sv), (.int (sv + ln))])) _
      refine XS.isub X667.here hx rfl (hb hby own_d_prog_34_method_5_16) rfl ?_
      show Steps p.tables e below (T667.setTop (mkF m 17 #[.val (.ref I), .val (.int ix), .val (.ref out), .val (.int sv), .unset, .unset] [(.int ((sv + ln) - sv))])) _
      rw [own_addsub sv ln]
      refine XS.istore X667.here hx rfl (hb hby own_d_prog_34_method_5_17) rfl (l' := #[.val (.ref I), .val (.int ix), .val (.ref out), .val (.int sv), .val (.int ln), .unset]) rfl ?_
      refine XS.iconst X667.here hx rfl (hb hby own_d_prog_34_method_5_19) ?_
      refine XS.istore X667.here hx rfl (hb hby own_d_prog_34_method_5_20) rfl (l' := #[.val (.ref I), .val (.int ix), .val (.ref out), .val (.int sv), .val (.int ln), .val (.int (0 : Int32))]) rfl ?_
      show Steps p.tables e below (T667.setTop (mkF m 22 #[.val (.ref I), .val (.int ix), .val (.ref out), .val (.int sv), .val (.int ln), .val (.int (0 : Int32))] [])) _
      refine XS.iload X667.here hx rfl (hb hby own_d_prog_34_method_5_22) rfl ?_
      refine XS.iload X667.here hx rfl (hb hby own_d_prog_34_method_5_24) rfl ?_
      refine XS.icmpNo X667.here hx rfl (hb hby own_d_prog_34_method_5_26) rfl (tlt (show (0 : Int32) < ln by rw [q]; decide)).2.1 ?_
      refine XS.aloadN X667.here hx rfl (hb hby own_d_prog_34_method_5_29) rfl rfl ?_
      show Steps p.tables e below (T667.setTop (mkF m 30 #[.val (.ref I), .val (.int ix), .val (.ref out), .val (.int sv), .val (.int ln), .val (.int (0 : Int32))] [(.ref out)])) _
      refine XS.iload X667.here hx rfl (hb hby own_d_prog_34_method_5_30) rfl ?_
      refine XS.aloadN X667.here hx rfl (hb hby own_d_prog_34_method_5_32) rfl rfl ?_
      refine st669 _ ?_
      refine XS.iloadN X669.here hx rfl (hb hby own_d_prog_34_method_5_36) rfl ?_
      show Steps p.tables e below (T669.setTop (mkF m 37 #[.val (.ref I), .val (.int ix), .val (.ref out), .val (.int sv), .val (.int ln), .val (.int (0 : Int32))] [(.int sv), (.ref kA), (.int (0 : Int32)), (.ref out)])) _
      refine XS.iload X669.here hx rfl (hb hby own_d_prog_34_method_5_37) rfl ?_
      refine XS.iadd X669.here hx rfl (hb hby own_d_prog_34_method_5_39) rfl ?_
      refine X669.laload hx (j := (sv + (0 : Int32))) (v := (.long k0)) (by rw [e669]; exact Ar670.1) (State.isArrayOf_alike hZ.alike Ar670.2.1) Ar670.2.2 (own_inb G670 _ hkl (own_cpb hnd hsv).1) (own_get G670 hg0) (g := (mkF m 40 #[.val (.ref I), .val (.int ix), .val (.ref out), .val (.int sv), .val (.int ln), .val (.int (0 : Int32))] [(.int (sv + (0 : Int32))), (.ref kA), (.int (0 : Int32)), (.ref out)])) rfl rfl (hb hby own_d_prog_34_method_5_40) _ ?_
      refine st672 _ ?_
      show Steps p.tables e below (T672.setTop (mkF m 42 #[.val (.ref I), .val (.int ix), .val (.ref out), .val (.int sv), .val (.int ln), .val (.int (0 : Int32))] [])) _
      refine XS.iinc X672.here hx rfl (hb hby own_d_prog_34_method_5_42) rfl (l' := #[.val (.ref I), .val (.int ix), .val (.ref out), .val (.int sv), .val (.int ln), .val (.int ((0 : Int32) + (1 : Int32)))]) rfl ?_
      refine XS.goto X672.here hx rfl (pc0 := 45) (pc' := 22) rfl (hb hby own_d_prog_34_method_5_45) (by decide) (by decide) ?_
      refine XS.iload X672.here hx rfl (hb hby own_d_prog_34_method_5_22) rfl ?_
      refine XS.iload X672.here hx rfl (hb hby own_d_prog_34_method_5_24) rfl ?_
      show Steps p.tables e below (T672.setTop (mkF m 26 #[.val (.ref I), .val (.int ix), .val (.ref out), .val (.int sv), .val (.int ln), .val (.int ((0 : Int32) + (1 : Int32)))] [(.int ln), (.int ((0 : Int32) + (1 : Int32)))])) _
      refine XS.icmpNo X672.here hx rfl (hb hby own_d_prog_34_method_5_26) rfl (tlt (show ((0 : Int32) + (1 : Int32)) < ln by rw [q]; decide)).2.1 ?_
      refine XS.aloadN X672.here hx rfl (hb hby own_d_prog_34_method_5_29) rfl rfl ?_
      refine XS.iload X672.here hx rfl (hb hby own_d_prog_34_method_5_30) rfl ?_
      refine XS.aloadN X672.here hx rfl (hb hby own_d_prog_34_method_5_32) rfl rfl ?_
      show Steps p.tables e below (T672.setTop (mkF m 33 #[.val (.ref I), .val (.int ix), .val (.ref out), .val (.int sv), .val (.int ln), .val (.int ((0 : Int32) + (1 : Int32)))] [(.ref I), (.int ((0 : Int32) + (1 : Int32))), (.ref out)])) _
      refine st678 _ ?_
      refine XS.iloadN X678.here hx rfl (hb hby own_d_prog_34_method_5_36) rfl ?_
      refine XS.iload X678.here hx rfl (hb hby own_d_prog_34_method_5_37) rfl ?_
      refine XS.iadd X678.here hx rfl (hb hby own_d_prog_34_method_5_39) rfl ?_
      show Steps p.tables e below (T678.setTop (mkF m 40 #[.val (.ref I), .val (.int ix), .val (.ref out), .val (.int sv), .val (.int ln), .val (.int ((0 : Int32) + (1 : Int32)))] [(.int (sv + ((0 : Int32) + (1 : Int32)))), (.ref kA), (.int ((0 : Int32) + (1 : Int32))), (.ref out)])) _
      refine X678.laload hx (j := (sv + ((0 : Int32) + (1 : Int32)))) (v := (.long k1)) (by rw [e678]; exact Ar679.1) (State.isArrayOf_alike hZ.alike Ar679.2.1) Ar679.2.2 (own_inb G679 _ hkl (own_cpb hnd hsv).2.1) (own_get G679 (hg1 (by rw [q]; decide))) (g := (mkF m 40 #[.val (.ref I), .val (.int ix), .val (.ref out), .val (.int sv), .val (.int ln), .val (.int ((0 : Int32) + (1 : Int32)))] [(.int (sv + ((0 : Int32) + (1 : Int32)))), (.ref kA), (.int ((0 : Int32) + (1 : Int32))), (.ref out)])) rfl rfl (hb hby own_d_prog_34_method_5_40) _ ?_
      refine st681 _ ?_
      refine XS.iinc X681.here hx rfl (hb hby own_d_prog_34_method_5_42) rfl (l' := #[.val (.ref I), .val (.int ix), .val (.ref out), .val (.int sv), .val (.int ln), .val (.int (((0 : Int32) + (1 : Int32)) + (1 : Int32)))]) rfl ?_
      refine XS.goto X681.here hx rfl (pc0 := 45) (pc' := 22) rfl (hb hby own_d_prog_34_method_5_45) (by decide) (by decide) ?_
      show Steps p.tables e below (T681.setTop (mkF m 22 #[.val (.ref I), .val (.int ix), .val (.ref out), .val (.int sv), .val (.int ln), .val (.int (((0 : Int32) + (1 : Int32)) + (1 : Int32)))] [])) _
      refine XS.iload X681.here hx rfl (hb hby own_d_prog_34_method_5_22) rfl ?_
      refine XS.iload X681.here hx rfl (hb hby own_d_prog_34_method_5_24) rfl ?_
      refine XS.icmpYes X681.here hx rfl (pc0 := 26) (pc' := 48) rfl (hb hby own_d_prog_34_method_5_26) rfl (flt (show ¬ ((((0 : Int32) + (1 : Int32)) + (1 : Int32)) < ln) by rw [q]; decide)).2.1 (by decide) (by decide) ?_
      refine XS.iload X681.here hx rfl (hb hby own_d_prog_34_method_5_48) rfl ?_
      show Steps p.tables e below (T681.setTop (mkF m 50 #[.val (.ref I), .val (.int ix), .val (.ref out), .val (.int sv), .val (.int ln), .val (.int (((0 : Int32) + (1 : Int32)) + (1 : Int32)))] [(.int ln)])) _
      exact own_retI X681 hx Bd.returns (hb hby own_d_prog_34_method_5_50) hr
    · show rm_copy_Q Z I kA sA ck cs ks ss out co pe ix sv ln k0 k1 k2 nd h0 n0 _ T681.heap _
      rw [e681]
      exact ⟨rfl, N681, KP681, by rw [q, own_out2]; exact f686⟩
  · obtain ⟨T687, X687, e687, st687⟩ := getF X0 hx hZ hown (host := "") (Or.inl (own_at hw 13 rfl)) Via.refl e0 dS (g := (mkF m 1 #[.val (.ref I), .val (.int ix), .val (.ref out), .unset, .unset, .unset] [(.ref I)])) rfl rfl (hb hby own_d_prog_34_method_5_1)
    obtain ⟨cl688, Ar688, q688, G688⟩ := id lS
    obtain ⟨T689, X689, e689, st689⟩ := getF X687 hx hZ hown (host := "") (Or.inl (own_at hw 13 rfl)) Via.refl e687 dS (g := (mkF m 8 #[.val (.ref I), .val (.int ix), .val (.ref out), .val (.int sv), .unset, .unset] [(.ref I)])) rfl rfl (hb hby own_d_prog_34_method_5_8)
    obtain ⟨cl690, Ar690, q690, G690⟩ := id lS
    obtain ⟨T691, X691, e691, st691⟩ := getF X689 hx hZ hown (host := "") (Or.inl (own_at hw 10 rfl)) Via.refl e689 dK (g := (mkF m 33 #[.val (.ref I), .val (.int ix), .val (.ref out), .val (.int sv), .val (.int ln), .val (.int (0 : Int32))] [(.ref I), (.int (0 : Int32)), (.ref out)])) rfl rfl (hb hby own_d_prog_34_method_5_33)
    obtain ⟨cl692, Ar692, q692, G692⟩ := id lK
    obtain ⟨cl694, Ar694, q694, G694⟩ := id lO
    obtain ⟨T694, h694, X694, e694, W694, st694⟩ := stJ X691 hx hZ e691 Ar694 (j := (0 : Int32)) (own_inb G694 4 rfl (by decide)) (g := (mkF m 41 #[.val (.ref I), .val (.int ix), .val (.ref out), .val (.int sv), .val (.int ln), .val (.int (0 : Int32))] [(.long k0), (.int (0 : Int32)), (.ref out)])) rfl rfl (hb hby own_d_prog_34_method_5_41)
    have N694 := Fr.snoc X694 N0 g_o
    have v693 := own_lst_set Ar694 q694 G694 W694
    have f695 := dK.other W694 (Or.inl n1)
    have f696 := dS.other W694 (Or.inl n1)
    have f697 := lK.other W694 n2
    have f698 := lS.other W694 n3
    have f699 : OwnLst Z h694 out .long co [.long k0, .long pe, .long pe, .long pe] := v693
    have OL694 := OL.wr W694 g_o
    have KP694 : Keep h0 h694 [out] := (Keep.refl _ _).wr W694 (Or.inl (by simp))
    obtain ⟨T700, X700, e700, st700⟩ := getF X694 hx hZ hown (host := "") (Or.inl (own_at hw 10 rfl)) Via.refl e694 f695 (g := (mkF m 33 #[.val (.ref I), .val (.int ix), .val (.ref out), .val (.int sv), .val (.int ln), .val (.int ((0 : Int32) + (1 : Int32)))] [(.ref I), (.int ((0 : Int32) + (1 : Int32))), (.ref out)])) rfl rfl (hb hby own_d_prog_34_method_5_33)
    obtain ⟨cl701, Ar701, q701, G701⟩ := id f697
    obtain ⟨cl703, Ar703, q703, G703⟩ := id f699
    obtain ⟨T703, h703, X703, e703, W703, st703⟩ := stJ X700 hx hZ e700 Ar703 (j := ((0 : Int32) + (1 : Int32))) (own_inb G703 4 rfl (by decide)) (g := (mkF m 41 #[.val (.ref I), .val (.int ix), .val (.ref out), .val (.int sv), .val (.int ln), .val (.int ((0 : Int32) + (1 : Int32)))] [(.long k1), (.int ((0 : Int32) + (1 : Int32))), (.ref out)])) rfl rfl (hb hby own_d_prog_34_method_5_41)
    have N703 := Fr.snoc X703 N694 g_o
    have v702 := own_lst_set Ar703 q703 G703 W703
    have f704 := f695.other W703 (Or.inl n1)
    have f705 := f696.other W703 (Or.inl n1)
    have f706 := f697.other W703 n2
    have f707 := f698.other W703 n3
    have f708 : OwnLst Z h703 out .long co [.long k0, .long k1, .long pe, .long pe] := v702
    have OL703 := OL694.wr W703 g_o
    have KP703 : Keep h0 h703 [out] := KP694.wr W703 (Or.inl (by simp))
    obtain ⟨T709, X709, e709, st709⟩ := getF X703 hx hZ hown (host := "") (Or.inl (own_at hw 10 rfl)) Via.refl e703 f704 (g := (mkF m 33 #[.val (.ref I), .val (.int ix), .val (.ref out), .val (.int sv), .val (.int ln), .val (.int (((0 : Int32) + (1 : Int32)) + (1 : Int32)))] [(.ref I), (.int (((0 : Int32) + (1 : Int32)) + (1 : Int32))), (.ref out)])) rfl rfl (hb hby own_d_prog_34_method_5_33)
    obtain ⟨cl710, Ar710, q710, G710⟩ := id f706
    obtain ⟨cl712, Ar712, q712, G712⟩ := id f708
    obtain ⟨T712, h712, X712, e712, W712, st712⟩ := stJ X709 hx hZ e709 Ar712 (j := (((0 : Int32) + (1 : Int32)) + (1 : Int32))) (own_inb G712 4 rfl (by decide)) (g := (mkF m 41 #[.val (.ref I), .val (.int ix), .val (.ref out), .val (.int sv), .val (.int ln), .val (.int (((0 : Int32) + (1 : Int32)) + (1 : Int32)))] [(.long k2), (.int (((0 : Int32) + (1 : Int32)) + (1 : Int32))), (.ref out)])) rfl rfl (hb hby own_d_prog_34_method_5_41)
    have N712 := Fr.snoc X712 N703 g_o
    have v711 := own_lst_set Ar712 q712 G712 W712
    have f713 := f704.other W712 (Or.inl n1)
    have f714 := f705.other W712 (Or.inl n1)
    have f715 := f706.other W712 n2
    have f716 := f707.other W712 n3
    have f717 : OwnLst Z h712 out .long co [.long k0, .long k1, .long k2, .long pe] := v711
    have OL712 := OL703.wr W712 g_o
    have KP712 : Keep h0 h712 [out] := KP703.wr W712 (Or.inl (by simp))
    obtain ⟨fs, hr, hrun, hended, hW, hsame⟩ := X712.leave (v := some (.int ln)) (fun h => by rw [Bd.returns] at h; cases h)
    refine ⟨_, _, pre0 _ ?_, hrun, hended, _, _, rfl, ?_, ⟨_, rfl⟩, hW, hsame.mono (by decide) (by decide)⟩
    · show Steps p.tables e below (s₁.setTop (mkF m 0 #[.val (.ref I), .val (.int ix), .val (.ref out), .unset, .unset, .unset] [])) _
      refine XS.aloadN X0.here hx rfl (hb hby own_d_prog_34_method_5_0) rfl rfl ?_
      refine st687 _ ?_
      refine XS.iloadN X687.here hx rfl (hb hby own_d_prog_34_method_5_4) rfl ?_
      refine X687.iaload hx (j := ix) (v := (.int sv)) (by rw [e687]; exact Ar688.1) (State.isArrayOf_alike hZ.alike Ar688.2.1) Ar688.2.2 (own_inb G688 1024 hsl (show ¬ (ix < 0 ∨ 1024 ≤ (ix).toNatClampNeg) by rcases hix with z | z <;> rw [z] <;> decide)) (own_get G688 hs_a) (g := (mkF m 5 #[.val (.ref I), .val (.int ix), .val (.ref out), .unset, .unset, .unset] [(.int ix), (.ref sA)])) rfl rfl (hb hby own_d_prog_34_method_5_5) _ ?_
      show Steps p.tables e below (T687.setTop (mkF m 6 #[.val (.ref I), .val (.int ix), .val (.ref out), .unset, .unset, .unset] [(.int sv)])) _
      refine XS.istoreN X687.here hx rfl (hb hby own_d_prog_34_method_5_6) rfl (l' := #[.val (.ref I), .val (.int ix), .val (.ref out), .val (.int sv), .unset, .unset]) rfl ?_
      refine XS.aloadN X687.here hx rfl (hb hby own_d_prog_34_method_5_7) rfl rfl ?_
      refine st689 _ ?_
      refine XS.iloadN X689.here hx rfl (hb hby own_d_prog_34_method_5_11) rfl ?_
      show Steps p.tables e below (T689.setTop (mkF m 12 #[.val (.ref I), .val (.int ix), .val (.ref out), .val (.int sv), .unset, .unset] [(.int ix), (.ref sA)])) _
      refine XS.iconst X689.here hx rfl (hb hby own_d_prog_34_method_5_12) ?_
      refine XS.iadd X689.here hx rfl (hb hby own_d_prog_34_method_5_13) rfl ?_
      refine X689.iaload hx (j := (ix + (1 : Int32))) (v := (.int (sv + ln))) (by rw [e689]; exact Ar690.1) (State.isArrayOf_alike hZ.alike Ar690.2.1) Ar690.2.2 (own_inb G690 1024 hsl (show ¬ ((ix + (1 : Int32)) < 0 ∨ 1024 ≤ ((ix + (1 : Int32))).toNatClampNeg) by rcases hix with z | z <;> rw [z] <;> decide)) (own_get G690 hs_b) (g := (mkF m 14 #[.val (.ref I), .val (.int ix), .val (.ref out), .val (.int sv), .unset, .unset] [(.int (ix + (1 : Int32))), (.ref sA)])) rfl rfl (hb hby own_d_prog_34_method_5_14) _ ?_
      refine XS.iloadN X689.here hx rfl (hb hby own_d_prog_34_method_5_15) rfl ?_
      show Steps p.tables e below (T689.setTop (mkF m 16 #[.val (.ref I), .val (.int ix), .val (.ref out), .val (.int sv), .unset, .unset] [(.int sv), (.int (sv + ln))])) _
      refine XS.isub X689.here hx rfl (hb hby own_d_prog_34_method_5_16) rfl ?_
      show Steps p.tables e below (T689.setTop (mkF m 17 #[.val (.ref I), .val (.int ix), .val (.ref out), .val (.int sv), .unset, .unset] [(.int ((sv + ln) - sv))])) _
      rw [own_addsub sv ln]
      refine XS.istore X689.here hx rfl (hb hby own_d_prog_34_method_5_17) rfl (l' := #[.val (.ref I), .val (.int ix), .val (.ref out), .val (.int sv), .val (.int ln), .unset]) rfl ?_
      refine XS.iconst X689.here hx rfl (hb hby own_d_prog_34_method_5_19) ?_
      refine XS.istore X689.here hx rfl (hb hby own_d_prog_34_method_5_20) rfl (l' := #[.val (.ref I), .val (.int ix), .val (.ref out), .val (.int sv), .val (.int ln), .val (.int (0 : Int32))]) rfl ?_
      show Steps p.tables e below (T689.setTop (mkF m 22 #[.val (.ref I), .val (.int ix), .val (.ref out), .val (.int sv), .val (.int ln), .val (.int (0 : Int32))] [])) _
      refine XS.iload X689.here hx rfl (hb hby own_d_prog_34_method_5_22) rfl ?_
      refine XS.iload X689.here hx rfl (hb hby own_d_prog_34_method_5_24) rfl ?_
      refine XS.icmpNo X689.here hx rfl (hb hby own_d_prog_34_method_5_26) rfl (tlt (show (0 : Int32) < ln by rw [q]; decide)).2.1 ?_
      refine XS.aloadN X689.here hx rfl (hb hby own_d_prog_34_method_5_29) rfl rfl ?_
      show Steps p.tables e below (T689.setTop (mkF m 30 #[.val (.ref I), .val (.int ix), .val (.ref out), .val (.int sv), .val (.int ln), .val (.int (0 : Int32))] [(.ref out)])) _
      refine XS.iload X689.here hx rfl (hb hby own_d_prog_34_method_5_30) rfl ?_
      refine XS.aloadN X689.here hx rfl (hb hby own_d_prog_34_method_5_32) rfl rfl ?_
      refine st691 _ ?_
      refine XS.iloadN X691.here hx rfl (hb hby own_d_prog_34_method_5_36) rfl ?_
      show Steps p.tables e below (T691.setTop (mkF m 37 #[.val (.ref I), .val (.int ix), .val (.ref out), .val (.int sv), .val (.int ln), .val (.int (0 : Int32))] [(.int sv), (.ref kA), (.int (0 : Int32)), (.ref out)])) _
      refine XS.iload X691.here hx rfl (hb hby own_d_prog_34_method_5_37) rfl ?_
      refine XS.iadd X691.here hx rfl (hb hby own_d_prog_34_method_5_39) rfl ?_
      refine X691.laload hx (j := (sv + (0 : Int32))) (v := (.long k0)) (by rw [e691]; exact Ar692.1) (State.isArrayOf_alike hZ.alike Ar692.2.1) Ar692.2.2 (own_inb G692 _ hkl (own_cpb hnd hsv).1) (own_get G692 hg0) (g := (mkF m 40 #[.val (.ref I), .val (.int ix), .val (.ref out), .val (.int sv), .val (.int ln), .val (.int (0 : Int32))] [(.int (sv + (0 : Int32))), (.ref kA), (.int (0 : Int32)), (.ref out)])) rfl rfl (hb hby own_d_prog_34_method_5_40) _ ?_
      refine st694 _ ?_
      show Steps p.tables e below (T694.setTop (mkF m 42 #[.val (.ref I), .val (.int ix), .val (.ref out), .val (.int sv), .val (.int ln), .val (.int (0 : Int32))] [])) _
      refine XS.iinc X694.here hx rfl (hb hby own_d_prog_34_method_5_42) rfl (l' := #[.val (.ref I), .val (.int ix), .val (.ref out), .val (.int sv), .val (.int ln), .val (.int ((0 : Int32) + (1 : Int32)))]) rfl ?_
      refine XS.goto X694.here hx rfl (pc0 := 45) (pc' := 22) rfl (hb hby own_d_prog_34_method_5_45) (by decide) (by decide) ?_
      refine XS.iload X694.here hx rfl (hb hby own_d_prog_34_method_5_22) rfl ?_
      refine XS.iload X694.here hx rfl (hb hby own_d_prog_34_method_5_24) rfl ?_
      show Steps p.tables e below (T694.setTop (mkF m 26 #[.val (.ref I), .val (.int ix), .val (.ref out), .val (.int sv), .val (.int ln), .val (.int ((0 : Int32) + (1 : Int32)))] [(.int ln), (.int ((0 : Int32) + (1 : Int32)))])) _
      refine XS.icmpNo X694.here hx rfl (hb hby own_d_prog_34_method_5_26) rfl (tlt (show ((0 : Int32) + (1 : Int32)) < ln by rw [q]; decide)).2.1 ?_
      refine XS.aloadN X694.here hx rfl (hb hby own_d_prog_34_method_5_29) rfl rfl ?_
      refine XS.iload X694.here hx rfl (hb hby own_d_prog_34_method_5_30) rfl ?_
      refine XS.aloadN X694.here hx rfl (hb hby own_d_prog_34_method_5_32) rfl rfl ?_
      show Steps p.tables e below (T694.setTop (mkF m 33 #[.val (.ref I), .val (.int ix), .val (.ref out), .val (.int sv), .val (.int ln), .val (.int ((0 : Int32) + (1 : Int32)))] [(.ref I), (.int ((0 : Int32) + (1 : Int32))), (.ref out)])) _
      refine st700 _ ?_
      refine XS.iloadN X700.here hx rfl (hb hby own_d_prog_34_method_5_36) rfl ?_
      refine XS.iload X700.here hx rfl (hb hby own_d_prog_34_method_5_37) rfl ?_
      refine XS.iadd X700.here hx rfl (hb hby own_d_prog_34_method_5_39) rfl ?_
      show Steps p.tables e below (T700.setTop (mkF m 40 #[.val (.ref I), .val (.int ix), .val (.ref out), .val (.int sv), .val (.int ln), .val (.int ((0 : Int32) + (1 : Int32)))] [(.int (sv + ((0 : Int32) + (1 : Int32)))), (.ref kA), (.int ((0 : Int32) + (1 : Int32))), (.ref out)])) _
      refine X700.laload hx (j := (sv + ((0 : Int32) + (1 : Int32)))) (v := (.long k1)) (by rw [e700]; exact Ar701.1) (State.isArrayOf_alike hZ.alike Ar701.2.1) Ar701.2.2 (own_inb G701 _ hkl (own_cpb hnd hsv).2.1) (own_get G701 (hg1 (by rw [q]; decide))) (g := (mkF m 40 #[.val (.ref I), .val (.int ix), .val (.ref out), .val (.int sv), .val (.int ln), .val (.int ((0 : Int32) + (1 : Int32)))] [(.int (sv + ((0 : Int32) + (1 : Int32)))), (.ref kA), (.int ((0 : Int32) + (1 : Int32))), (.ref out)])) rfl rfl (hb hby own_d_prog_34_method_5_40) _ ?_
      refine st703 _ ?_
      refine XS.iinc X703.here hx rfl (hb hby own_d_prog_34_method_5_42) rfl (l' := #[.val (.ref I), .val (.int ix), .val (.ref out), .val (.int sv), .val (.int ln), .val (.int (((0 : Int32) + (1 : Int32)) + (1 : Int32)))]) rfl ?_
      refine XS.goto X703.here hx rfl (pc0 := 45) (pc' := 22) rfl (hb hby own_d_prog_34_method_5_45) (by decide) (by decide) ?_
      show Steps p.tables e below (T703.setTop (mkF m 22 #[.val (.ref I), .val (.int ix), .val (.ref out), .val (.int sv), .val (.int ln), .val (.int (((0 : Int32) + (1 : Int32)) + (1 : Int32)))] [])) _
      refine XS.iload X703.here hx rfl (hb hby own_d_prog_34_method_5_22) rfl ?_
      refine XS.iload X703.here hx rfl (hb hby own_d_prog_34_method_5_24) rfl ?_
      refine XS.icmpNo X703.here hx rfl (hb hby own_d_prog_34_method_5_26) rfl (tlt (show (((0 : Int32) + (1 : Int32)) + (1 : Int32)) < ln by rw [q]; decide)).2.1 ?_
      refine XS.aloadN X703.here hx rfl (hb hby own_d_prog_34_method_5_29) rfl rfl ?_
      show Steps p.tables e below (T703.setTop (mkF m 30 #[.val (.ref I), .val (.int ix), .val (.ref out), .val (.int sv), .val (.int ln), .val (.int (((0 : Int32) + (1 : Int32)) + (1 : Int32)))] [(.ref out)])) _
      refine XS.iload X703.here hx rfl (hb hby own_d_prog_34_method_5_30) rfl ?_
      refine XS.aloadN X703.here hx rfl (hb hby own_d_prog_34_method_5_32) rfl rfl ?_
      refine st709 _ ?_
      refine XS.iloadN X709.here hx rfl (hb hby own_d_prog_34_method_5_36) rfl ?_
      show Steps p.tables e below (T709.setTop (mkF m 37 #[.val (.ref I), .val (.int ix), .val (.ref out), .val (.int sv), .val (.int ln), .val (.int (((0 : Int32) + (1 : Int32)) + (1 : Int32)))] [(.int sv), (.ref kA), (.int (((0 : Int32) + (1 : Int32)) + (1 : Int32))), (.ref out)])) _
      refine XS.iload X709.here hx rfl (hb hby own_d_prog_34_method_5_37) rfl ?_
      refine XS.iadd X709.here hx rfl (hb hby own_d_prog_34_method_5_39) rfl ?_
      refine X709.laload hx (j := (sv + (((0 : Int32) + (1 : Int32)) + (1 : Int32)))) (v := (.long k2)) (by rw [e709]; exact Ar710.1) (State.isArrayOf_alike hZ.alike Ar710.2.1) Ar710.2.2 (own_inb G710 _ hkl (own_cpb hnd hsv).2.2) (own_get G710 (hg2 q)) (g := (mkF m 40 #[.val (.ref I), .val (.int ix), .val (.ref out), .val (.int sv), .val (.int ln), .val (.int (((0 : Int32) + (1 : Int32)) + (1 : Int32)))] [(.int (sv + (((0 : Int32) + (1 : Int32)) + (1 : Int32)))), (.ref kA), (.int (((0 : Int32) + (1 : Int32)) + (1 : Int32))), (.ref out)])) rfl rfl (hb hby own_d_prog_34_method_5_40) _ ?_
      refine st712 _ ?_
      show Steps p.tables e below (T712.setTop (mkF m 42 #[.val (.ref I), .val (.int ix), .val (.ref out), .val (.int sv), .val (.int ln), .val (.int (((0 : Int32) + (1 : Int32)) + (1 : Int32)))] [])) _
      refine XS.iinc X712.here hx rfl (hb hby own_d_prog_34_method_5_42) rfl (l' := #[.val (.ref I), .val (.int ix), .val (.ref out), .val (.int sv), .val (.int ln), .val (.int ((((0 : Int32) + (1 : Int32)) + (1 : Int32)) + (1 : Int32)))]) rfl ?_
      refine XS.goto X712.here hx rfl (pc0 := 45) (pc' := 22) rfl (hb hby own_d_prog_34_method_5_45) (by decide) (by decide) ?_
      refine XS.iload X712.here hx rfl (hb hby own_d_prog_34_method_5_22) rfl ?_
      refine XS.iload X712.here hx rfl (hb hby own_d_prog_34_method_5_24) rfl ?_
      show Steps p.tables e below (T712.setTop (mkF m 26 #[.val (.ref I), .val (.int ix), .val (.ref out), .val (.int sv), .val (.int ln), .val (.int ((((0 : Int32) + (1 : Int32)) + (1 : Int32)) + (1 : Int32)))] [(.int ln), (.int ((((0 : Int32) + (1 : Int32)) + (1 : Int32)) + (1 : Int32)))])) _
      refine XS.icmpYes X712.here hx rfl (pc0 := 26) (pc' := 48) rfl (hb hby own_d_prog_34_method_5_26) rfl (flt (show ¬ (((((0 : Int32) + (1 : Int32)) + (1 : Int32)) + (1 : Int32)) < ln) by rw [q]; decide)).2.1 (by decide) (by decide) ?_
      refine XS.iload X712.here hx rfl (hb hby own_d_prog_34_method_5_48) rfl ?_
      exact own_retI X712 hx Bd.returns (hb hby own_d_prog_34_method_5_50) hr
    · show rm_copy_Q Z I kA sA ck cs ks ss out co pe ix sv ln k0 k1 k2 nd h0 n0 _ T712.heap _
      rw [e712]
      exact ⟨rfl, N712, KP712, by rw [q, own_out3]; exact f717⟩
theorem rm_check_ef (m : MethodId) (x0 : Addr) (x1 : Int32) (x2 : Int32) (x3 : Addr) (x4 : Int32) (x5 : Int64) : entryFrame m #[(.ref x0), (.int x1), (.int x2), (.ref x3), (.int x4), (.long x5)] 7 = mkF m 0 #[.val (.ref x0), .val (.int x1), .val (.int x2), .val (.ref x3), .val (.int x4), .val (.long x5), .second] [] := by first | (simp [entryFrame, mkF, argsToLocals, Value.category]; done) | rfl
def rm_check_Q (Z : State) (out : Addr) (co : ClassId) (len : Int32) (off : Int32) (pe : Int64) (src : Addr) (cS : ClassId) (x0 : Int64) (x1 : Int64) (x2 : Int64) (x3 : Int64) (h0 : Heap) (n0 : Nat) (v : Option Value) (h : Heap) (L : List Loc) : Prop := v = some (.int (1 : Int32)) ∧ Fr n0 L ∧ h = h0
set_option maxRecDepth 65536 in
set_option maxHeartbeats 40000000 in
theorem rm_check (l : Launch) (Z : State) (a0 : Array Value) (hw : ∀ d ∈ tables_1, d.before a0 Z = true) (ws : List Jvm.Cond) (out : Addr) (co : ClassId) (len : Int32) (off : Int32) (pe : Int64) (src : Addr) (cS : ClassId) (x0 : Int64) (x1 : Int64) (x2 : Int64) (x3 : Int64) (h0 : Heap) (n0 : Nat) (Z0 : n0 ≤ h0.size) (lO : OwnLst Z h0 out .long co (own_out pe (own_x x0 x1 x2 x3 off) (own_x x0 x1 x2 x3 (off + (1 : Int32))) (own_x x0 x1 x2 x3 (off + (2 : Int32))) len)) (Lx : OwnLst Z h0 src .long cS [.long x0, .long x1, .long x2, .long x3]) (hol : (off = (0 : Int32) ∧ len = (1 : Int32)) ∨ (off = (0 : Int32) ∧ len = (2 : Int32)) ∨ (off = (0 : Int32) ∧ len = (3 : Int32)) ∨ (off = (1 : Int32) ∧ len = (1 : Int32)) ∨ (off = (1 : Int32) ∧ len = (2 : Int32))) :
    MetFree l (⟨"com/example/orbitfold/orbitfold/StateIndexCopyPinLaw", "check", "([JII[JIJ)Z"⟩ : MethodName) (head1 (Jvm.Cond.code (⟨"com/example/orbitfold/orbitfold/StateIndexCopyPinLaw", "check", "([JII[JIJ)Z"⟩ : MethodName) method_3_code 7 (some .boolean) :: ws) ({ frames := 0, cells := 0, slots := 0, locals := 0 } : Room)) (fun a₀ U₀ => a₀ = #[(.ref out), (.int len), (.int len), (.ref src), (.int off), (.long pe)] ∧ Z.Warmed39 U₀.vm ∧ U₀.heap = h0) (fun _ _ _ _ _ => True) (fun _ U₀ o₀ U₁ => ∃ v₀ L₀, o₀ = .returned v₀ ∧ rm_check_Q Z out co len off pe src cS x0 x1 x2 x3 h0 n0 v₀ U₁.heap L₀ ∧ FrameEnd U₀ o₀ U₁ L₀ ({ frames := 0, cells := 0, slots := 0, locals := 0 } : Room).cells ({ frames := 0, cells := 0, slots := 0, locals := 0 } : Room).slots) := by
  refine MetFree.of_bodySF (plainFor_of_name own_pn6) hisR ?_
  intro p e s m args below meth c s₁ Bd hml0 hP hK
  obtain ⟨rfl, hZ, hh⟩ := hP
  have hx := Bd.exec
  have hby := Bd.bytes
  have hml : c.maxLocals = 7 := hml0
  have hown : s.vm.findClass "com/example/orbitfold/orbitfold/StateIndexCopyPinLaw" = some m.cls := findClass_of_methodNamed Bd.named
  have hnm := (name_of_methodNamed Bd.named Bd.method).1
  have X0 : Stand p l e ({ frames := 0, cells := 0, slots := 0, locals := 0 } : Room) s m #[(.ref out), (.int len), (.int len), (.ref src), (.int off), (.long pe)] below meth c s₁ [] 0 0 := Stand.of_body Bd
  have e0 : s₁.heap = h0 := by rw [← hh, Bd.state]; rfl
  have N0 := Fr.nil n0
  have pre0 : ∀ t, Steps p.tables e below (s₁.setTop (mkF m 0 #[.val (.ref out), .val (.int len), .val (.int len), .val (.ref src), .val (.int off), .val (.long pe), .second] [])) t → Steps p.tables e below (s₁.setTop (entryFrame m #[(.ref out), (.int len), (.int len), (.ref src), (.int off), (.long pe)] 7)) t := fun t kk₀ => castTop (rm_check_ef m out len len src off pe) kk₀
  rcases hol with ⟨q, r⟩ | ⟨q, r⟩ | ⟨q, r⟩ | ⟨q, r⟩ | ⟨q, r⟩
  · obtain ⟨cl718, Ar718, q718, G718⟩ := id lO
    obtain ⟨cl719, Ar719, q719, G719⟩ := id Lx
    obtain ⟨cl720, Ar720, q720, G720⟩ := id lO
    obtain ⟨cl721, Ar721, q721, G721⟩ := id lO
    obtain ⟨cl722, Ar722, q722, G722⟩ := id lO
    obtain ⟨fs, hr, hrun, hended, hW, hsame⟩ := X0.leave (v := some (.int (1 : Int32))) (fun h => by rw [Bd.returns] at h; cases h)
    refine ⟨_, _, pre0 _ ?_, hrun, hended, _, _, rfl, ?_, ⟨_, rfl⟩, hW, hsame.mono (by decide) (by decide)⟩
    · show Steps p.tables e below (s₁.setTop (mkF m 0 #[.val (.ref out), .val (.int len), .val (.int len), .val (.ref src), .val (.int off), .val (.long pe), .second] [])) _
      refine XS.iloadN X0.here hx rfl (hb hby own_d_method_3_0) rfl ?_
      refine XS.iloadN X0.here hx rfl (hb hby own_d_method_3_1) rfl ?_
      refine XS.icmpYes X0.here hx rfl (pc0 := 2) (pc' := 7) rfl (hb hby own_d_method_3_2) rfl (teq (rfl : len = len)).1 (by decide) (by decide) ?_
      refine XS.aloadN X0.here hx rfl (hb hby own_d_method_3_7) rfl rfl ?_
      show Steps p.tables e below (s₁.setTop (mkF m 8 #[.val (.ref out), .val (.int len), .val (.int len), .val (.ref src), .val (.int off), .val (.long pe), .second] [(.ref out)])) _
      refine XS.iconst X0.here hx rfl (hb hby own_d_method_3_8) ?_
      refine X0.laload hx (j := (0 : Int32)) (v := (.long x0)) (by rw [e0]; exact Ar718.1) (State.isArrayOf_alike hZ.alike Ar718.2.1) Ar718.2.2 (own_inb G718 4 (by rw [q, r]; rfl) (by decide)) (own_get G718 (by rw [q, r]; rfl)) (g := (mkF m 9 #[.val (.ref out), .val (.int len), .val (.int len), .val (.ref src), .val (.int off), .val (.long pe), .second] [(.int (0 : Int32)), (.ref out)])) rfl rfl (hb hby own_d_method_3_9) _ ?_
      refine XS.aloadN X0.here hx rfl (hb hby own_d_method_3_10) rfl rfl ?_
      refine XS.iload X0.here hx rfl (hb hby own_d_method_3_11) rfl ?_
      show Steps p.tables e below (s₁.setTop (mkF m 13 #[.val (.ref out), .val (.int len), .val (.int len), .val (.ref src), .val (.int off), .val (.long pe), .second] [(.int off), (.ref src), (.long x0)])) _
      refine X0.laload hx (j := off) (v := (.long x0)) (by rw [e0]; exact Ar719.1) (State.isArrayOf_alike hZ.alike Ar719.2.1) Ar719.2.2 (own_inb G719 4 rfl (show ¬ (off < 0 ∨ 4 ≤ (off).toNatClampNeg) by rw [q]; decide)) (own_get G719 (by rw [q]; rfl)) (g := (mkF m 13 #[.val (.ref out), .val (.int len), .val (.int len), .val (.ref src), .val (.int off), .val (.long pe), .second] [(.int off), (.ref src), (.long x0)])) rfl rfl (hb hby own_d_method_3_13) _ ?_
      refine XS.lcmp X0.here hx rfl (hb hby own_d_method_3_14) rfl ?_
      refine XS.ifYes X0.here hx rfl (pc0 := 15) (pc' := 20) rfl (hb hby own_d_method_3_15) rfl ((if0 _ _).trans (teq ((lw_eq _ _).mpr rfl)).1) (by decide) (by decide) ?_
      refine XS.iloadN X0.here hx rfl (hb hby own_d_method_3_20) rfl ?_
      show Steps p.tables e below (s₁.setTop (mkF m 21 #[.val (.ref out), .val (.int len), .val (.int len), .val (.ref src), .val (.int off), .val (.long pe), .second] [(.int len)])) _
      refine XS.iconst X0.here hx rfl (hb hby own_d_method_3_21) ?_
      refine XS.icmpYes X0.here hx rfl (pc0 := 22) (pc' := 40) rfl (hb hby own_d_method_3_22) rfl (flt (show ¬ ((1 : Int32) < len) by rw [r]; decide)).2.2.2 (by decide) (by decide) ?_
      refine XS.aloadN X0.here hx rfl (hb hby own_d_method_3_40) rfl rfl ?_
      refine XS.iconst X0.here hx rfl (hb hby own_d_method_3_41) ?_
      show Steps p.tables e below (s₁.setTop (mkF m 42 #[.val (.ref out), .val (.int len), .val (.int len), .val (.ref src), .val (.int off), .val (.long pe), .second] [(.int (1 : Int32)), (.ref out)])) _
      refine X0.laload hx (j := (1 : Int32)) (v := (.long pe)) (by rw [e0]; exact Ar720.1) (State.isArrayOf_alike hZ.alike Ar720.2.1) Ar720.2.2 (own_inb G720 4 (by rw [q, r]; rfl) (by decide)) (own_get G720 (by rw [q, r]; rfl)) (g := (mkF m 42 #[.val (.ref out), .val (.int len), .val (.int len), .val (.ref src), .val (.int off), .val (.long pe), .second] [(.int (1 : Int32)), (.ref out)])) rfl rfl (hb hby own_d_method_3_42) _ ?_
      refine XS.lload X0.here hx rfl (hb hby own_d_method_3_43) rfl ?_
      refine XS.lcmp X0.here hx rfl (hb hby own_d_method_3_45) rfl ?_
      refine XS.ifYes X0.here hx rfl (pc0 := 46) (pc' := 51) rfl (hb hby own_d_method_3_46) rfl ((if0 _ _).trans (teq ((lw_eq _ _).mpr rfl)).1) (by decide) (by decide) ?_
      show Steps p.tables e below (s₁.setTop (mkF m 51 #[.val (.ref out), .val (.int len), .val (.int len), .val (.ref src), .val (.int off), .val (.long pe), .second] [])) _
      refine XS.iloadN X0.here hx rfl (hb hby own_d_method_3_51) rfl ?_
      refine XS.iconst X0.here hx rfl (hb hby own_d_method_3_52) ?_
      refine XS.icmpYes X0.here hx rfl (pc0 := 53) (pc' := 71) rfl (hb hby own_d_method_3_53) rfl (flt (show ¬ ((2 : Int32) < len) by rw [r]; decide)).2.2.2 (by decide) (by decide) ?_
      refine XS.aloadN X0.here hx rfl (hb hby own_d_method_3_71) rfl rfl ?_
      show Steps p.tables e below (s₁.setTop (mkF m 72 #[.val (.ref out), .val (.int len), .val (.int len), .val (.ref src), .val (.int off), .val (.long pe), .second] [(.ref out)])) _
      refine XS.iconst X0.here hx rfl (hb hby own_d_method_3_72) ?_
      refine X0.laload hx (j := (2 : Int32)) (v := (.long pe)) (by rw [e0]; exact Ar721.1) (State.isArrayOf_alike hZ.alike Ar721.2.1) Ar721.2.2 (own_inb G721 4 (by rw [q, r]; rfl) (by decide)) (own_get G721 (by rw [q, r]; rfl)) (g := (mkF m 73 #[.val (.ref out), .val (.int len), .val (.int len), .val (.ref src), .val (.int off), .val (.long pe), .second] [(.int (2 : Int32)), (.ref out)])) rfl rfl (hb hby own_d_method_3_73) _ ?_
      refine XS.lload X0.here hx rfl (hb hby own_d_method_3_74) rfl ?_
      refine XS.lcmp X0.here hx rfl (hb hby own_d_method_3_76) rfl ?_
      show Steps p.tables e below (s₁.setTop (mkF m 77 #[.val (.ref out), .val (.int len), .val (.int len), .val (.ref src), .val (.int off), .val (.long pe), .second] [(.int (lcmpW pe pe))])) _
      refine XS.ifYes X0.here hx rfl (pc0 := 77) (pc' := 82) rfl (hb hby own_d_method_3_77) rfl ((if0 _ _).trans (teq ((lw_eq _ _).mpr rfl)).1) (by decide) (by decide) ?_
      refine XS.aloadN X0.here hx rfl (hb hby own_d_method_3_82) rfl rfl ?_
      refine XS.iconst X0.here hx rfl (hb hby own_d_method_3_83) ?_
      refine X0.laload hx (j := (3 : Int32)) (v := (.long pe)) (by rw [e0]; exact Ar722.1) (State.isArrayOf_alike hZ.alike Ar722.2.1) Ar722.2.2 (own_inb G722 4 (by rw [q, r]; rfl) (by decide)) (own_get G722 (by rw [q, r]; rfl)) (g := (mkF m 84 #[.val (.ref out), .val (.int len), .val (.int len), .val (.ref src), .val (.int off), .val (.long pe), .second] [(.int (3 : Int32)), (.ref out)])) rfl rfl (hb hby own_d_method_3_84) _ ?_
      show Steps p.tables e below (s₁.setTop (mkF m 85 #[.val (.ref out), .val (.int len), .val (.int len), .val (.ref src), .val (.int off), .val (.long pe), .second] [(.long pe)])) _
      refine XS.lload X0.here hx rfl (hb hby own_d_method_3_85) rfl ?_
      refine XS.lcmp X0.here hx rfl (hb hby own_d_method_3_87) rfl ?_
      refine XS.ifNo X0.here hx rfl (hb hby own_d_method_3_88) rfl ((if0 _ _).trans (teq ((lw_eq _ _).mpr rfl)).2) ?_
      refine XS.iconst X0.here hx rfl (hb hby own_d_method_3_91) ?_
      show Steps p.tables e below (s₁.setTop (mkF m 92 #[.val (.ref out), .val (.int len), .val (.int len), .val (.ref src), .val (.int off), .val (.long pe), .second] [(.int (1 : Int32))])) _
      refine XS.goto X0.here hx rfl (pc0 := 92) (pc' := 96) rfl (hb hby own_d_method_3_92) (by decide) (by decide) ?_
      exact own_retZ X0 hx rfl Bd.returns (hb hby own_d_method_3_96) hr
    · show rm_check_Q Z out co len off pe src cS x0 x1 x2 x3 h0 n0 _ s₁.heap _
      rw [e0]
      exact ⟨rfl, N0, rfl⟩
  · obtain ⟨cl723, Ar723, q723, G723⟩ := id lO
    obtain ⟨cl724, Ar724, q724, G724⟩ := id Lx
    obtain ⟨cl725, Ar725, q725, G725⟩ := id lO
    obtain ⟨cl726, Ar726, q726, G726⟩ := id Lx
    obtain ⟨cl727, Ar727, q727, G727⟩ := id lO
    obtain ⟨cl728, Ar728, q728, G728⟩ := id lO
    obtain ⟨fs, hr, hrun, hended, hW, hsame⟩ := X0.leave (v := some (.int (1 : Int32))) (fun h => by rw [Bd.returns] at h; cases h)
    refine ⟨_, _, pre0 _ ?_, hrun, hended, _, _, rfl, ?_, ⟨_, rfl⟩, hW, hsame.mono (by decide) (by decide)⟩
    · show Steps p.tables e below (s₁.setTop (mkF m 0 #[.val (.ref out), .val (.int len), .val (.int len), .val (.ref src), .val (.int off), .val (.long pe), .second] [])) _
      refine XS.iloadN X0.here hx rfl (hb hby own_d_method_3_0) rfl ?_
      refine XS.iloadN X0.here hx rfl (hb hby own_d_method_3_1) rfl ?_
      refine XS.icmpYes X0.here hx rfl (pc0 := 2) (pc' := 7) rfl (hb hby own_d_method_3_2) rfl (teq (rfl : len = len)).1 (by decide) (by decide) ?_
      refine XS.aloadN X0.here hx rfl (hb hby own_d_method_3_7) rfl rfl ?_
      show Steps p.tables e below (s₁.setTop (mkF m 8 #[.val (.ref out), .val (.int len), .val (.int len), .val (.ref src), .val (.int off), .val (.long pe), .second] [(.ref out)])) _
      refine XS.iconst X0.here hx rfl (hb hby own_d_method_3_8) ?_
      refine X0.laload hx (j := (0 : Int32)) (v := (.long x0)) (by rw [e0]; exact Ar723.1) (State.isArrayOf_alike hZ.alike Ar723.2.1) Ar723.2.2 (own_inb G723 4 (by rw [q, r]; rfl) (by decide)) (own_get G723 (by rw [q, r]; rfl)) (g := (mkF m 9 #[.val (.ref out), .val (.int len), .val (.int len), .val (.ref src), .val (.int off), .val (.long pe), .second] [(.int (0 : Int32)), (.ref out)])) rfl rfl (hb hby own_d_method_3_9) _ ?_
      refine XS.aloadN X0.here hx rfl (hb hby own_d_method_3_10) rfl rfl ?_
      refine XS.iload X0.here hx rfl (hb hby own_d_method_3_11) rfl ?_
      show Steps p.tables e below (s₁.setTop (mkF m 13 #[.val (.ref out), .val (.int len), .val (.int len), .val (.ref src), .val (.int off), .val (.long pe), .second] [(.int off), (.ref src), (.long x0)])) _
      refine X0.laload hx (j := off) (v := (.long x0)) (by rw [e0]; exact Ar724.1) (State.isArrayOf_alike hZ.alike Ar724.2.1) Ar724.2.2 (own_inb G724 4 rfl (show ¬ (off < 0 ∨ 4 ≤ (off).toNatClampNeg) by rw [q]; decide)) (own_get G724 (by rw [q]; rfl)) (g := (mkF m 13 #[.val (.ref out), .val (.int len), .val (.int len), .val (.ref src), .val (.int off), .val (.long pe), .second] [(.int off), (.ref src), (.long x0)])) rfl rfl (hb hby own_d_method_3_13) _ ?_
      refine XS.lcmp X0.here hx rfl (hb hby own_d_method_3_14) rfl ?_
      refine XS.ifYes X0.here hx rfl (pc0 := 15) (pc' := 20) rfl (hb hby own_d_method_3_15) rfl ((if0 _ _).trans (teq ((lw_eq _ _).mpr rfl)).1) (by decide) (by decide) ?_
      refine XS.iloadN X0.here hx rfl (hb hby own_d_method_3_20) rfl ?_
      show Steps p.tables e below (s₁.setTop (mkF m 21 #[.val (.ref out), .val (.int len), .val (.int len), .val (.ref src), .val (.int off), .val (.long pe), .second] [(.int len)])) _
      refine XS.iconst X0.here hx rfl (hb hby own_d_method_3_21) ?_
      refine XS.icmpNo X0.here hx rfl (hb hby own_d_method_3_22) rfl (tlt (show (1 : Int32) < len by rw [r]; decide)).2.2.2 ?_
      refine XS.aloadN X0.here hx rfl (hb hby own_d_method_3_25) rfl rfl ?_
      refine XS.iconst X0.here hx rfl (hb hby own_d_method_3_26) ?_
      show Steps p.tables e below (s₁.setTop (mkF m 27 #[.val (.ref out), .val (.int len), .val (.int len), .val (.ref src), .val (.int off), .val (.long pe), .second] [(.int (1 : Int32)), (.ref out)])) _
      refine X0.laload hx (j := (1 : Int32)) (v := (.long x1)) (by rw [e0]; exact Ar725.1) (State.isArrayOf_alike hZ.alike Ar725.2.1) Ar725.2.2 (own_inb G725 4 (by rw [q, r]; rfl) (by decide)) (own_get G725 (by rw [q, r]; rfl)) (g := (mkF m 27 #[.val (.ref out), .val (.int len), .val (.int len), .val (.ref src), .val (.int off), .val (.long pe), .second] [(.int (1 : Int32)), (.ref out)])) rfl rfl (hb hby own_d_method_3_27) _ ?_
      refine XS.aloadN X0.here hx rfl (hb hby own_d_method_3_28) rfl rfl ?_
      refine XS.iload X0.here hx rfl (hb hby own_d_method_3_29) rfl ?_
      refine XS.iconst X0.here hx rfl (hb hby own_d_method_3_31) ?_
      show Steps p.tables e below (s₁.setTop (mkF m 32 #[.val (.ref out), .val (.int len), .val (.int len), .val (.ref src), .val (.int off), .val (.long pe), .second] [(.int (1 : Int32)), (.int off), (.ref src), (.long x1)])) _
      refine XS.iadd X0.here hx rfl (hb hby own_d_method_3_32) rfl ?_
      refine X0.laload hx (j := (off + (1 : Int32))) (v := (.long x1)) (by rw [e0]; exact Ar726.1) (State.isArrayOf_alike hZ.alike Ar726.2.1) Ar726.2.2 (own_inb G726 4 rfl (show ¬ ((off + (1 : Int32)) < 0 ∨ 4 ≤ ((off + (1 : Int32))).toNatClampNeg) by rw [q]; decide)) (own_get G726 (by rw [q]; rfl)) (g := (mkF m 33 #[.val (.ref out), .val (.int len), .val (.int len), .val (.ref src), .val (.int off), .val (.long pe), .second] [(.int (off + (1 : Int32))), (.ref src), (.long x1)])) rfl rfl (hb hby own_d_method_3_33) _ ?_
      refine XS.lcmp X0.here hx rfl (hb hby own_d_method_3_34) rfl ?_
      refine XS.ifYes X0.here hx rfl (pc0 := 35) (pc' := 51) rfl (hb hby own_d_method_3_35) rfl ((if0 _ _).trans (teq ((lw_eq _ _).mpr rfl)).1) (by decide) (by decide) ?_
      show Steps p.tables e below (s₁.setTop (mkF m 51 #[.val (.ref out), .val (.int len), .val (.int len), .val (.ref src), .val (.int off), .val (.long pe), .second] [])) _
      refine XS.iloadN X0.here hx rfl (hb hby own_d_method_3_51) rfl ?_
      refine XS.iconst X0.here hx rfl (hb hby own_d_method_3_52) ?_
      refine XS.icmpYes X0.here hx rfl (pc0 := 53) (pc' := 71) rfl (hb hby own_d_method_3_53) rfl (flt (show ¬ ((2 : Int32) < len) by rw [r]; decide)).2.2.2 (by decide) (by decide) ?_
      refine XS.aloadN X0.here hx rfl (hb hby own_d_method_3_71) rfl rfl ?_
      show Steps p.tables e below (s₁.setTop (mkF m 72 #[.val (.ref out), .val (.int len), .val (.int len), .val (.ref src), .val (.int off), .val (.long pe), .second] [(.ref out)])) _
      refine XS.iconst X0.here hx rfl (hb hby own_d_method_3_72) ?_
      refine X0.laload hx (j := (2 : Int32)) (v := (.long pe)) (by rw [e0]; exact Ar727.1) (State.isArrayOf_alike hZ.alike Ar727.2.1) Ar727.2.2 (own_inb G727 4 (by rw [q, r]; rfl) (by decide)) (own_get G727 (by rw [q, r]; rfl)) (g := (mkF m 73 #[.val (.ref out), .val (.int len), .val (.int len), .val (.ref src), .val (.int off), .val (.long pe), .second] [(.int (2 : Int32)), (.ref out)])) rfl rfl (hb hby own_d_method_3_73) _ ?_
      refine XS.lload X0.here hx rfl (hb hby own_d_method_3_74) rfl ?_
      refine XS.lcmp X0.here hx rfl (hb hby own_d_method_3_76) rfl ?_
      show Steps p.tables e below (s₁.setTop (mkF m 77 #[.val (.ref out), .val (.int len), .val (.int len), .val (.ref src), .val (.int off), .val (.long pe), .second] [(.int (lcmpW pe pe))])) _
      refine XS.ifYes X0.here hx rfl (pc0 := 77) (pc' := 82) rfl (hb hby own_d_method_3_77) rfl ((if0 _ _).trans (teq ((lw_eq _ _).mpr rfl)).1) (by decide) (by decide) ?_
      refine XS.aloadN X0.here hx rfl (hb hby own_d_method_3_82) rfl rfl ?_
      refine XS.iconst X0.here hx rfl (hb hby own_d_method_3_83) ?_
      refine X0.laload hx (j := (3 : Int32)) (v := (.long pe)) (by rw [e0]; exact Ar728.1) (State.isArrayOf_alike hZ.alike Ar728.2.1) Ar728.2.2 (own_inb G728 4 (by rw [q, r]; rfl) (by decide)) (own_get G728 (by rw [q, r]; rfl)) (g := (mkF m 84 #[.val (.ref out), .val (.int len), .val (.int len), .val (.ref src), .val (.int off), .val (.long pe), .second] [(.int (3 : Int32)), (.ref out)])) rfl rfl (hb hby own_d_method_3_84) _ ?_
      show Steps p.tables e below (s₁.setTop (mkF m 85 #[.val (.ref out), .val (.int len), .val (.int len), .val (.ref src), .val (.int off), .val (.long pe), .second] [(.long pe)])) _
      refine XS.lload X0.here hx rfl (hb hby own_d_method_3_85) rfl ?_
      refine XS.lcmp X0.here hx rfl (hb hby own_d_method_3_87) rfl ?_
      refine XS.ifNo X0.here hx rfl (hb hby own_d_method_3_88) rfl ((if0 _ _).trans (teq ((lw_eq _ _).mpr rfl)).2) ?_
      refine XS.iconst X0.here hx rfl (hb hby own_d_method_3_91) ?_
      show Steps p.tables e below (s₁.setTop (mkF m 92 #[.val (.ref out), .val (.int len), .val (.int len), .val (.ref src), .val (.int off), .val (.long pe), .second] [(.int (1 : Int32))])) _
      refine XS.goto X0.here hx rfl (pc0 := 92) (pc' := 96) rfl (hb hby own_d_method_3_92) (by decide) (by decide) ?_
      exact own_retZ X0 hx rfl Bd.returns (hb hby own_d_method_3_96) hr
    · show rm_check_Q Z out co len off pe src cS x0 x1 x2 x3 h0 n0 _ s₁.heap _
      rw [e0]
      exact ⟨rfl, N0, rfl⟩
  · obtain ⟨cl729, Ar729, q729, G729⟩ := id lO
    obtain ⟨cl730, Ar730, q730, G730⟩ := id Lx
    obtain ⟨cl731, Ar731, q731, G731⟩ := id lO
    obtain ⟨cl732, Ar732, q732, G732⟩ := id Lx
    obtain ⟨cl733, Ar733, q733, G733⟩ := id lO
    obtain ⟨cl734, Ar734, q734, G734⟩ := id Lx
    obtain ⟨cl735, Ar735, q735, G735⟩ := id lO
    obtain ⟨fs, hr, hrun, hended, hW, hsame⟩ := X0.leave (v := some (.int (1 : Int32))) (fun h => by rw [Bd.returns] at h; cases h)
    refine ⟨_, _, pre0 _ ?_, hrun, hended, _, _, rfl, ?_, ⟨_, rfl⟩, hW, hsame.mono (by decide) (by decide)⟩
    · show Steps p.tables e below (s₁.setTop (mkF m 0 #[.val (.ref out), .val (.int len), .val (.int len), .val (.ref src), .val (.int off), .val (.long pe), .second] [])) _
      refine XS.iloadN X0.here hx rfl (hb hby own_d_method_3_0) rfl ?_
      refine XS.iloadN X0.here hx rfl (hb hby own_d_method_3_1) rfl ?_
      refine XS.icmpYes X0.here hx rfl (pc0 := 2) (pc' := 7) rfl (hb hby own_d_method_3_2) rfl (teq (rfl : len = len)).1 (by decide) (by decide) ?_
      refine XS.aloadN X0.here hx rfl (hb hby own_d_method_3_7) rfl rfl ?_
      show Steps p.tables e below (s₁.setTop (mkF m 8 #[.val (.ref out), .val (.int len), .val (.int len), .val (.ref src), .val (.int off), .val (.long pe), .second] [(.ref out)])) _
      refine XS.iconst X0.here hx rfl (hb hby own_d_method_3_8) ?_
      refine X0.laload hx (j := (0 : Int32)) (v := (.long x0)) (by rw [e0]; exact Ar729.1) (State.isArrayOf_alike hZ.alike Ar729.2.1) Ar729.2.2 (own_inb G729 4 (by rw [q, r]; rfl) (by decide)) (own_get G729 (by rw [q, r]; rfl)) (g := (mkF m 9 #[.val (.ref out), .val (.int len), .val (.int len), .val (.ref src), .val (.int off), .val (.long pe), .second] [(.int (0 : Int32)), (.ref out)])) rfl rfl (hb hby own_d_method_3_9) _ ?_
      refine XS.aloadN X0.here hx rfl (hb hby own_d_method_3_10) rfl rfl ?_
      refine XS.iload X0.here hx rfl (hb hby own_d_method_3_11) rfl ?_
      show Steps p.tables e below (s₁.setTop (mkF m 13 #[.val (.ref out), .val (.int len), .val (.int len), .val (.ref src), .val (.int off), .val (.long pe), .second] [(.int off), (.ref src), (.long x0)])) _
      refine X0.laload hx (j := off) (v := (.long x0)) (by rw [e0]; exact Ar730.1) (State.isArrayOf_alike hZ.alike Ar730.2.1) Ar730.2.2 (own_inb G730 4 rfl (show ¬ (off < 0 ∨ 4 ≤ (off).toNatClampNeg) by rw [q]; decide)) (own_get G730 (by rw [q]; rfl)) (g := (mkF m 13 #[.val (.ref out), .val (.int len), .val (.int len), .val (.ref src), .val (.int off), .val (.long pe), .second] [(.int off), (.ref src), (.long x0)])) rfl rfl (hb hby own_d_method_3_13) _ ?_
      refine XS.lcmp X0.here hx rfl (hb hby own_d_method_3_14) rfl ?_
      refine XS.ifYes X0.here hx rfl (pc0 := 15) (pc' := 20) rfl (hb hby own_d_method_3_15) rfl ((if0 _ _).trans (teq ((lw_eq _ _).mpr rfl)).1) (by decide) (by decide) ?_
      refine XS.iloadN X0.here hx rfl (hb hby own_d_method_3_20) rfl ?_
      show Steps p.tables e below (s₁.setTop (mkF m 21 #[.val (.ref out), .val (.int len), .val (.int len), .val (.ref src), .val (.int off), .val (.long pe), .second] [(.int len)])) _
      refine XS.iconst X0.here hx rfl (hb hby own_d_method_3_21) ?_
      refine XS.icmpNo X0.here hx rfl (hb hby own_d_method_3_22) rfl (tlt (show (1 : Int32) < len by rw [r]; decide)).2.2.2 ?_
      refine XS.aloadN X0.here hx rfl (hb hby own_d_method_3_25) rfl rfl ?_
      refine XS.iconst X0.here hx rfl (hb hby own_d_method_3_26) ?_
      show Steps p.tables e below (s₁.setTop (mkF m 27 #[.val (.ref out), .val (.int len), .val (.int len), .val (.ref src), .val (.int off), .val (.long pe), .second] [(.int (1 : Int32)), (.ref out)])) _
      refine X0.laload hx (j := (1 : Int32)) (v := (.long x1)) (by rw [e0]; exact Ar731.1) (State.isArrayOf_alike hZ.alike Ar731.2.1) Ar731.2.2 (own_inb G731 4 (by rw [q, r]; rfl) (by decide)) (own_get G731 (by rw [q, r]; rfl)) (g := (mkF m 27 #[.val (.ref out), .val (.int len), .val (.int len), .val (.ref src), .val (.int off), .val (.long pe), .second] [(.int (1 : Int32)), (.ref out)])) rfl rfl (hb hby own_d_method_3_27) _ ?_
      refine XS.aloadN X0.here hx rfl (hb hby own_d_method_3_28) rfl rfl ?_
      refine XS.iload X0.here hx rfl (hb hby own_d_method_3_29) rfl ?_
      refine XS.iconst X0.here hx rfl (hb hby own_d_method_3_31) ?_
      show Steps p.tables e below (s₁.setTop (mkF m 32 #[.val (.ref out), .val (.int len), .val (.int len), .val (.ref src), .val (.int off), .val (.long pe), .second] [(.int (1 : Int32)), (.int off), (.ref src), (.long x1)])) _
      refine XS.iadd X0.here hx rfl (hb hby own_d_method_3_32) rfl ?_
      refine X0.laload hx (j := (off + (1 : Int32))) (v := (.long x1)) (by rw [e0]; exact Ar732.1) (State.isArrayOf_alike hZ.alike Ar732.2.1) Ar732.2.2 (own_inb G732 4 rfl (show ¬ ((off + (1 : Int32)) < 0 ∨ 4 ≤ ((off + (1 : Int32))).toNatClampNeg) by rw [q]; decide)) (own_get G732 (by rw [q]; rfl)) (g := (mkF m 33 #[.val (.ref out), .val (.int len), .val (.int len), .val (.ref src), .val (.int off), .val (.long pe), .second] [(.int (off + (1 : Int32))), (.ref src), (.long x1)])) rfl rfl (hb hby own_d_method_3_33) _ ?_
      refine XS.lcmp X0.here hx rfl (hb hby own_d_method_3_34) rfl ?_
      refine XS.ifYes X0.here hx rfl (pc0 := 35) (pc' := 51) rfl (hb hby own_d_method_3_35) rfl ((if0 _ _).trans (teq ((lw_eq _ _).mpr rfl)).1) (by decide) (by decide) ?_
      show Steps p.tables e below (s₁.setTop (mkF m 51 #[.val (.ref out), .val (.int len), .val (.int len), .val (.ref src), .val (.int off), .val (.long pe), .second] [])) _
      refine XS.iloadN X0.here hx rfl (hb hby own_d_method_3_51) rfl ?_
      refine XS.iconst X0.here hx rfl (hb hby own_d_method_3_52) ?_
      refine XS.icmpNo X0.here hx rfl (hb hby own_d_method_3_53) rfl (tlt (show (2 : Int32) < len by rw [r]; decide)).2.2.2 ?_
      refine XS.aloadN X0.here hx rfl (hb hby own_d_method_3_56) rfl rfl ?_
      show Steps p.tables e below (s₁.setTop (mkF m 57 #[.val (.ref out), .val (.int len), .val (.int len), .val (.ref src), .val (.int off), .val (.long pe), .second] [(.ref out)])) _
      refine XS.iconst X0.here hx rfl (hb hby own_d_method_3_57) ?_
      refine X0.laload hx (j := (2 : Int32)) (v := (.long x2)) (by rw [e0]; exact Ar733.1) (State.isArrayOf_alike hZ.alike Ar733.2.1) Ar733.2.2 (own_inb G733 4 (by rw [q, r]; rfl) (by decide)) (own_get G733 (by rw [q, r]; rfl)) (g := (mkF m 58 #[.val (.ref out), .val (.int len), .val (.int len), .val (.ref src), .val (.int off), .val (.long pe), .second] [(.int (2 : Int32)), (.ref out)])) rfl rfl (hb hby own_d_method_3_58) _ ?_
      refine XS.aloadN X0.here hx rfl (hb hby own_d_method_3_59) rfl rfl ?_
      refine XS.iload X0.here hx rfl (hb hby own_d_method_3_60) rfl ?_
      show Steps p.tables e below (s₁.setTop (mkF m 62 #[.val (.ref out), .val (.int len), .val (.int len), .val (.ref src), .val (.int off), .val (.long pe), .second] [(.int off), (.ref src), (.long x2)])) _
      refine XS.iconst X0.here hx rfl (hb hby own_d_method_3_62) ?_
      refine XS.iadd X0.here hx rfl (hb hby own_d_method_3_63) rfl ?_
      refine X0.laload hx (j := (off + (2 : Int32))) (v := (.long x2)) (by rw [e0]; exact Ar734.1) (State.isArrayOf_alike hZ.alike Ar734.2.1) Ar734.2.2 (own_inb G734 4 rfl (show ¬ ((off + (2 : Int32)) < 0 ∨ 4 ≤ ((off + (2 : Int32))).toNatClampNeg) by rw [q]; decide)) (own_get G734 (by rw [q]; rfl)) (g := (mkF m 64 #[.val (.ref out), .val (.int len), .val (.int len), .val (.ref src), .val (.int off), .val (.long pe), .second] [(.int (off + (2 : Int32))), (.ref src), (.long x2)])) rfl rfl (hb hby own_d_method_3_64) _ ?_
      refine XS.lcmp X0.here hx rfl (hb hby own_d_method_3_65) rfl ?_
      show Steps p.tables e below (s₁.setTop (mkF m 66 #[.val (.ref out), .val (.int len), .val (.int len), .val (.ref src), .val (.int off), .val (.long pe), .second] [(.int (lcmpW x2 x2))])) _
      refine XS.ifYes X0.here hx rfl (pc0 := 66) (pc' := 82) rfl (hb hby own_d_method_3_66) rfl ((if0 _ _).trans (teq ((lw_eq _ _).mpr rfl)).1) (by decide) (by decide) ?_
      refine XS.aloadN X0.here hx rfl (hb hby own_d_method_3_82) rfl rfl ?_
      refine XS.iconst X0.here hx rfl (hb hby own_d_method_3_83) ?_
      refine X0.laload hx (j := (3 : Int32)) (v := (.long pe)) (by rw [e0]; exact Ar735.1) (State.isArrayOf_alike hZ.alike Ar735.2.1) Ar735.2.2 (own_inb G735 4 (by rw [q, r]; rfl) (by decide)) (own_get G735 (by rw [q, r]; rfl)) (g := (mkF m 84 #[.val (.ref out), .val (.int len), .val (.int len), .val (.ref src), .val (.int off), .val (.long pe), .second] [(.int (3 : Int32)), (.ref out)])) rfl rfl (hb hby own_d_method_3_84) _ ?_
      show Steps p.tables e below (s₁.setTop (mkF m 85 #[.val (.ref out), .val (.int len), .val (.int len), .val (.ref src), .val (.int off), .val (.long pe), .second] [(.long pe)])) _
      refine XS.lload X0.here hx rfl (hb hby own_d_method_3_85) rfl ?_
      refine XS.lcmp X0.here hx rfl (hb hby own_d_method_3_87) rfl ?_
      refine XS.ifNo X0.here hx rfl (hb hby own_d_method_3_88) rfl ((if0 _ _).trans (teq ((lw_eq _ _).mpr rfl)).2) ?_
      refine XS.iconst X0.here hx rfl (hb hby own_d_method_3_91) ?_
      show Steps p.tables e below (s₁.setTop (mkF m 92 #[.val (.ref out), .val (.int len), .val (.int len), .val (.ref src), .val (.int off), .val (.long pe), .second] [(.int (1 : Int32))])) _
      refine XS.goto X0.here hx rfl (pc0 := 92) (pc' := 96) rfl (hb hby own_d_method_3_92) (by decide) (by decide) ?_
      exact own_retZ X0 hx rfl Bd.returns (hb hby own_d_method_3_96) hr
    · show rm_check_Q Z out co len off pe src cS x0 x1 x2 x3 h0 n0 _ s₁.heap _
      rw [e0]
      exact ⟨rfl, N0, rfl⟩
  · obtain ⟨cl736, Ar736, q736, G736⟩ := id lO
    obtain ⟨cl737, Ar737, q737, G737⟩ := id Lx
    obtain ⟨cl738, Ar738, q738, G738⟩ := id lO
    obtain ⟨cl739, Ar739, q739, G739⟩ := id lO
    obtain ⟨cl740, Ar740, q740, G740⟩ := id lO
    obtain ⟨fs, hr, hrun, hended, hW, hsame⟩ := X0.leave (v := some (.int (1 : Int32))) (fun h => by rw [Bd.returns] at h; cases h)
    refine ⟨_, _, pre0 _ ?_, hrun, hended, _, _, rfl, ?_, ⟨_, rfl⟩, hW, hsame.mono (by decide) (by decide)⟩
    · show Steps p.tables e below (s₁.setTop (mkF m 0 #[.val (.ref out), .val (.int len), .val (.int len), .val (.ref src), .val (.int off), .val (.long pe), .second] [])) _
      refine XS.iloadN X0.here hx rfl (hb hby own_d_method_3_0) rfl ?_
      refine XS.iloadN X0.here hx rfl (hb hby own_d_method_3_1) rfl ?_
      refine XS.icmpYes X0.here hx rfl (pc0 := 2) (pc' := 7) rfl (hb hby own_d_method_3_2) rfl (teq (rfl : len = len)).1 (by decide) (by decide) ?_
      refine XS.aloadN X0.here hx rfl (hb hby own_d_method_3_7) rfl rfl ?_
      show Steps p.tables e below (s₁.setTop (mkF m 8 #[.val (.ref out), .val (.int len), .val (.int len), .val (.ref src), .val (.int off), .val (.long pe), .second] [(.ref out)])) _
      refine XS.iconst X0.here hx rfl (hb hby own_d_method_3_8) ?_
      refine X0.laload hx (j := (0 : Int32)) (v := (.long x1)) (by rw [e0]; exact Ar736.1) (State.isArrayOf_alike hZ.alike Ar736.2.1) Ar736.2.2 (own_inb G736 4 (by rw [q, r]; rfl) (by decide)) (own_get G736 (by rw [q, r]; rfl)) (g := (mkF m 9 #[.val (.ref out), .val (.int len), .val (.int len), .val (.ref src), .val (.int off), .val (.long pe), .second] [(.int (0 : Int32)), (.ref out)])) rfl rfl (hb hby own_d_method_3_9) _ ?_
      refine XS.aloadN X0.here hx rfl (hb hby own_d_method_3_10) rfl rfl ?_
      refine XS.iload X0.here hx rfl (hb hby own_d_method_3_11) rfl ?_
      show Steps p.tables e below (s₁.setTop (mkF m 13 #[.val (.ref out), .val (.int len), .val (.int len), .val (.ref src), .val (.int off), .val (.long pe), .second] [(.int off), (.ref src), (.long x1)])) _
      refine X0.laload hx (j := off) (v := (.long x1)) (by rw [e0]; exact Ar737.1) (State.isArrayOf_alike hZ.alike Ar737.2.1) Ar737.2.2 (own_inb G737 4 rfl (show ¬ (off < 0 ∨ 4 ≤ (off).toNatClampNeg) by rw [q]; decide)) (own_get G737 (by rw [q]; rfl)) (g := (mkF m 13 #[.val (.ref out), .val (.int len), .val (.int len), .val (.ref src), .val (.int off), .val (.long pe), .second] [(.int off), (.ref src), (.long x1)])) rfl rfl (hb hby own_d_method_3_13) _ ?_
      refine XS.lcmp X0.here hx rfl (hb hby own_d_method_3_14) rfl ?_
      refine XS.ifYes X0.here hx rfl (pc0 := 15) (pc' := 20) rfl (hb hby own_d_method_3_15) rfl ((if0 _ _).trans (teq ((lw_eq _ _).mpr rfl)).1) (by decide) (by decide) ?_
      refine XS.iloadN X0.here hx rfl (hb hby own_d_method_3_20) rfl ?_
      show Steps p.tables e below (s₁.setTop (mkF m 21 #[.val (.ref out), .val (.int len), .val (.int len), .val (.ref src), .val (.int off), .val (.long pe), .second] [(.int len)])) _
      refine XS.iconst X0.here hx rfl (hb hby own_d_method_3_21) ?_
      refine XS.icmpYes X0.here hx rfl (pc0 := 22) (pc' := 40) rfl (hb hby own_d_method_3_22) rfl (flt (show ¬ ((1 : Int32) < len) by rw [r]; decide)).2.2.2 (by decide) (by decide) ?_
      refine XS.aloadN X0.here hx rfl (hb hby own_d_method_3_40) rfl rfl ?_
      refine XS.iconst X0.here hx rfl (hb hby own_d_method_3_41) ?_
      show Steps p.tables e below (s₁.setTop (mkF m 42 #[.val (.ref out), .val (.int len), .val (.int len), .val (.ref src), .val (.int off), .val (.long pe), .second] [(.int (1 : Int32)), (.ref out)])) _
      refine X0.laload hx (j := (1 : Int32)) (v := (.long pe)) (by rw [e0]; exact Ar738.1) (State.isArrayOf_alike hZ.alike Ar738.2.1) Ar738.2.2 (own_inb G738 4 (by rw [q, r]; rfl) (by decide)) (own_get G738 (by rw [q, r]; rfl)) (g := (mkF m 42 #[.val (.ref out), .val (.int len), .val (.int len), .val (.ref src), .val (.int off), .val (.long pe), .second] [(.int (1 : Int32)), (.ref out)])) rfl rfl (hb hby own_d_method_3_42) _ ?_
      refine XS.lload X0.here hx rfl (hb hby own_d_method_3_43) rfl ?_
      refine XS.lcmp X0.here hx rfl (hb hby own_d_method_3_45) rfl ?_
      refine XS.ifYes X0.here hx rfl (pc0 := 46) (pc' := 51) rfl (hb hby own_d_method_3_46) rfl ((if0 _ _).trans (teq ((lw_eq _ _).mpr rfl)).1) (by decide) (by decide) ?_
      show Steps p.tables e below (s₁.setTop (mkF m 51 #[.val (.ref out), .val (.int len), .val (.int len), .val (.ref src), .val (.int off), .val (.long pe), .second] [])) _
      refine XS.iloadN X0.here hx rfl (hb hby own_d_method_3_51) rfl ?_
      refine XS.iconst X0.here hx rfl (hb hby own_d_method_3_52) ?_
      refine XS.icmpYes X0.here hx rfl (pc0 := 53) (pc' := 71) rfl (hb hby own_d_method_3_53) rfl (flt (show ¬ ((2 : Int32) < len) by rw [r]; decide)).2.2.2 (by decide) (by decide) ?_
      refine XS.aloadN X0.here hx rfl (hb hby own_d_method_3_71) rfl rfl ?_
      show Steps p.tables e below (s₁.setTop (mkF m 72 #[.val (.ref out), .val (.int len), .val (.int len), .val (.ref src), .val (.int off), .val (.long pe), .second] [(.ref out)])) _
      refine XS.iconst X0.here hx rfl (hb hby own_d_method_3_72) ?_
      refine X0.laload hx (j := (2 : Int32)) (v := (.long pe)) (by rw [e0]; exact Ar739.1) (State.isArrayOf_alike hZ.alike Ar739.2.1) Ar739.2.2 (own_inb G739 4 (by rw [q, r]; rfl) (by decide)) (own_get G739 (by rw [q, r]; rfl)) (g := (mkF m 73 #[.val (.ref out), .val (.int len), .val (.int len), .val (.ref src), .val (.int off), .val (.long pe), .second] [(.int (2 : Int32)), (.ref out)])) rfl rfl (hb hby own_d_method_3_73) _ ?_
      refine XS.lload X0.here hx rfl (hb hby own_d_method_3_74) rfl ?_
      refine XS.lcmp X0.here hx rfl (hb hby own_d_method_3_76) rfl ?_
      show Steps p.tables e below (s₁.setTop (mkF m 77 #[.val (.ref out), .val (.int len), .val (.int len), .val (.ref src), .val (.int off), .val (.long pe), .second] [(.int (lcmpW pe pe))])) _
      refine XS.ifYes X0.here hx rfl (pc0 := 77) (pc' := 82) rfl (hb hby own_d_method_3_77) rfl ((if0 _ _).trans (teq ((lw_eq _ _).mpr rfl)).1) (by decide) (by decide) ?_
      refine XS.aloadN X0.here hx rfl (hb hby own_d_method_3_82) rfl rfl ?_
      refine XS.iconst X0.here hx rfl (hb hby own_d_method_3_83) ?_
      refine X0.laload hx (j := (3 : Int32)) (v := (.long pe)) (by rw [e0]; exact Ar740.1) (State.isArrayOf_alike hZ.alike Ar740.2.1) Ar740.2.2 (own_inb G740 4 (by rw [q, r]; rfl) (by decide)) (own_get G740 (by rw [q, r]; rfl)) (g := (mkF m 84 #[.val (.ref out), .val (.int len), .val (.int len), .val (.ref src), .val (.int off), .val (.long pe), .second] [(.int (3 : Int32)), (.ref out)])) rfl rfl (hb hby own_d_method_3_84) _ ?_
      show Steps p.tables e below (s₁.setTop (mkF m 85 #[.val (.ref out), .val (.int len), .val (.int len), .val (.ref src), .val (.int off), .val (.long pe), .second] [(.long pe)])) _
      refine XS.lload X0.here hx rfl (hb hby own_d_method_3_85) rfl ?_
      refine XS.lcmp X0.here hx rfl (hb hby own_d_method_3_87) rfl ?_
      refine XS.ifNo X0.here hx rfl (hb hby own_d_method_3_88) rfl ((if0 _ _).trans (teq ((lw_eq _ _).mpr rfl)).2) ?_
      refine XS.iconst X0.here hx rfl (hb hby own_d_method_3_91) ?_
      show Steps p.tables e below (s₁.setTop (mkF m 92 #[.val (.ref out), .val (.int len), .val (.int len), .val (.ref src), .val (.int off), .val (.long pe), .second] [(.int (1 : Int32))])) _
      refine XS.goto X0.here hx rfl (pc0 := 92) (pc' := 96) rfl (hb hby own_d_method_3_92) (by decide) (by decide) ?_
      exact own_retZ X0 hx rfl Bd.returns (hb hby own_d_method_3_96) hr
    · show rm_check_Q Z out co len off pe src cS x0 x1 x2 x3 h0 n0 _ s₁.heap _
      rw [e0]
      exact ⟨rfl, N0, rfl⟩
  · obtain ⟨cl741, Ar741, q741, G741⟩ := id lO
    obtain ⟨cl742, Ar742, q742, G742⟩ := id Lx
    obtain ⟨cl743, Ar743, q743, G743⟩ := id lO
    obtain ⟨cl744, Ar744, q744, G744⟩ := id Lx
    obtain ⟨cl745, Ar745, q745, G745⟩ := id lO
    obtain ⟨cl746, Ar746, q746, G746⟩ := id lO
    obtain ⟨fs, hr, hrun, hended, hW, hsame⟩ := X0.leave (v := some (.int (1 : Int32))) (fun h => by rw [Bd.returns] at h; cases h)
    refine ⟨_, _, pre0 _ ?_, hrun, hended, _, _, rfl, ?_, ⟨_, rfl⟩, hW, hsame.mono (by decide) (by decide)⟩
    · show Steps p.tables e below (s₁.setTop (mkF m 0 #[.val (.ref out), .val (.int len), .val (.int len), .val (.ref src), .val (.int off), .val (.long pe), .second] [])) _
      refine XS.iloadN X0.here hx rfl (hb hby own_d_method_3_0) rfl ?_
      refine XS.iloadN X0.here hx rfl (hb hby own_d_method_3_1) rfl ?_
      refine XS.icmpYes X0.here hx rfl (pc0 := 2) (pc' := 7) rfl (hb hby own_d_method_3_2) rfl (teq (rfl : len = len)).1 (by decide) (by decide) ?_
      refine XS.aloadN X0.here hx rfl (hb hby own_d_method_3_7) rfl rfl ?_
      show Steps p.tables e below (s₁.setTop (mkF m 8 #[.val (.ref out), .val (.int len), .val (.int len), .val (.ref src), .val (.int off), .val (.long pe), .second] [(.ref out)])) _
      refine XS.iconst X0.here hx rfl (hb hby own_d_method_3_8) ?_
      refine X0.laload hx (j := (0 : Int32)) (v := (.long x1)) (by rw [e0]; exact Ar741.1) (State.isArrayOf_alike hZ.alike Ar741.2.1) Ar741.2.2 (own_inb G741 4 (by rw [q, r]; rfl) (by decide)) (own_get G741 (by rw [q, r]; rfl)) (g := (mkF m 9 #[.val (.ref out), .val (.int len), .val (.int len), .val (.ref src), .val (.int off), .val (.long pe), .second] [(.int (0 : Int32)), (.ref out)])) rfl rfl (hb hby own_d_method_3_9) _ ?_
      refine XS.aloadN X0.here hx rfl (hb hby own_d_method_3_10) rfl rfl ?_
      refine XS.iload X0.here hx rfl (hb hby own_d_method_3_11) rfl ?_
      show Steps p.tables e below (s₁.setTop (mkF m 13 #[.val (.ref out), .val (.int len), .val (.int len), .val (.ref src), .val (.int off), .val (.long pe), .second] [(.int off), (.ref src), (.long x1)])) _
      refine X0.laload hx (j := off) (v := (.long x1)) (by rw [e0]; exact Ar742.1) (State.isArrayOf_alike hZ.alike Ar742.2.1) Ar742.2.2 (own_inb G742 4 rfl (show ¬ (off < 0 ∨ 4 ≤ (off).toNatClampNeg) by rw [q]; decide)) (own_get G742 (by rw [q]; rfl)) (g := (mkF m 13 #[.val (.ref out), .val (.int len), .val (.int len), .val (.ref src), .val (.int off), .val (.long pe), .second] [(.int off), (.ref src), (.long x1)])) rfl rfl (hb hby own_d_method_3_13) _ ?_
      refine XS.lcmp X0.here hx rfl (hb hby own_d_method_3_14) rfl ?_
      refine XS.ifYes X0.here hx rfl (pc0 := 15) (pc' := 20) rfl (hb hby own_d_method_3_15) rfl ((if0 _ _).trans (teq ((lw_eq _ _).mpr rfl)).1) (by decide) (by decide) ?_
      refine XS.iloadN X0.here hx rfl (hb hby own_d_method_3_20) rfl ?_
      show Steps p.tables e below (s₁.setTop (mkF m 21 #[.val (.ref out), .val (.int len), .val (.int len), .val (.ref src), .val (.int off), .val (.long pe), .second] [(.int len)])) _
      refine XS.iconst X0.here hx rfl (hb hby own_d_method_3_21) ?_
      refine XS.icmpNo X0.here hx rfl (hb hby own_d_method_3_22) rfl (tlt (show (1 : Int32) < len by rw [r]; decide)).2.2.2 ?_
      refine XS.aloadN X0.here hx rfl (hb hby own_d_method_3_25) rfl rfl ?_
      refine XS.iconst X0.here hx rfl (hb hby own_d_method_3_26) ?_
      show Steps p.tables e below (s₁.setTop (mkF m 27 #[.val (.ref out), .val (.int len), .val (.int len), .val (.ref src), .val (.int off), .val (.long pe), .second] [(.int (1 : Int32)), (.ref out)])) _
      refine X0.laload hx (j := (1 : Int32)) (v := (.long x2)) (by rw [e0]; exact Ar743.1) (State.isArrayOf_alike hZ.alike Ar743.2.1) Ar743.2.2 (own_inb G743 4 (by rw [q, r]; rfl) (by decide)) (own_get G743 (by rw [q, r]; rfl)) (g := (mkF m 27 #[.val (.ref out), .val (.int len), .val (.int len), .val (.ref src), .val (.int off), .val (.long pe), .second] [(.int (1 : Int32)), (.ref out)])) rfl rfl (hb hby own_d_method_3_27) _ ?_
      refine XS.aloadN X0.here hx rfl (hb hby own_d_method_3_28) rfl rfl ?_
      refine XS.iload X0.here hx rfl (hb hby own_d_method_3_29) rfl ?_
      refine XS.iconst X0.here hx rfl (hb hby own_d_method_3_31) ?_
      show Steps p.tables e below (s₁.setTop (mkF m 32 #[.val (.ref out), .val (.int len), .val (.int len), .val (.ref src), .val (.int off), .val (.long pe), .second] [(.int (1 : Int32)), (.int off), (.ref src), (.long x2)])) _
      refine XS.iadd X0.here hx rfl (hb hby own_d_method_3_32) rfl ?_
      refine X0.laload hx (j := (off + (1 : Int32))) (v := (.long x2)) (by rw [e0]; exact Ar744.1) (State.isArrayOf_alike hZ.alike Ar744.2.1) Ar744.2.2 (own_inb G744 4 rfl (show ¬ ((off + (1 : Int32)) < 0 ∨ 4 ≤ ((off + (1 : Int32))).toNatClampNeg) by rw [q]; decide)) (own_get G744 (by rw [q]; rfl)) (g := (mkF m 33 #[.val (.ref out), .val (.int len), .val (.int len), .val (.ref src), .val (.int off), .val (.long pe), .second] [(.int (off + (1 : Int32))), (.ref src), (.long x2)])) rfl rfl (hb hby own_d_method_3_33) _ ?_
      refine XS.lcmp X0.here hx rfl (hb hby own_d_method_3_34) rfl ?_
      refine XS.ifYes X0.here hx rfl (pc0 := 35) (pc' := 51) rfl (hb hby own_d_method_3_35) rfl ((if0 _ _).trans (teq ((lw_eq _ _).mpr rfl)).1) (by decide) (by decide) ?_
      show Steps p.tables e below (s₁.setTop (mkF m 51 #[.val (.ref out), .val (.int len), .val (.int len), .val (.ref src), .val (.int off), .val (.long pe), .second] [])) _
      refine XS.iloadN X0.here hx rfl (hb hby own_d_method_3_51) rfl ?_
      refine XS.iconst X0.here hx rfl (hb hby own_d_method_3_52) ?_
      refine XS.icmpYes X0.here hx rfl (pc0 := 53) (pc' := 71) rfl (hb hby own_d_method_3_53) rfl (flt (show ¬ ((2 : Int32) < len) by rw [r]; decide)).2.2.2 (by decide) (by decide) ?_
      refine XS.aloadN X0.here hx rfl (hb hby own_d_method_3_71) rfl rfl ?_
      show Steps p.tables e below (s₁.setTop (mkF m 72 #[.val (.ref out), .val (.int len), .val (.int len), .val (.ref src), .val (.int off), .val (.long pe), .second] [(.ref out)])) _
      refine XS.iconst X0.here hx rfl (hb hby own_d_method_3_72) ?_
      refine X0.laload hx (j := (2 : Int32)) (v := (.long pe)) (by rw [e0]; exact Ar745.1) (State.isArrayOf_alike hZ.alike Ar745.2.1) Ar745.2.2 (own_inb G745 4 (by rw [q, r]; rfl) (by decide)) (own_get G745 (by rw [q, r]; rfl)) (g := (mkF m 73 #[.val (.ref out), .val (.int len), .val (.int len), .val (.ref src), .val (.int off), .val (.long pe), .second] [(.int (2 : Int32)), (.ref out)])) rfl rfl (hb hby own_d_method_3_73) _ ?_
      refine XS.lload X0.here hx rfl (hb hby own_d_method_3_74) rfl ?_
      refine XS.lcmp X0.here hx rfl (hb hby own_d_method_3_76) rfl ?_
      show Steps p.tables e below (s₁.setTop (mkF m 77 #[.val (.ref out), .val (.int len), .val (.int len), .val (.ref src), .val (.int off), .val (.long pe), .second] [(.int (lcmpW pe pe))])) _
      refine XS.ifYes X0.here hx rfl (pc0 := 77) (pc' := 82) rfl (hb hby own_d_method_3_77) rfl ((if0 _ _).trans (teq ((lw_eq _ _).mpr rfl)).1) (by decide) (by decide) ?_
      refine XS.aloadN X0.here hx rfl (hb hby own_d_method_3_82) rfl rfl ?_
      refine XS.iconst X0.here hx rfl (hb hby own_d_method_3_83) ?_
      refine X0.laload hx (j := (3 : Int32)) (v := (.long pe)) (by rw [e0]; exact Ar746.1) (State.isArrayOf_alike hZ.alike Ar746.2.1) Ar746.2.2 (own_inb G746 4 (by rw [q, r]; rfl) (by decide)) (own_get G746 (by rw [q, r]; rfl)) (g := (mkF m 84 #[.val (.ref out), .val (.int len), .val (.int len), .val (.ref src), .val (.int off), .val (.long pe), .second] [(.int (3 : Int32)), (.ref out)])) rfl rfl (hb hby own_d_method_3_84) _ ?_
      show Steps p.tables e below (s₁.setTop (mkF m 85 #[.val (.ref out), .val (.int len), .val (.int len), .val (.ref src), .val (.int off), .val (.long pe), .second] [(.long pe)])) _
      refine XS.lload X0.here hx rfl (hb hby own_d_method_3_85) rfl ?_
      refine XS.lcmp X0.here hx rfl (hb hby own_d_method_3_87) rfl ?_
      refine XS.ifNo X0.here hx rfl (hb hby own_d_method_3_88) rfl ((if0 _ _).trans (teq ((lw_eq _ _).mpr rfl)).2) ?_
      refine XS.iconst X0.here hx rfl (hb hby own_d_method_3_91) ?_
      show Steps p.tables e below (s₁.setTop (mkF m 92 #[.val (.ref out), .val (.int len), .val (.int len), .val (.ref src), .val (.int off), .val (.long pe), .second] [(.int (1 : Int32))])) _
      refine XS.goto X0.here hx rfl (pc0 := 92) (pc' := 96) rfl (hb hby own_d_method_3_92) (by decide) (by decide) ?_
      exact own_retZ X0 hx rfl Bd.returns (hb hby own_d_method_3_96) hr
    · show rm_check_Q Z out co len off pe src cS x0 x1 x2 x3 h0 n0 _ s₁.heap _
      rw [e0]
      exact ⟨rfl, N0, rfl⟩
theorem rm_law_ef (m : MethodId) (x0 : Int64) (x1 : Int64) (x2 : Int64) (x3 : Int64) (x4 : Int64) (x5 : Int32) : entryFrame m #[(.long x0), (.long x1), (.long x2), (.long x3), (.long x4), (.int x5)] maxLocals = mkF m 0 #[.val (.long x0), .second, .val (.long x1), .second, .val (.long x2), .second, .val (.long x3), .second, .val (.long x4), .second, .val (.int x5), .unset, .unset, .unset, .unset, .unset, .unset, .unset, .unset, .unset, .unset, .unset, .unset, .unset] [] := by first | (simp [entryFrame, mkF, argsToLocals, Value.category, maxLocals]; done) | rfl
def rm_law_Q (Z : State) (x0 : Int64) (x1 : Int64) (x2 : Int64) (x3 : Int64) (pe : Int64) (lens : Int32) (h0 : Heap) (n0 : Nat) (v : Option Value) (h : Heap) (L : List Loc) : Prop := v = some (.int (1 : Int32)) ∧ Fr n0 L
set_option maxRecDepth 65536 in
set_option maxHeartbeats 40000000 in
theorem rm_law (l : Launch) (Z : State) (a0 : Array Value) (hw : ∀ d ∈ tables_1, d.before a0 Z = true) (ws : List Jvm.Cond) (x0 : Int64) (x1 : Int64) (x2 : Int64) (x3 : Int64) (pe : Int64) (lens : Int32) (h0 : Heap) (n0 : Nat) (Z0 : n0 ≤ h0.size) (OL : Old Z n0 h0) (S_A : Sta Z Z.heap "java/util/BitSet" "$assertionsDisabled" "Z" (.int (1 : Int32))) :
    MetFree l x (head1 (Jvm.Cond.code x code maxLocals ret :: ws) room_1) (fun a₀ U₀ => a₀ = #[(.long x0), (.long x1), (.long x2), (.long x3), (.long pe), (.int lens)] ∧ Z.Warmed39 U₀.vm ∧ U₀.heap = h0) (fun _ _ _ _ _ => True) (fun _ U₀ o₀ U₁ => ∃ v₀ L₀, o₀ = .returned v₀ ∧ rm_law_Q Z x0 x1 x2 x3 pe lens h0 n0 v₀ U₁.heap L₀ ∧ FrameEnd U₀ o₀ U₁ L₀ room_1.cells room_1.slots) := by
  refine MetFree.of_bodySF (plainFor_of_name own_pn6) hisR ?_
  intro p e s m args below meth c s₁ Bd hml0 hP hK
  obtain ⟨rfl, hZ, hh⟩ := hP
  have hx := Bd.exec
  have hby := Bd.bytes
  have hml : c.maxLocals = 24 := hml0
  have hown : s.vm.findClass "com/example/orbitfold/orbitfold/StateIndexCopyPinLaw" = some m.cls := findClass_of_methodNamed Bd.named
  have hnm := (name_of_methodNamed Bd.named Bd.method).1
  have X0 : Stand p l e room_1 s m #[(.long x0), (.long x1), (.long x2), (.long x3), (.long pe), (.int lens)] below meth c s₁ [] 0 0 := Stand.of_body Bd
  have e0 : s₁.heap = h0 := by rw [← hh, Bd.state]; rfl
  have N0 := Fr.nil n0
  have pre0 : ∀ t, Steps p.tables e below (s₁.setTop (mkF m 0 #[.val (.long x0), .second, .val (.long x1), .second, .val (.long x2), .second, .val (.long x3), .second, .val (.long pe), .second, .val (.int lens), .unset, .unset, .unset, .unset, .unset, .unset, .unset, .unset, .unset, .unset, .unset, .unset, .unset] [])) t → Steps p.tables e below (s₁.setTop (entryFrame m #[(.long x0), (.long x1), (.long x2), (.long x3), (.long pe), (.int lens)] maxLocals)) t := fun t kk₀ => castTop (rm_law_ef m x0 x1 x2 x3 pe lens) kk₀
  obtain ⟨l0, hl0⟩ : ∃ z, ((1 : Int32) + ((lens &&& (3 : Int32)) % (3 : Int32))) = z := ⟨_, rfl⟩
  have cl0 := own_l0c lens
  rw [hl0] at cl0
  obtain ⟨nd, hln⟩ : ∃ nd : Int32, (l0 = (1 : Int32) ∧ nd = (1024 : Int32)) ∨ (l0 = (2 : Int32) ∧ nd = (2048 : Int32)) ∨ (l0 = (3 : Int32) ∧ nd = (3072 : Int32)) := by
    rcases cl0 with q | q | q
    · exact ⟨_, Or.inl (⟨q, rfl⟩)⟩
    · exact ⟨_, Or.inr (Or.inl (⟨q, rfl⟩))⟩
    · exact ⟨_, Or.inr (Or.inr (⟨q, rfl⟩))⟩
  obtain ⟨off, hoff⟩ : ∃ z, (((lens.toUInt32 >>> ((2 : Int32) &&& 31).toUInt32).toInt32) &&& (1 : Int32)) = z := ⟨_, rfl⟩
  have co := and_one ((lens.toUInt32 >>> ((2 : Int32) &&& 31).toUInt32).toInt32)
  rw [hoff] at co
  obtain ⟨len, hlen⟩ : ∃ z, ((1 : Int32) + (((lens.toUInt32 >>> ((3 : Int32) &&& 31).toUInt32).toInt32) &&& (1 : Int32))) = z := ⟨_, rfl⟩
  have cl1 := own_l1c ((lens.toUInt32 >>> ((3 : Int32) &&& 31).toUInt32).toInt32)
  rw [hlen] at cl1
  have hol : (off = (0 : Int32) ∧ len = (1 : Int32)) ∨ (off = (0 : Int32) ∧ len = (2 : Int32)) ∨ (off = (1 : Int32) ∧ len = (1 : Int32)) ∨ (off = (1 : Int32) ∧ len = (2 : Int32)) := by
    rcases co with q | q <;> rcases cl1 with r | r
    · exact Or.inl (⟨q, r⟩)
    · exact Or.inr (Or.inl (⟨q, r⟩))
    · exact Or.inr (Or.inr (Or.inl (⟨q, r⟩)))
    · exact Or.inr (Or.inr (Or.inr (⟨q, r⟩)))
  obtain ⟨vA, hvA⟩ : ∃ z, z = (if (((lens.toUInt32 >>> ((4 : Int32) &&& 31).toUInt32).toInt32) &&& (1 : Int32)) = (0 : Int32) then (0 : Int32) else (1 : Int32)) := ⟨_, rfl⟩
  obtain ⟨vB, hvB⟩ : ∃ z, z = (if (((lens.toUInt32 >>> ((5 : Int32) &&& 31).toUInt32).toInt32) &&& (1 : Int32)) = (0 : Int32) then (0 : Int32) else (1 : Int32)) := ⟨_, rfl⟩
  obtain ⟨T747, h747, k747, X747, e747, E747, A747, st747⟩ := newP X0 hx hZ (own_at hw 0 rfl) e0 (g := (mkF m 1 #[.val (.long x0), .second, .val (.long x1), .second, .val (.long x2), .second, .val (.long x3), .second, .val (.long pe), .second, .val (.int lens), .unset, .unset, .unset, .unset, .unset, .unset, .unset, .unset, .unset, .unset, .unset, .unset, .unset] [(.int (4 : Int32))])) rfl (hb hby at_1) rfl (by decide) (cap := 4) (by decide) (by decide) (by decide) (by decide)
  obtain ⟨b747, g747⟩ : ∃ z, z = h0.size := ⟨_, rfl⟩
  rw [← g747] at A747 st747
  have sz747 : h0.size ≤ b747 := Nat.le_trans (Nat.le_refl _) (Nat.le_of_eq g747.symm)
  have gn747 : n0 ≤ b747 := Nat.le_trans Z0 sz747
  have OL747 := own_old_ext OL E747
  have KP747 : Keep h0 h747 [] := (Keep.refl _ _).ext E747
  have f748 : OwnLst Z h747 b747 .long k747 [.long (0 : Int64), .long (0 : Int64), .long (0 : Int64), .long (0 : Int64)] := own_lst_new A747
  obtain ⟨cl750, Ar750, q750, G750⟩ := id f748
  obtain ⟨T750, h750, X750, e750, W750, st750⟩ := stJ X747 hx hZ e747 Ar750 (j := (0 : Int32)) (own_inb G750 4 rfl (by decide)) (g := (mkF m 6 #[.val (.long x0), .second, .val (.long x1), .second, .val (.long x2), .second, .val (.long x3), .second, .val (.long pe), .second, .val (.int lens), .unset, .unset, .unset, .unset, .unset, .unset, .unset, .unset, .unset, .unset, .unset, .unset, .unset] [(.long x0), (.int (0 : Int32)), (.ref b747), (.ref b747)])) rfl rfl (hb hby at_6)
  have N750 := Fr.snoc X750 N0 gn747
  have v749 := own_lst_set Ar750 q750 G750 W750
  have f751 : OwnLst Z h750 b747 .long k747 [.long x0, .long (0 : Int64), .long (0 : Int64), .long (0 : Int64)] := v749
  have OL750 := OL747.wr W750 gn747
  have KP750 : Keep h0 h750 [] := KP747.wr W750 (Or.inr sz747)
  obtain ⟨cl753, Ar753, q753, G753⟩ := id f751
  obtain ⟨T753, h753, X753, e753, W753, st753⟩ := stJ X750 hx hZ e750 Ar753 (j := (1 : Int32)) (own_inb G753 4 rfl (by decide)) (g := (mkF m 10 #[.val (.long x0), .second, .val (.long x1), .second, .val (.long x2), .second, .val (.long x3), .second, .val (.long pe), .second, .val (.int lens), .unset, .unset, .unset, .unset, .unset, .unset, .unset, .unset, .unset, .unset, .unset, .unset, .unset] [(.long x1), (.int (1 : Int32)), (.ref b747), (.ref b747)])) rfl rfl (hb hby at_10)
  have N753 := Fr.snoc X753 N750 gn747
  have v752 := own_lst_set Ar753 q753 G753 W753
  have f754 : OwnLst Z h753 b747 .long k747 [.long x0, .long x1, .long (0 : Int64), .long (0 : Int64)] := v752
  have OL753 := OL750.wr W753 gn747
  have KP753 : Keep h0 h753 [] := KP750.wr W753 (Or.inr sz747)
  obtain ⟨cl756, Ar756, q756, G756⟩ := id f754
  obtain ⟨T756, h756, X756, e756, W756, st756⟩ := stJ X753 hx hZ e753 Ar756 (j := (2 : Int32)) (own_inb G756 4 rfl (by decide)) (g := (mkF m 15 #[.val (.long x0), .second, .val (.long x1), .second, .val (.long x2), .second, .val (.long x3), .second, .val (.long pe), .second, .val (.int lens), .unset, .unset, .unset, .unset, .unset, .unset, .unset, .unset, .unset, .unset, .unset, .unset, .unset] [(.long x2), (.int (2 : Int32)), (.ref b747), (.ref b747)])) rfl rfl (hb hby at_15)
  have N756 := Fr.snoc X756 N753 gn747
  have v755 := own_lst_set Ar756 q756 G756 W756
  have f757 : OwnLst Z h756 b747 .long k747 [.long x0, .long x1, .long x2, .long (0 : Int64)] := v755
  have OL756 := OL753.wr W756 gn747
  have KP756 : Keep h0 h756 [] := KP753.wr W756 (Or.inr sz747)
  obtain ⟨cl759, Ar759, q759, G759⟩ := id f757
  obtain ⟨T759, h759, X759, e759, W759, st759⟩ := stJ X756 hx hZ e756 Ar759 (j := (3 : Int32)) (own_inb G759 4 rfl (by decide)) (g := (mkF m 20 #[.val (.long x0), .second, .val (.long x1), .second, .val (.long x2), .second, .val (.long x3), .second, .val (.long pe), .second, .val (.int lens), .unset, .unset, .unset, .unset, .unset, .unset, .unset, .unset, .unset, .unset, .unset, .unset, .unset] [(.long x3), (.int (3 : Int32)), (.ref b747), (.ref b747)])) rfl rfl (hb hby at_20)
  have N759 := Fr.snoc X759 N756 gn747
  have v758 := own_lst_set Ar759 q759 G759 W759
  have f760 : OwnLst Z h759 b747 .long k747 [.long x0, .long x1, .long x2, .long x3] := v758
  have OL759 := OL756.wr W759 gn747
  have KP759 : Keep h0 h759 [] := KP756.wr W759 (Or.inr sz747)
  obtain ⟨T761, X761, e761, st761⟩ := own_join X759 (h := h759) (g := (mkF m 57 #[.val (.long x0), .second, .val (.long x1), .second, .val (.long x2), .second, .val (.long x3), .second, .val (.long pe), .second, .val (.int lens), .val (.ref b747), .val (.int l0), .val (.int off), .val (.int len), .unset, .unset, .unset, .unset, .unset, .unset, .unset, .unset, .unset] [(.int (((lens.toUInt32 >>> ((4 : Int32) &&& 31).toUInt32).toInt32) &&& (1 : Int32)))])) (g' := (mkF m 65 #[.val (.long x0), .second, .val (.long x1), .second, .val (.long x2), .second, .val (.long x3), .second, .val (.long pe), .second, .val (.int lens), .val (.ref b747), .val (.int l0), .val (.int off), .val (.int len), .unset, .unset, .unset, .unset, .unset, .unset, .unset, .unset, .unset] [(.int vA)])) (by
    by_cases q : (((lens.toUInt32 >>> ((4 : Int32) &&& 31).toUInt32).toInt32) &&& (1 : Int32)) = (0 : Int32)
    · refine ⟨T759, X759, e759, fun target k => ?_⟩
      rw [hvA, if_pos q] at k
      show Steps p.tables e below (T759.setTop (mkF m 57 #[.val (.long x0), .second, .val (.long x1), .second, .val (.long x2), .second, .val (.long x3), .second, .val (.long pe), .second, .val (.int lens), .val (.ref b747), .val (.int l0), .val (.int off), .val (.int len), .unset, .unset, .unset, .unset, .unset, .unset, .unset, .unset, .unset] [(.int (((lens.toUInt32 >>> ((4 : Int32) &&& 31).toUInt32).toInt32) &&& (1 : Int32)))])) _
      refine XS.ifYes X759.here hx rfl (pc0 := 57) (pc' := 64) rfl (hb hby at_57) rfl ((if0 _ _).trans (teq q).1) (by decide) (by decide) ?_
      refine XS.iconst X759.here hx rfl (hb hby at_64) ?_
      exact k
    · refine ⟨T759, X759, e759, fun target k => ?_⟩
      rw [hvA, if_neg q] at k
      show Steps p.tables e below (T759.setTop (mkF m 57 #[.val (.long x0), .second, .val (.long x1), .second, .val (.long x2), .second, .val (.long x3), .second, .val (.long pe), .second, .val (.int lens), .val (.ref b747), .val (.int l0), .val (.int off), .val (.int len), .unset, .unset, .unset, .unset, .unset, .unset, .unset, .unset, .unset] [(.int (((lens.toUInt32 >>> ((4 : Int32) &&& 31).toUInt32).toInt32) &&& (1 : Int32)))])) _
      refine XS.ifNo X759.here hx rfl (hb hby at_57) rfl ((if0 _ _).trans (feq q).1) ?_
      refine XS.iconst X759.here hx rfl (hb hby at_60) ?_
      refine XS.goto X759.here hx rfl (pc0 := 61) (pc' := 65) rfl (hb hby at_61) (by decide) (by decide) ?_
      exact k)
  obtain ⟨T762, X762, e762, st762⟩ := own_join X761 (h := h759) (g := (mkF m 73 #[.val (.long x0), .second, .val (.long x1), .second, .val (.long x2), .second, .val (.long x3), .second, .val (.long pe), .second, .val (.int lens), .val (.ref b747), .val (.int l0), .val (.int off), .val (.int len), .val (.int vA), .unset, .unset, .unset, .unset, .unset, .unset, .unset, .unset] [(.int (((lens.toUInt32 >>> ((5 : Int32) &&& 31).toUInt32).toInt32) &&& (1 : Int32)))])) (g' := (mkF m 81 #[.val (.long x0), .second, .val (.long x1), .second, .val (.long x2), .second, .val (.long x3), .second, .val (.long pe), .second, .val (.int lens), .val (.ref b747), .val (.int l0), .val (.int off), .val (.int len), .val (.int vA), .unset, .unset, .unset, .unset, .unset, .unset, .unset, .unset] [(.int vB)])) (by
    by_cases q : (((lens.toUInt32 >>> ((5 : Int32) &&& 31).toUInt32).toInt32) &&& (1 : Int32)) = (0 : Int32)
    · refine ⟨T761, X761, e761, fun target k => ?_⟩
      rw [hvB, if_pos q] at k
      show Steps p.tables e below (T761.setTop (mkF m 73 #[.val (.long x0), .second, .val (.long x1), .second, .val (.long x2), .second, .val (.long x3), .second, .val (.long pe), .second, .val (.int lens), .val (.ref b747), .val (.int l0), .val (.int off), .val (.int len), .val (.int vA), .unset, .unset, .unset, .unset, .unset, .unset, .unset, .unset] [(.int (((lens.toUInt32 >>> ((5 : Int32) &&& 31).toUInt32).toInt32) &&& (1 : Int32)))])) _
      refine XS.ifYes X761.here hx rfl (pc0 := 73) (pc' := 80) rfl (hb hby at_73) rfl ((if0 _ _).trans (teq q).1) (by decide) (by decide) ?_
      refine XS.iconst X761.here hx rfl (hb hby at_80) ?_
      exact k
    · refine ⟨T761, X761, e761, fun target k => ?_⟩
      rw [hvB, if_neg q] at k
      show Steps p.tables e below (T761.setTop (mkF m 73 #[.val (.long x0), .second, .val (.long x1), .second, .val (.long x2), .second, .val (.long x3), .second, .val (.long pe), .second, .val (.int lens), .val (.ref b747), .val (.int l0), .val (.int off), .val (.int len), .val (.int vA), .unset, .unset, .unset, .unset, .unset, .unset, .unset, .unset] [(.int (((lens.toUInt32 >>> ((5 : Int32) &&& 31).toUInt32).toInt32) &&& (1 : Int32)))])) _
      refine XS.ifNo X761.here hx rfl (hb hby at_73) rfl ((if0 _ _).trans (feq q).1) ?_
      refine XS.iconst X761.here hx rfl (hb hby at_76) ?_
      refine XS.goto X761.here hx rfl (pc0 := 77) (pc' := 81) rfl (hb hby at_77) (by decide) (by decide) ?_
      exact k)
  obtain ⟨T763, h763, k763, X763, e763, E763, A763, st763⟩ := newP X762 hx hZ (own_at hw 0 rfl) e762 (g := (mkF m 84 #[.val (.long x0), .second, .val (.long x1), .second, .val (.long x2), .second, .val (.long x3), .second, .val (.long pe), .second, .val (.int lens), .val (.ref b747), .val (.int l0), .val (.int off), .val (.int len), .val (.int vA), .val (.int vB), .unset, .unset, .unset, .unset, .unset, .unset, .unset] [(.int (4 : Int32))])) rfl (hb hby at_84) rfl (by decide) (cap := 4) (by decide) (by decide) (by decide) (by decide)
  obtain ⟨b763, g763⟩ : ∃ z, z = h759.size := ⟨_, rfl⟩
  rw [← g763] at A763 st763
  have ne_b747_b763 : b747 ≠ b763 := own_ne_lt f760.lt g763
  have sz763 : h0.size ≤ b763 := Nat.le_trans KP759.1 (Nat.le_of_eq g763.symm)
  have gn763 : n0 ≤ b763 := Nat.le_trans Z0 sz763
  have f764 := f760.ext E763
  have OL763 := own_old_ext OL759 E763
  have KP763 : Keep h0 h763 [] := KP759.ext E763
  have f765 : OwnLst Z h763 b763 .long k763 [.long (0 : Int64), .long (0 : Int64), .long (0 : Int64), .long (0 : Int64)] := own_lst_new A763
  obtain ⟨cl767, Ar767, q767, G767⟩ := id f765
  obtain ⟨T767, h767, X767, e767, W767, st767⟩ := stJ X763 hx hZ e763 Ar767 (j := (0 : Int32)) (own_inb G767 4 rfl (by decide)) (g := (mkF m 90 #[.val (.long x0), .second, .val (.long x1), .second, .val (.long x2), .second, .val (.long x3), .second, .val (.long pe), .second, .val (.int lens), .val (.ref b747), .val (.int l0), .val (.int off), .val (.int len), .val (.int vA), .val (.int vB), .unset, .unset, .unset, .unset, .unset, .unset, .unset] [(.long pe), (.int (0 : Int32)), (.ref b763), (.ref b763)])) rfl rfl (hb hby at_90)
  have N767 := Fr.snoc X767 N759 gn763
  have v766 := own_lst_set Ar767 q767 G767 W767
  have f768 := f764.other W767 ne_b747_b763
  have f769 : OwnLst Z h767 b763 .long k763 [.long pe, .long (0 : Int64), .long (0 : Int64), .long (0 : Int64)] := v766
  have OL767 := OL763.wr W767 gn763
  have KP767 : Keep h0 h767 [] := KP763.wr W767 (Or.inr sz763)
  obtain ⟨cl771, Ar771, q771, G771⟩ := id f769
  obtain ⟨T771, h771, X771, e771, W771, st771⟩ := stJ X767 hx hZ e767 Ar771 (j := (1 : Int32)) (own_inb G771 4 rfl (by decide)) (g := (mkF m 95 #[.val (.long x0), .second, .val (.long x1), .second, .val (.long x2), .second, .val (.long x3), .second, .val (.long pe), .second, .val (.int lens), .val (.ref b747), .val (.int l0), .val (.int off), .val (.int len), .val (.int vA), .val (.int vB), .unset, .unset, .unset, .unset, .unset, .unset, .unset] [(.long pe), (.int (1 : Int32)), (.ref b763), (.ref b763)])) rfl rfl (hb hby at_95)
  have N771 := Fr.snoc X771 N767 gn763
  have v770 := own_lst_set Ar771 q771 G771 W771
  have f772 := f768.other W771 ne_b747_b763
  have f773 : OwnLst Z h771 b763 .long k763 [.long pe, .long pe, .long (0 : Int64), .long (0 : Int64)] := v770
  have OL771 := OL767.wr W771 gn763
  have KP771 : Keep h0 h771 [] := KP767.wr W771 (Or.inr sz763)
  obtain ⟨cl775, Ar775, q775, G775⟩ := id f773
  obtain ⟨T775, h775, X775, e775, W775, st775⟩ := stJ X771 hx hZ e771 Ar775 (j := (2 : Int32)) (own_inb G775 4 rfl (by decide)) (g := (mkF m 100 #[.val (.long x0), .second, .val (.long x1), .second, .val (.long x2), .second, .val (.long x3), .second, .val (.long pe), .second, .val (.int lens), .val (.ref b747), .val (.int l0), .val (.int off), .val (.int len), .val (.int vA), .val (.int vB), .unset, .unset, .unset, .unset, .unset, .unset, .unset] [(.long pe), (.int (2 : Int32)), (.ref b763), (.ref b763)])) rfl rfl (hb hby at_100)
  have N775 := Fr.snoc X775 N771 gn763
  have v774 := own_lst_set Ar775 q775 G775 W775
  have f776 := f772.other W775 ne_b747_b763
  have f777 : OwnLst Z h775 b763 .long k763 [.long pe, .long pe, .long pe, .long (0 : Int64)] := v774
  have OL775 := OL771.wr W775 gn763
  have KP775 : Keep h0 h775 [] := KP771.wr W775 (Or.inr sz763)
  obtain ⟨cl779, Ar779, q779, G779⟩ := id f777
  obtain ⟨T779, h779, X779, e779, W779, st779⟩ := stJ X775 hx hZ e775 Ar779 (j := (3 : Int32)) (own_inb G779 4 rfl (by decide)) (g := (mkF m 105 #[.val (.long x0), .second, .val (.long x1), .second, .val (.long x2), .second, .val (.long x3), .second, .val (.long pe), .second, .val (.int lens), .val (.ref b747), .val (.int l0), .val (.int off), .val (.int len), .val (.int vA), .val (.int vB), .unset, .unset, .unset, .unset, .unset, .unset, .unset] [(.long pe), (.int (3 : Int32)), (.ref b763), (.ref b763)])) rfl rfl (hb hby at_105)
  have N779 := Fr.snoc X779 N775 gn763
  have v778 := own_lst_set Ar779 q779 G779 W779
  have f780 := f776.other W779 ne_b747_b763
  have f781 : OwnLst Z h779 b763 .long k763 [.long pe, .long pe, .long pe, .long pe] := v778
  have OL779 := OL775.wr W779 gn763
  have KP779 : Keep h0 h779 [] := KP775.wr W779 (Or.inr sz763)
  obtain ⟨T782, h782, k782, X782, e782, E782, A782, st782⟩ := newP X779 hx hZ (own_at hw 0 rfl) e779 (g := (mkF m 109 #[.val (.long x0), .second, .val (.long x1), .second, .val (.long x2), .second, .val (.long x3), .second, .val (.long pe), .second, .val (.int lens), .val (.ref b747), .val (.int l0), .val (.int off), .val (.int len), .val (.int vA), .val (.int vB), .val (.ref b763), .unset, .unset, .unset, .unset, .unset, .unset] [(.int (4 : Int32))])) rfl (hb hby at_109) rfl (by decide) (cap := 4) (by decide) (by decide) (by decide) (by decide)
  obtain ⟨b782, g782⟩ : ∃ z, z = h779.size := ⟨_, rfl⟩
  rw [← g782] at A782 st782
  have ne_b747_b782 : b747 ≠ b782 := own_ne_lt f780.lt g782
  have ne_b763_b782 : b763 ≠ b782 := own_ne_lt f781.lt g782
  have sz782 : h0.size ≤ b782 := Nat.le_trans KP779.1 (Nat.le_of_eq g782.symm)
  have gn782 : n0 ≤ b782 := Nat.le_trans Z0 sz782
  have f783 := f780.ext E782
  have f784 := f781.ext E782
  have OL782 := own_old_ext OL779 E782
  have KP782 : Keep h0 h782 [] := KP779.ext E782
  have f785 : OwnLst Z h782 b782 .long k782 [.long (0 : Int64), .long (0 : Int64), .long (0 : Int64), .long (0 : Int64)] := own_lst_new A782
  obtain ⟨cl787, Ar787, q787, G787⟩ := id f785
  obtain ⟨T787, h787, X787, e787, W787, st787⟩ := stJ X782 hx hZ e782 Ar787 (j := (0 : Int32)) (own_inb G787 4 rfl (by decide)) (g := (mkF m 115 #[.val (.long x0), .second, .val (.long x1), .second, .val (.long x2), .second, .val (.long x3), .second, .val (.long pe), .second, .val (.int lens), .val (.ref b747), .val (.int l0), .val (.int off), .val (.int len), .val (.int vA), .val (.int vB), .val (.ref b763), .unset, .unset, .unset, .unset, .unset, .unset] [(.long pe), (.int (0 : Int32)), (.ref b782), (.ref b782)])) rfl rfl (hb hby at_115)
  have N787 := Fr.snoc X787 N779 gn782
  have v786 := own_lst_set Ar787 q787 G787 W787
  have f788 := f783.other W787 ne_b747_b782
  have f789 := f784.other W787 ne_b763_b782
  have f790 : OwnLst Z h787 b782 .long k782 [.long pe, .long (0 : Int64), .long (0 : Int64), .long (0 : Int64)] := v786
  have OL787 := OL782.wr W787 gn782
  have KP787 : Keep h0 h787 [] := KP782.wr W787 (Or.inr sz782)
  obtain ⟨cl792, Ar792, q792, G792⟩ := id f790
  obtain ⟨T792, h792, X792, e792, W792, st792⟩ := stJ X787 hx hZ e787 Ar792 (j := (1 : Int32)) (own_inb G792 4 rfl (by decide)) (g := (mkF m 120 #[.val (.long x0), .second, .val (.long x1), .second, .val (.long x2), .second, .val (.long x3), .second, .val (.long pe), .second, .val (.int lens), .val (.ref b747), .val (.int l0), .val (.int off), .val (.int len), .val (.int vA), .val (.int vB), .val (.ref b763), .unset, .unset, .unset, .unset, .unset, .unset] [(.long pe), (.int (1 : Int32)), (.ref b782), (.ref b782)])) rfl rfl (hb hby at_120)
  have N792 := Fr.snoc X792 N787 gn782
  have v791 := own_lst_set Ar792 q792 G792 W792
  have f793 := f788.other W792 ne_b747_b782
  have f794 := f789.other W792 ne_b763_b782
  have f795 : OwnLst Z h792 b782 .long k782 [.long pe, .long pe, .long (0 : Int64), .long (0 : Int64)] := v791
  have OL792 := OL787.wr W792 gn782
  have KP792 : Keep h0 h792 [] := KP787.wr W792 (Or.inr sz782)
  obtain ⟨cl797, Ar797, q797, G797⟩ := id f795
  obtain ⟨T797, h797, X797, e797, W797, st797⟩ := stJ X792 hx hZ e792 Ar797 (j := (2 : Int32)) (own_inb G797 4 rfl (by decide)) (g := (mkF m 125 #[.val (.long x0), .second, .val (.long x1), .second, .val (.long x2), .second, .val (.long x3), .second, .val (.long pe), .second, .val (.int lens), .val (.ref b747), .val (.int l0), .val (.int off), .val (.int len), .val (.int vA), .val (.int vB), .val (.ref b763), .unset, .unset, .unset, .unset, .unset, .unset] [(.long pe), (.int (2 : Int32)), (.ref b782), (.ref b782)])) rfl rfl (hb hby at_125)
  have N797 := Fr.snoc X797 N792 gn782
  have v796 := own_lst_set Ar797 q797 G797 W797
  have f798 := f793.other W797 ne_b747_b782
  have f799 := f794.other W797 ne_b763_b782
  have f800 : OwnLst Z h797 b782 .long k782 [.long pe, .long pe, .long pe, .long (0 : Int64)] := v796
  have OL797 := OL792.wr W797 gn782
  have KP797 : Keep h0 h797 [] := KP792.wr W797 (Or.inr sz782)
  obtain ⟨cl802, Ar802, q802, G802⟩ := id f800
  obtain ⟨T802, h802, X802, e802, W802, st802⟩ := stJ X797 hx hZ e797 Ar802 (j := (3 : Int32)) (own_inb G802 4 rfl (by decide)) (g := (mkF m 130 #[.val (.long x0), .second, .val (.long x1), .second, .val (.long x2), .second, .val (.long x3), .second, .val (.long pe), .second, .val (.int lens), .val (.ref b747), .val (.int l0), .val (.int off), .val (.int len), .val (.int vA), .val (.int vB), .val (.ref b763), .unset, .unset, .unset, .unset, .unset, .unset] [(.long pe), (.int (3 : Int32)), (.ref b782), (.ref b782)])) rfl rfl (hb hby at_130)
  have N802 := Fr.snoc X802 N797 gn782
  have v801 := own_lst_set Ar802 q802 G802 W802
  have f803 := f798.other W802 ne_b747_b782
  have f804 := f799.other W802 ne_b763_b782
  have f805 : OwnLst Z h802 b782 .long k782 [.long pe, .long pe, .long pe, .long pe] := v801
  have OL802 := OL797.wr W802 gn782
  have KP802 : Keep h0 h802 [] := KP797.wr W802 (Or.inr sz782)
  obtain ⟨T806, h806, X806, e806, E806, A806, D806, -, st806⟩ := newO X802 hx hZ hown (own_at hw 1 rfl) (own_at hw 2 rfl) (own_at hw 3 rfl) e802 (g := (mkF m 133 #[.val (.long x0), .second, .val (.long x1), .second, .val (.long x2), .second, .val (.long x3), .second, .val (.long pe), .second, .val (.int lens), .val (.ref b747), .val (.int l0), .val (.int off), .val (.int len), .val (.int vA), .val (.int vB), .val (.ref b763), .val (.ref b782), .unset, .unset, .unset, .unset, .unset] [])) rfl (hb hby at_133) (by decide) (by decide)
  obtain ⟨b806, g806⟩ : ∃ z, z = h802.size := ⟨_, rfl⟩
  rw [← g806] at A806 D806 st806
  have ne_b747_b806 : b747 ≠ b806 := own_ne_lt f803.lt g806
  have ne_b763_b806 : b763 ≠ b806 := own_ne_lt f804.lt g806
  have ne_b782_b806 : b782 ≠ b806 := own_ne_lt f805.lt g806
  have sz806 : h0.size ≤ b806 := Nat.le_trans KP802.1 (Nat.le_of_eq g806.symm)
  have gn806 : n0 ≤ b806 := Nat.le_trans Z0 sz806
  have f807 := f803.ext E806
  have f808 := f804.ext E806
  have f809 := f805.ext E806
  have OL806 := own_old_ext OL802 E806
  have KP806 : Keep h0 h806 [] := KP802.ext E806
  have F_keys_b806 : Fld Z h806 b806 "com/example/orbitfold/orbitfold/StateIndex" "keys" "[J" .null := D806 (Or.inl (own_at hw 11 rfl)) (ty := (.array .long)) (by decide)
  have F_starts_b806 : Fld Z h806 b806 "com/example/orbitfold/orbitfold/StateIndex" "starts" "[I" .null := D806 (Or.inl (own_at hw 14 rfl)) (ty := (.array .int)) (by decide)
  have F_slots_b806 : Fld Z h806 b806 "com/example/orbitfold/orbitfold/StateIndex" "slots" "[I" .null := D806 (Or.inl (own_at hw 23 rfl)) (ty := (.array .int)) (by decide)
  have F_appended_b806 : Fld Z h806 b806 "com/example/orbitfold/orbitfold/StateIndex" "appended" "Ljava/util/BitSet;" .null := D806 (Or.inr (own_at hw 46 rfl)) (ty := (.object "java/util/BitSet")) (by decide)
  have F_size_b806 : Fld Z h806 b806 "com/example/orbitfold/orbitfold/StateIndex" "size" "I" (.int (0 : Int32)) := D806 (Or.inl (own_at hw 78 rfl)) (ty := .int) (by decide)
  have F_searchable_b806 : Fld Z h806 b806 "com/example/orbitfold/orbitfold/StateIndex" "searchable" "I" (.int (0 : Int32)) := D806 (Or.inl (own_at hw 110 rfl)) (ty := .int) (by decide)
  obtain ⟨_, _, ⟨T810, L810, k810, n810⟩, -, X810, ⟨Lc810, hQ810, l810, y810, z810⟩, st810⟩ := X806.specialBack hx (y := (⟨"com/example/orbitfold/orbitfold/StateIndex", "<init>", "()V"⟩ : MethodName)) rfl hown (mvT hZ (own_at hw 4 rfl)) (mvT hZ (own_at hw 5 rfl)) (mvT hZ (own_at hw 6 rfl)) (by decide) (backOf (W := 1) (rm_si l Z a0 hw [] b806 h806 n0 (Nat.le_trans Z0 KP806.1) OL806 A806 F_keys_b806 F_starts_b806 F_slots_b806 F_appended_b806 F_size_b806 F_searchable_b806 gn806) hZ (own_at hw 6 rfl) (own_at hw 3 rfl) (by decide) (by decide)) (g := (mkF m 137 #[.val (.long x0), .second, .val (.long x1), .second, .val (.long x2), .second, .val (.long x3), .second, .val (.long pe), .second, .val (.int lens), .val (.ref b747), .val (.int l0), .val (.int off), .val (.int len), .val (.int vA), .val (.int vB), .val (.ref b763), .val (.ref b782), .unset, .unset, .unset, .unset, .unset] [(.ref b806), (.ref b806)])) rfl (by rw [hml]; rfl) (Steps.refl _) (a := b806) (argsL := []) (rest := [(.ref b806)]) (lenOf own_pd4 rfl) rfl (by show 2 * 0 + _ ≤ _; exact Nat.le_of_eq rfl) (hb hby at_137) (fun _ _ => ⟨rfl, e806, (by decide : 4 + 5 ≤ _), (by decide : 18 + 3076 ≤ _)⟩)
  dsimp only [Pt.U, Pt.locs, Pt.cells, Pt.slots] at X810 l810 y810 z810 st810 hQ810
  subst l810 y810 z810
  obtain ⟨kA810, sA810, tA810, bs810, wA810, ck810, cs810, ct810, cw810, rfl, Nq810, K810, ⟨le810_0, le810_1, le810_2, le810_3, le810_4⟩, D810, NE810⟩ := hQ810
  have N810 := Fr.app N802 Nq810
  have ne_b747_kA810 : b747 ≠ kA810 := own_ne_le f807.lt le810_0
  have ne_b763_kA810 : b763 ≠ kA810 := own_ne_le f808.lt le810_0
  have ne_b782_kA810 : b782 ≠ kA810 := own_ne_le f809.lt le810_0
  have ne_b806_kA810 : b806 ≠ kA810 := own_ne_le A806.lt le810_0
  have sz_kA810 : h0.size ≤ kA810 := Nat.le_trans KP806.1 le810_0
  have gn_kA810 : n0 ≤ kA810 := Nat.le_trans Z0 sz_kA810
  have ne_b747_sA810 : b747 ≠ sA810 := own_ne_le f807.lt le810_1
  have ne_b763_sA810 : b763 ≠ sA810 := own_ne_le f808.lt le810_1
  have ne_b782_sA810 : b782 ≠ sA810 := own_ne_le f809.lt le810_1
  have ne_b806_sA810 : b806 ≠ sA810 := own_ne_le A806.lt le810_1
  have sz_sA810 : h0.size ≤ sA810 := Nat.le_trans KP806.1 le810_1
  have gn_sA810 : n0 ≤ sA810 := Nat.le_trans Z0 sz_sA810
  have ne_b747_tA810 : b747 ≠ tA810 := own_ne_le f807.lt le810_2
  have ne_b763_tA810 : b763 ≠ tA810 := own_ne_le f808.lt le810_2
  have ne_b782_tA810 : b782 ≠ tA810 := own_ne_le f809.lt le810_2
  have ne_b806_tA810 : b806 ≠ tA810 := own_ne_le A806.lt le810_2
  have sz_tA810 : h0.size ≤ tA810 := Nat.le_trans KP806.1 le810_2
  have gn_tA810 : n0 ≤ tA810 := Nat.le_trans Z0 sz_tA810
  have ne_b747_bs810 : b747 ≠ bs810 := own_ne_le f807.lt le810_3
  have ne_b763_bs810 : b763 ≠ bs810 := own_ne_le f808.lt le810_3
  have ne_b782_bs810 : b782 ≠ bs810 := own_ne_le f809.lt le810_3
  have ne_b806_bs810 : b806 ≠ bs810 := own_ne_le A806.lt le810_3
  have sz_bs810 : h0.size ≤ bs810 := Nat.le_trans KP806.1 le810_3
  have gn_bs810 : n0 ≤ bs810 := Nat.le_trans Z0 sz_bs810
  have ne_b747_wA810 : b747 ≠ wA810 := own_ne_le f807.lt le810_4
  have ne_b763_wA810 : b763 ≠ wA810 := own_ne_le f808.lt le810_4
  have ne_b782_wA810 : b782 ≠ wA810 := own_ne_le f809.lt le810_4
  have ne_b806_wA810 : b806 ≠ wA810 := own_ne_le A806.lt le810_4
  have sz_wA810 : h0.size ≤ wA810 := Nat.le_trans KP806.1 le810_4
  have gn_wA810 : n0 ≤ wA810 := Nat.le_trans Z0 sz_wA810
  obtain ⟨nn810_0, nn810_1, nn810_2, nn810_3, nn810_4, nn810_5, nn810_6, nn810_7, nn810_8, nn810_9, nn810_10, nn810_11, nn810_12, nn810_13, nn810_14⟩ := id NE810
  obtain ⟨i810_0, i810_1, i810_2, i810_3, i810_4, i810_5, i810_6, i810_7, i810_8, i810_9, i810_10, i810_11, i810_12, i810_13, i810_14⟩ := id D810
  have f811 := f807.keep K810 (by simp [ne_b747_b806])
  have f812 := f808.keep K810 (by simp [ne_b763_b806])
  have f813 := f809.keep K810 (by simp [ne_b782_b806])
  have OL810 := OL806.keep K810 (fun x hx => by
    simp only [List.mem_cons, List.not_mem_nil, or_false] at hx
    rcases hx with rfl
    · exact gn806)
  have KP810 : Keep h0 T810.heap [] := KP806.trans K810 (fun x hx => by
    simp only [List.mem_cons, List.not_mem_nil, or_false] at hx
    rcases hx with rfl
    · exact Or.inr sz806)
  have stP814 : ∀ target, Steps p.tables e below (T810.setTop (mkF m 144 #[.val (.long x0), .second, .val (.long x1), .second, .val (.long x2), .second, .val (.long x3), .second, .val (.long pe), .second, .val (.int lens), .val (.ref b747), .val (.int l0), .val (.int off), .val (.int len), .val (.int vA), .val (.int vB), .val (.ref b763), .val (.ref b782), .val (.ref b806), .unset, .unset, .unset, .unset] [(.int vA)])) target → Steps p.tables e below (s₁.setTop (mkF m 0 #[.val (.long x0), .second, .val (.long x1), .second, .val (.long x2), .second, .val (.long x3), .second, .val (.long pe), .second, .val (.int lens), .unset, .unset, .unset, .unset, .unset, .unset, .unset, .unset, .unset, .unset, .unset, .unset, .unset] [])) target := by
    intro target k₀
    show Steps p.tables e below (s₁.setTop (mkF m 0 #[.val (.long x0), .second, .val (.long x1), .second, .val (.long x2), .second, .val (.long x3), .second, .val (.long pe), .second, .val (.int lens), .unset, .unset, .unset, .unset, .unset, .unset, .unset, .unset, .unset, .unset, .unset, .unset, .unset] [])) _
    refine XS.iconst X0.here hx rfl (hb hby at_0) ?_
    refine st747 _ ?_
    refine XS.dup X747.here hx rfl (hb hby at_3) rfl rfl ?_
    refine XS.iconst X747.here hx rfl (hb hby at_4) ?_
    show Steps p.tables e below (T747.setTop (mkF m 5 #[.val (.long x0), .second, .val (.long x1), .second, .val (.long x2), .second, .val (.long x3), .second, .val (.long pe), .second, .val (.int lens), .unset, .unset, .unset, .unset, .unset, .unset, .unset, .unset, .unset, .unset, .unset, .unset, .unset] [(.int (0 : Int32)), (.ref b747), (.ref b747)])) _
    refine XS.lloadN X747.here hx rfl (hb hby at_5) rfl ?_
    refine st750 _ ?_
    refine XS.dup X750.here hx rfl (hb hby at_7) rfl rfl ?_
    refine XS.iconst X750.here hx rfl (hb hby at_8) ?_
    show Steps p.tables e below (T750.setTop (mkF m 9 #[.val (.long x0), .second, .val (.long x1), .second, .val (.long x2), .second, .val (.long x3), .second, .val (.long pe), .second, .val (.int lens), .unset, .unset, .unset, .unset, .unset, .unset, .unset, .unset, .unset, .unset, .unset, .unset, .unset] [(.int (1 : Int32)), (.ref b747), (.ref b747)])) _
    refine XS.lloadN X750.here hx rfl (hb hby at_9) rfl ?_
    refine st753 _ ?_
    refine XS.dup X753.here hx rfl (hb hby at_11) rfl rfl ?_
    refine XS.iconst X753.here hx rfl (hb hby at_12) ?_
    show Steps p.tables e below (T753.setTop (mkF m 13 #[.val (.long x0), .second, .val (.long x1), .second, .val (.long x2), .second, .val (.long x3), .second, .val (.long pe), .second, .val (.int lens), .unset, .unset, .unset, .unset, .unset, .unset, .unset, .unset, .unset, .unset, .unset, .unset, .unset] [(.int (2 : Int32)), (.ref b747), (.ref b747)])) _
    refine XS.lload X753.here hx rfl (hb hby at_13) rfl ?_
    refine st756 _ ?_
    refine XS.dup X756.here hx rfl (hb hby at_16) rfl rfl ?_
    refine XS.iconst X756.here hx rfl (hb hby at_17) ?_
    show Steps p.tables e below (T756.setTop (mkF m 18 #[.val (.long x0), .second, .val (.long x1), .second, .val (.long x2), .second, .val (.long x3), .second, .val (.long pe), .second, .val (.int lens), .unset, .unset, .unset, .unset, .unset, .unset, .unset, .unset, .unset, .unset, .unset, .unset, .unset] [(.int (3 : Int32)), (.ref b747), (.ref b747)])) _
    refine XS.lload X756.here hx rfl (hb hby at_18) rfl ?_
    refine st759 _ ?_
    refine XS.astore X759.here hx rfl (hb hby at_21) rfl rfl (l' := #[.val (.long x0), .second, .val (.long x1), .second, .val (.long x2), .second, .val (.long x3), .second, .val (.long pe), .second, .val (.int lens), .val (.ref b747), .unset, .unset, .unset, .unset, .unset, .unset, .unset, .unset, .unset, .unset, .unset, .unset]) rfl ?_
    refine XS.iconst X759.here hx rfl (hb hby at_23) ?_
    show Steps p.tables e below (T759.setTop (mkF m 24 #[.val (.long x0), .second, .val (.long x1), .second, .val (.long x2), .second, .val (.long x3), .second, .val (.long pe), .second, .val (.int lens), .val (.ref b747), .unset, .unset, .unset, .unset, .unset, .unset, .unset, .unset, .unset, .unset, .unset, .unset] [(.int (1 : Int32))])) _
    refine XS.iload X759.here hx rfl (hb hby at_24) rfl ?_
    refine XS.iconst X759.here hx rfl (hb hby at_26) ?_
    refine XS.iand X759.here hx rfl (hb hby at_27) rfl ?_
    refine XS.iconst X759.here hx rfl (hb hby at_28) ?_
    show Steps p.tables e below (T759.setTop (mkF m 29 #[.val (.long x0), .second, .val (.long x1), .second, .val (.long x2), .second, .val (.long x3), .second, .val (.long pe), .second, .val (.int lens), .val (.ref b747), .unset, .unset, .unset, .unset, .unset, .unset, .unset, .unset, .unset, .unset, .unset, .unset] [(.int (3 : Int32)), (.int (lens &&& (3 : Int32))), (.int (1 : Int32))])) _
    refine iremM X759 hx rfl (hb hby at_29) rfl (by decide) ?_
    refine XS.iadd X759.here hx rfl (hb hby at_30) rfl ?_
    show Steps p.tables e below (T759.setTop (mkF m 31 #[.val (.long x0), .second, .val (.long x1), .second, .val (.long x2), .second, .val (.long x3), .second, .val (.long pe), .second, .val (.int lens), .val (.ref b747), .unset, .unset, .unset, .unset, .unset, .unset, .unset, .unset, .unset, .unset, .unset, .unset] [(.int ((1 : Int32) + ((lens &&& (3 : Int32)) % (3 : Int32))))])) _
    rw [hl0]
    refine XS.istore X759.here hx rfl (hb hby at_31) rfl (l' := #[.val (.long x0), .second, .val (.long x1), .second, .val (.long x2), .second, .val (.long x3), .second, .val (.long pe), .second, .val (.int lens), .val (.ref b747), .val (.int l0), .unset, .unset, .unset, .unset, .unset, .unset, .unset, .unset, .unset, .unset, .unset]) rfl ?_
    refine XS.iload X759.here hx rfl (hb hby at_33) rfl ?_
    refine XS.iconst X759.here hx rfl (hb hby at_35) ?_
    show Steps p.tables e below (T759.setTop (mkF m 36 #[.val (.long x0), .second, .val (.long x1), .second, .val (.long x2), .second, .val (.long x3), .second, .val (.long pe), .second, .val (.int lens), .val (.ref b747), .val (.int l0), .unset, .unset, .unset, .unset, .unset, .unset, .unset, .unset, .unset, .unset, .unset] [(.int (2 : Int32)), (.int lens)])) _
    refine XS.iushr X759.here hx rfl (hb hby at_36) rfl ?_
    refine XS.iconst X759.here hx rfl (hb hby at_37) ?_
    refine XS.iand X759.here hx rfl (hb hby at_38) rfl ?_
    show Steps p.tables e below (T759.setTop (mkF m 39 #[.val (.long x0), .second, .val (.long x1), .second, .val (.long x2), .second, .val (.long x3), .second, .val (.long pe), .second, .val (.int lens), .val (.ref b747), .val (.int l0), .unset, .unset, .unset, .unset, .unset, .unset, .unset, .unset, .unset, .unset, .unset] [(.int (((lens.toUInt32 >>> ((2 : Int32) &&& 31).toUInt32).toInt32) &&& (1 : Int32)))])) _
    rw [hoff]
    refine XS.istore X759.here hx rfl (hb hby at_39) rfl (l' := #[.val (.long x0), .second, .val (.long x1), .second, .val (.long x2), .second, .val (.long x3), .second, .val (.long pe), .second, .val (.int lens), .val (.ref b747), .val (.int l0), .val (.int off), .unset, .unset, .unset, .unset, .unset, .unset, .unset, .unset, .unset, .unset]) rfl ?_
    refine XS.iconst X759.here hx rfl (hb hby at_41) ?_
    refine XS.iload X759.here hx rfl (hb hby at_42) rfl ?_
    show Steps p.tables e below (T759.setTop (mkF m 44 #[.val (.long x0), .second, .val (.long x1), .second, .val (.long x2), .second, .val (.long x3), .second, .val (.long pe), .second, .val (.int lens), .val (.ref b747), .val (.int l0), .val (.int off), .unset, .unset, .unset, .unset, .unset, .unset, .unset, .unset, .unset, .unset] [(.int lens), (.int (1 : Int32))])) _
    refine XS.iconst X759.here hx rfl (hb hby at_44) ?_
    refine XS.iushr X759.here hx rfl (hb hby at_45) rfl ?_
    refine XS.iconst X759.here hx rfl (hb hby at_46) ?_
    refine XS.iand X759.here hx rfl (hb hby at_47) rfl ?_
    show Steps p.tables e below (T759.setTop (mkF m 48 #[.val (.long x0), .second, .val (.long x1), .second, .val (.long x2), .second, .val (.long x3), .second, .val (.long pe), .second, .val (.int lens), .val (.ref b747), .val (.int l0), .val (.int off), .unset, .unset, .unset, .unset, .unset, .unset, .unset, .unset, .unset, .unset] [(.int (((lens.toUInt32 >>> ((3 : Int32) &&& 31).toUInt32).toInt32) &&& (1 : Int32))), (.int (1 : Int32))])) _
    refine XS.iadd X759.here hx rfl (hb hby at_48) rfl ?_
    show Steps p.tables e below (T759.setTop (mkF m 49 #[.val (.long x0), .second, .val (.long x1), .second, .val (.long x2), .second, .val (.long x3), .second, .val (.long pe), .second, .val (.int lens), .val (.ref b747), .val (.int l0), .val (.int off), .unset, .unset, .unset, .unset, .unset, .unset, .unset, .unset, .unset, .unset] [(.int ((1 : Int32) + (((lens.toUInt32 >>> ((3 : Int32) &&& 31).toUInt32).toInt32) &&& (1 : Int32))))])) _
    rw [hlen]
    refine XS.istore X759.here hx rfl (hb hby at_49) rfl (l' := #[.val (.long x0), .second, .val (.long x1), .second, .val (.long x2), .second, .val (.long x3), .second, .val (.long pe), .second, .val (.int lens), .val (.ref b747), .val (.int l0), .val (.int off), .val (.int len), .unset, .unset, .unset, .unset, .unset, .unset, .unset, .unset, .unset]) rfl ?_
    refine XS.iload X759.here hx rfl (hb hby at_51) rfl ?_
    refine XS.iconst X759.here hx rfl (hb hby at_53) ?_
    show Steps p.tables e below (T759.setTop (mkF m 54 #[.val (.long x0), .second, .val (.long x1), .second, .val (.long x2), .second, .val (.long x3), .second, .val (.long pe), .second, .val (.int lens), .val (.ref b747), .val (.int l0), .val (.int off), .val (.int len), .unset, .unset, .unset, .unset, .unset, .unset, .unset, .unset, .unset] [(.int (4 : Int32)), (.int lens)])) _
    refine XS.iushr X759.here hx rfl (hb hby at_54) rfl ?_
    refine XS.iconst X759.here hx rfl (hb hby at_55) ?_
    refine XS.iand X759.here hx rfl (hb hby at_56) rfl ?_
    show Steps p.tables e below (T759.setTop (mkF m 57 #[.val (.long x0), .second, .val (.long x1), .second, .val (.long x2), .second, .val (.long x3), .second, .val (.long pe), .second, .val (.int lens), .val (.ref b747), .val (.int l0), .val (.int off), .val (.int len), .unset, .unset, .unset, .unset, .unset, .unset, .unset, .unset, .unset] [(.int (((lens.toUInt32 >>> ((4 : Int32) &&& 31).toUInt32).toInt32) &&& (1 : Int32)))])) _
    refine st761 _ ?_
    refine XS.istore X761.here hx rfl (hb hby at_65) rfl (l' := #[.val (.long x0), .second, .val (.long x1), .second, .val (.long x2), .second, .val (.long x3), .second, .val (.long pe), .second, .val (.int lens), .val (.ref b747), .val (.int l0), .val (.int off), .val (.int len), .val (.int vA), .unset, .unset, .unset, .unset, .unset, .unset, .unset, .unset]) rfl ?_
    refine XS.iload X761.here hx rfl (hb hby at_67) rfl ?_
    refine XS.iconst X761.here hx rfl (hb hby at_69) ?_
    show Steps p.tables e below (T761.setTop (mkF m 70 #[.val (.long x0), .second, .val (.long x1), .second, .val (.long x2), .second, .val (.long x3), .second, .val (.long pe), .second, .val (.int lens), .val (.ref b747), .val (.int l0), .val (.int off), .val (.int len), .val (.int vA), .unset, .unset, .unset, .unset, .unset, .unset, .unset, .unset] [(.int (5 : Int32)), (.int lens)])) _
    refine XS.iushr X761.here hx rfl (hb hby at_70) rfl ?_
    refine XS.iconst X761.here hx rfl (hb hby at_71) ?_
    refine XS.iand X761.here hx rfl (hb hby at_72) rfl ?_
    show Steps p.tables e below (T761.setTop (mkF m 73 #[.val (.long x0), .second, .val (.long x1), .second, .val (.long x2), .second, .val (.long x3), .second, .val (.long pe), .second, .val (.int lens), .val (.ref b747), .val (.int l0), .val (.int off), .val (.int len), .val (.int vA), .unset, .unset, .unset, .unset, .unset, .unset, .unset, .unset] [(.int (((lens.toUInt32 >>> ((5 : Int32) &&& 31).toUInt32).toInt32) &&& (1 : Int32)))])) _
    refine st762 _ ?_
    refine XS.istore X762.here hx rfl (hb hby at_81) rfl (l' := #[.val (.long x0), .second, .val (.long x1), .second, .val (.long x2), .second, .val (.long x3), .second, .val (.long pe), .second, .val (.int lens), .val (.ref b747), .val (.int l0), .val (.int off), .val (.int len), .val (.int vA), .val (.int vB), .unset, .unset, .unset, .unset, .unset, .unset, .unset]) rfl ?_
    refine XS.iconst X762.here hx rfl (hb hby at_83) ?_
    refine st763 _ ?_
    show Steps p.tables e below (T763.setTop (mkF m 86 #[.val (.long x0), .second, .val (.long x1), .second, .val (.long x2), .second, .val (.long x3), .second, .val (.long pe), .second, .val (.int lens), .val (.ref b747), .val (.int l0), .val (.int off), .val (.int len), .val (.int vA), .val (.int vB), .unset, .unset, .unset, .unset, .unset, .unset, .unset] [(.ref b763)])) _
    refine XS.dup X763.here hx rfl (hb hby at_86) rfl rfl ?_
    refine XS.iconst X763.here hx rfl (hb hby at_87) ?_
    refine XS.lload X763.here hx rfl (hb hby at_88) rfl ?_
    refine st767 _ ?_
    show Steps p.tables e below (T767.setTop (mkF m 91 #[.val (.long x0), .second, .val (.long x1), .second, .val (.long x2), .second, .val (.long x3), .second, .val (.long pe), .second, .val (.int lens), .val (.ref b747), .val (.int l0), .val (.int off), .val (.int len), .val (.int vA), .val (.int vB), .unset, .unset, .unset, .unset, .unset, .unset, .unset] [(.ref b763)])) _
    refine XS.dup X767.here hx rfl (hb hby at_91) rfl rfl ?_
    refine XS.iconst X767.here hx rfl (hb hby at_92) ?_
    refine XS.lload X767.here hx rfl (hb hby at_93) rfl ?_
    refine st771 _ ?_
    show Steps p.tables e below (T771.setTop (mkF m 96 #[.val (.long x0), .second, .val (.long x1), .second, .val (.long x2), .second, .val (.long x3), .second, .val (.long pe), .second, .val (.int lens), .val (.ref b747), .val (.int l0), .val (.int off), .val (.int len), .val (.int vA), .val (.int vB), .unset, .unset, .unset, .unset, .unset, .unset, .unset] [(.ref b763)])) _
    refine XS.dup X771.here hx rfl (hb hby at_96) rfl rfl ?_
    refine XS.iconst X771.here hx rfl (hb hby at_97) ?_
    refine XS.lload X771.here hx rfl (hb hby at_98) rfl ?_
    refine st775 _ ?_
    show Steps p.tables e below (T775.setTop (mkF m 101 #[.val (.long x0), .second, .val (.long x1), .second, .val (.long x2), .second, .val (.long x3), .second, .val (.long pe), .second, .val (.int lens), .val (.ref b747), .val (.int l0), .val (.int off), .val (.int len), .val (.int vA), .val (.int vB), .unset, .unset, .unset, .unset, .unset, .unset, .unset] [(.ref b763)])) _
    refine XS.dup X775.here hx rfl (hb hby at_101) rfl rfl ?_
    refine XS.iconst X775.here hx rfl (hb hby at_102) ?_
    refine XS.lload X775.here hx rfl (hb hby at_103) rfl ?_
    refine st779 _ ?_
    show Steps p.tables e below (T779.setTop (mkF m 106 #[.val (.long x0), .second, .val (.long x1), .second, .val (.long x2), .second, .val (.long x3), .second, .val (.long pe), .second, .val (.int lens), .val (.ref b747), .val (.int l0), .val (.int off), .val (.int len), .val (.int vA), .val (.int vB), .unset, .unset, .unset, .unset, .unset, .unset, .unset] [(.ref b763)])) _
    refine XS.astore X779.here hx rfl (hb hby at_106) rfl rfl (l' := #[.val (.long x0), .second, .val (.long x1), .second, .val (.long x2), .second, .val (.long x3), .second, .val (.long pe), .second, .val (.int lens), .val (.ref b747), .val (.int l0), .val (.int off), .val (.int len), .val (.int vA), .val (.int vB), .val (.ref b763), .unset, .unset, .unset, .unset, .unset, .unset]) rfl ?_
    refine XS.iconst X779.here hx rfl (hb hby at_108) ?_
    refine st782 _ ?_
    refine XS.dup X782.here hx rfl (hb hby at_111) rfl rfl ?_
    show Steps p.tables e below (T782.setTop (mkF m 112 #[.val (.long x0), .second, .val (.long x1), .second, .val (.long x2), .second, .val (.long x3), .second, .val (.long pe), .second, .val (.int lens), .val (.ref b747), .val (.int l0), .val (.int off), .val (.int len), .val (.int vA), .val (.int vB), .val (.ref b763), .unset, .unset, .unset, .unset, .unset, .unset] [(.ref b782), (.ref b782)])) _
    refine XS.iconst X782.here hx rfl (hb hby at_112) ?_
    refine XS.lload X782.here hx rfl (hb hby at_113) rfl ?_
    refine st787 _ ?_
    refine XS.dup X787.here hx rfl (hb hby at_116) rfl rfl ?_
    show Steps p.tables e below (T787.setTop (mkF m 117 #[.val (.long x0), .second, .val (.long x1), .second, .val (.long x2), .second, .val (.long x3), .second, .val (.long pe), .second, .val (.int lens), .val (.ref b747), .val (.int l0), .val (.int off), .val (.int len), .val (.int vA), .val (.int vB), .val (.ref b763), .unset, .unset, .unset, .unset, .unset, .unset] [(.ref b782), (.ref b782)])) _
    refine XS.iconst X787.here hx rfl (hb hby at_117) ?_
    refine XS.lload X787.here hx rfl (hb hby at_118) rfl ?_
    refine st792 _ ?_
    refine XS.dup X792.here hx rfl (hb hby at_121) rfl rfl ?_
    show Steps p.tables e below (T792.setTop (mkF m 122 #[.val (.long x0), .second, .val (.long x1), .second, .val (.long x2), .second, .val (.long x3), .second, .val (.long pe), .second, .val (.int lens), .val (.ref b747), .val (.int l0), .val (.int off), .val (.int len), .val (.int vA), .val (.int vB), .val (.ref b763), .unset, .unset, .unset, .unset, .unset, .unset] [(.ref b782), (.ref b782)])) _
    refine XS.iconst X792.here hx rfl (hb hby at_122) ?_
    refine XS.lload X792.here hx rfl (hb hby at_123) rfl ?_
    refine st797 _ ?_
    refine XS.dup X797.here hx rfl (hb hby at_126) rfl rfl ?_
    show Steps p.tables e below (T797.setTop (mkF m 127 #[.val (.long x0), .second, .val (.long x1), .second, .val (.long x2), .second, .val (.long x3), .second, .val (.long pe), .second, .val (.int lens), .val (.ref b747), .val (.int l0), .val (.int off), .val (.int len), .val (.int vA), .val (.int vB), .val (.ref b763), .unset, .unset, .unset, .unset, .unset, .unset] [(.ref b782), (.ref b782)])) _
    refine XS.iconst X797.here hx rfl (hb hby at_127) ?_
    refine XS.lload X797.here hx rfl (hb hby at_128) rfl ?_
    refine st802 _ ?_
    refine XS.astore X802.here hx rfl (hb hby at_131) rfl rfl (l' := #[.val (.long x0), .second, .val (.long x1), .second, .val (.long x2), .second, .val (.long x3), .second, .val (.long pe), .second, .val (.int lens), .val (.ref b747), .val (.int l0), .val (.int off), .val (.int len), .val (.int vA), .val (.int vB), .val (.ref b763), .val (.ref b782), .unset, .unset, .unset, .unset, .unset]) rfl ?_
    show Steps p.tables e below (T802.setTop (mkF m 133 #[.val (.long x0), .second, .val (.long x1), .second, .val (.long x2), .second, .val (.long x3), .second, .val (.long pe), .second, .val (.int lens), .val (.ref b747), .val (.int l0), .val (.int off), .val (.int len), .val (.int vA), .val (.int vB), .val (.ref b763), .val (.ref b782), .unset, .unset, .unset, .unset, .unset] [])) _
    refine st806 _ ?_
    refine XS.dup X806.here hx rfl (hb hby at_136) rfl rfl ?_
    refine st810.trans ?_
    refine XS.astore X810.here hx rfl (hb hby at_140) rfl rfl (l' := #[.val (.long x0), .second, .val (.long x1), .second, .val (.long x2), .second, .val (.long x3), .second, .val (.long pe), .second, .val (.int lens), .val (.ref b747), .val (.int l0), .val (.int off), .val (.int len), .val (.int vA), .val (.int vB), .val (.ref b763), .val (.ref b782), .val (.ref b806), .unset, .unset, .unset, .unset]) rfl ?_
    show Steps p.tables e below (T810.setTop (mkF m 142 #[.val (.long x0), .second, .val (.long x1), .second, .val (.long x2), .second, .val (.long x3), .second, .val (.long pe), .second, .val (.int lens), .val (.ref b747), .val (.int l0), .val (.int off), .val (.int len), .val (.int vA), .val (.int vB), .val (.ref b763), .val (.ref b782), .val (.ref b806), .unset, .unset, .unset, .unset] [])) _
    refine XS.iload X810.here hx rfl (hb hby at_142) rfl ?_
    exact k₀
  by_cases qa : vA = (0 : Int32)
  · obtain ⟨cq815, kq815, q815a, q815b, q815c⟩ := isOf hZ rfl i810_0
    obtain ⟨_, _, ⟨T815, L815, k815, n815⟩, -, X815, ⟨Lc815, hQ815, l815, y815, z815⟩, st815⟩ := X810.virtualBack hx (y := (⟨"com/example/orbitfold/orbitfold/StateIndex", "indexOf", "([JII)I"⟩ : MethodName)) (z := (⟨"com/example/orbitfold/orbitfold/StateIndex", "indexOf", "([JII)I"⟩ : MethodName)) hown (mvT hZ (own_at hw 47 rfl)) (mvT hZ (own_at hw 48 rfl)) (notFace_of_selects (args := #[]) (mvT hZ (own_at hw 50 rfl))) (mvT hZ (own_at hw 50 rfl)) (mvT hZ (own_at hw 49 rfl)) (by decide) (backOf (W := 0) (rm_ix1 l Z a0 hw [] b806 kA810 sA810 tA810 bs810 wA810 ck810 cs810 ct810 cw810 (List.replicate 2048 (.int (-1 : Int32))) (0 : Int32) (0 : Int32) (0 : Int64) b747 k747 x0 x1 x2 x3 l0 nd T810.heap n0 (Nat.le_trans Z0 KP810.1) OL810 ⟨i810_0, i810_1, i810_2, i810_3, i810_4, i810_5, i810_6, i810_7, i810_8, i810_9, i810_10, i810_11, i810_12, i810_13, i810_14⟩ ⟨nn810_0, nn810_1, nn810_2, nn810_3, nn810_4, nn810_5, nn810_6, nn810_7, nn810_8, nn810_9, nn810_10, nn810_11, nn810_12, nn810_13, nn810_14⟩ ⟨gn806, gn_kA810, gn_sA810, gn_tA810, gn_bs810, gn_wA810⟩ f811 ⟨ne_b747_b806, ne_b747_kA810, ne_b747_sA810, ne_b747_tA810, ne_b747_bs810, ne_b747_wA810⟩ hln (Or.inl rfl) rfl rfl) hZ (own_at hw 51 rfl) (own_at hw 3 rfl) (by decide) (by decide)) q815a q815c (g := (mkF m 167 #[.val (.long x0), .second, .val (.long x1), .second, .val (.long x2), .second, .val (.long x3), .second, .val (.long pe), .second, .val (.int lens), .val (.ref b747), .val (.int l0), .val (.int off), .val (.int len), .val (.int vA), .val (.int vB), .val (.ref b763), .val (.ref b782), .val (.ref b806), .unset, .unset, .unset, .unset] [(.int l0), (.int (0 : Int32)), (.ref b747), (.ref b806)])) rfl (by rw [hml]; rfl) (Steps.refl _) (argsL := [(.ref b747), (.int (0 : Int32)), (.int l0)]) (rest := []) (lenOf own_pd9 rfl) rfl (by show 2 * 0 + _ ≤ _; exact Nat.le_of_eq rfl) (hb hby at_167) (fun _ _ => ⟨rfl, rfl, (by decide : 9 + 1 ≤ _), (by decide : 3094 + 3072 ≤ _)⟩)
    dsimp only [Pt.U, Pt.locs, Pt.cells, Pt.slots] at X815 l815 y815 z815 st815 hQ815
    subst l815 y815 z815
    obtain ⟨kB815, cB815, tq815, se815, wi815, wq815, rfl, Nq815, K815, le815, D815, NE815, hT815, hwi815, hse815⟩ := hQ815
    have N815 := Fr.app N810 Nq815
    have ne_b747_kB815 : b747 ≠ kB815 := own_ne_le f811.lt le815
    have ne_b763_kB815 : b763 ≠ kB815 := own_ne_le f812.lt le815
    have ne_b782_kB815 : b782 ≠ kB815 := own_ne_le f813.lt le815
    have ne_b806_kB815 : b806 ≠ kB815 := own_ne_le i810_0.lt le815
    have ne_bs810_kB815 : bs810 ≠ kB815 := own_ne_le i810_7.lt le815
    have ne_kA810_kB815 : kA810 ≠ kB815 := own_ne_le i810_11.lt le815
    have ne_sA810_kB815 : sA810 ≠ kB815 := own_ne_le i810_12.lt le815
    have ne_tA810_kB815 : tA810 ≠ kB815 := own_ne_le i810_13.lt le815
    have ne_wA810_kB815 : wA810 ≠ kB815 := own_ne_le i810_14.lt le815
    have sz_kB815 : h0.size ≤ kB815 := Nat.le_trans KP810.1 le815
    have gn_kB815 : n0 ≤ kB815 := Nat.le_trans Z0 sz_kB815
    obtain ⟨i815_0, i815_1, i815_2, i815_3, i815_4, i815_5, i815_6, i815_7, i815_8, i815_9, i815_10, i815_11, i815_12, i815_13, i815_14⟩ := id D815
    have f816 := f811.keep K815 (by simp [ne_b747_b806, ne_b747_sA810, ne_b747_tA810, ne_b747_bs810, ne_b747_wA810])
    have f817 := f812.keep K815 (by simp [ne_b763_b806, ne_b763_sA810, ne_b763_tA810, ne_b763_bs810, ne_b763_wA810])
    have f818 := f813.keep K815 (by simp [ne_b782_b806, ne_b782_sA810, ne_b782_tA810, ne_b782_bs810, ne_b782_wA810])
    have OL815 := OL810.keep K815 (fun x hx => by
      simp only [List.mem_cons, List.not_mem_nil, or_false] at hx
      rcases hx with rfl | rfl | rfl | rfl | rfl
      · exact gn806
      · exact gn_sA810
      · exact gn_tA810
      · exact gn_bs810
      · exact gn_wA810)
    have KP815 : Keep h0 T815.heap [] := KP810.trans K815 (fun x hx => by
      simp only [List.mem_cons, List.not_mem_nil, or_false] at hx
      rcases hx with rfl | rfl | rfl | rfl | rfl
      · exact Or.inr sz806
      · exact Or.inr sz_sA810
      · exact Or.inr sz_tA810
      · exact Or.inr sz_bs810
      · exact Or.inr sz_wA810)
    have stP819 : ∀ target, Steps p.tables e below (T815.setTop (mkF m 174 #[.val (.long x0), .second, .val (.long x1), .second, .val (.long x2), .second, .val (.long x3), .second, .val (.long pe), .second, .val (.int lens), .val (.ref b747), .val (.int l0), .val (.int off), .val (.int len), .val (.int vA), .val (.int vB), .val (.ref b763), .val (.ref b782), .val (.ref b806), .val (.int (0 : Int32)), .unset, .unset, .unset] [(.int vB)])) target → Steps p.tables e below (s₁.setTop (mkF m 0 #[.val (.long x0), .second, .val (.long x1), .second, .val (.long x2), .second, .val (.long x3), .second, .val (.long pe), .second, .val (.int lens), .unset, .unset, .unset, .unset, .unset, .unset, .unset, .unset, .unset, .unset, .unset, .unset, .unset] [])) target := by
      intro target k₀
      show Steps p.tables e below (s₁.setTop (mkF m 0 #[.val (.long x0), .second, .val (.long x1), .second, .val (.long x2), .second, .val (.long x3), .second, .val (.long pe), .second, .val (.int lens), .unset, .unset, .unset, .unset, .unset, .unset, .unset, .unset, .unset, .unset, .unset, .unset, .unset] [])) _
      refine stP814 _ ?_
      refine XS.ifYes X810.here hx rfl (pc0 := 144) (pc' := 160) rfl (hb hby at_144) rfl ((if0 _ _).trans (teq qa).1) (by decide) (by decide) ?_
      refine XS.aload X810.here hx rfl (hb hby at_160) rfl rfl ?_
      refine XS.aload X810.here hx rfl (hb hby at_162) rfl rfl ?_
      show Steps p.tables e below (T810.setTop (mkF m 164 #[.val (.long x0), .second, .val (.long x1), .second, .val (.long x2), .second, .val (.long x3), .second, .val (.long pe), .second, .val (.int lens), .val (.ref b747), .val (.int l0), .val (.int off), .val (.int len), .val (.int vA), .val (.int vB), .val (.ref b763), .val (.ref b782), .val (.ref b806), .unset, .unset, .unset, .unset] [(.ref b747), (.ref b806)])) _
      refine XS.iconst X810.here hx rfl (hb hby at_164) ?_
      refine XS.iload X810.here hx rfl (hb hby at_165) rfl ?_
      refine st815.trans ?_
      refine XS.istore X815.here hx rfl (hb hby at_170) rfl (l' := #[.val (.long x0), .second, .val (.long x1), .second, .val (.long x2), .second, .val (.long x3), .second, .val (.long pe), .second, .val (.int lens), .val (.ref b747), .val (.int l0), .val (.int off), .val (.int len), .val (.int vA), .val (.int vB), .val (.ref b763), .val (.ref b782), .val (.ref b806), .val (.int (0 : Int32)), .unset, .unset, .unset]) rfl ?_
      show Steps p.tables e below (T815.setTop (mkF m 172 #[.val (.long x0), .second, .val (.long x1), .second, .val (.long x2), .second, .val (.long x3), .second, .val (.long pe), .second, .val (.int lens), .val (.ref b747), .val (.int l0), .val (.int off), .val (.int len), .val (.int vA), .val (.int vB), .val (.ref b763), .val (.ref b782), .val (.ref b806), .val (.int (0 : Int32)), .unset, .unset, .unset] [])) _
      refine XS.iload X815.here hx rfl (hb hby at_172) rfl ?_
      exact k₀
    by_cases qb : vB = (0 : Int32)
    · obtain ⟨cq820, kq820, q820a, q820b, q820c⟩ := isOf hZ rfl i815_0
      obtain ⟨_, _, ⟨T820, L820, k820, n820⟩, -, X820, ⟨Lc820, hQ820, l820, y820, z820⟩, st820⟩ := X815.virtualBack hx (y := (⟨"com/example/orbitfold/orbitfold/StateIndex", "indexOf", "([JII)I"⟩ : MethodName)) (z := (⟨"com/example/orbitfold/orbitfold/StateIndex", "indexOf", "([JII)I"⟩ : MethodName)) hown (mvT hZ (own_at hw 47 rfl)) (mvT hZ (own_at hw 48 rfl)) (notFace_of_selects (args := #[]) (mvT hZ (own_at hw 50 rfl))) (mvT hZ (own_at hw 50 rfl)) (mvT hZ (own_at hw 49 rfl)) (by decide) (backOf (W := 0) (rm_ix2 l Z a0 hw [] b806 kB815 sA810 tA810 bs810 wA810 cB815 cs810 ct810 cw810 (own_cp (List.replicate nd.toNatClampNeg (.long (0 : Int64))) [.long x0, .long x1, .long x2, .long x3] (0 : Int32).toNatClampNeg (0 : Int32).toNatClampNeg l0.toNatClampNeg) (List.set (List.replicate 1024 (.int (0 : Int32))) ((0 : Int32) + (1 : Int32)).toNatClampNeg (.int l0)) tq815 se815 wi815 wq815 b747 k747 x0 x1 x2 x3 l0 nd off len T815.heap n0 (Nat.le_trans Z0 KP815.1) OL815 ⟨i815_0, i815_1, i815_2, i815_3, i815_4, i815_5, i815_6, i815_7, i815_8, i815_9, i815_10, i815_11, i815_12, i815_13, i815_14⟩ ⟨ne_b806_kB815, nn810_1, nn810_2, nn810_3, nn810_4, (Ne.symm ne_sA810_kB815), (Ne.symm ne_tA810_kB815), (Ne.symm ne_bs810_kB815), (Ne.symm ne_wA810_kB815), nn810_9, nn810_10, nn810_11, nn810_12, nn810_13, nn810_14⟩ ⟨gn806, gn_kB815, gn_sA810, gn_tA810, gn_bs810, gn_wA810⟩ f816 ⟨ne_b747_b806, ne_b747_kB815, ne_b747_sA810, ne_b747_tA810, ne_b747_bs810, ne_b747_wA810⟩ (own_base1 hln x0 x1 x2 x3) hln hol hwi815 hT815 hse815) hZ (own_at hw 51 rfl) (own_at hw 3 rfl) (by decide) (by decide)) q820a q820c (g := (mkF m 199 #[.val (.long x0), .second, .val (.long x1), .second, .val (.long x2), .second, .val (.long x3), .second, .val (.long pe), .second, .val (.int lens), .val (.ref b747), .val (.int l0), .val (.int off), .val (.int len), .val (.int vA), .val (.int vB), .val (.ref b763), .val (.ref b782), .val (.ref b806), .val (.int (0 : Int32)), .unset, .unset, .unset] [(.int len), (.int off), (.ref b747), (.ref b806)])) rfl (by rw [hml]; rfl) (Steps.refl _) (argsL := [(.ref b747), (.int off), (.int len)]) (rest := []) (lenOf own_pd9 rfl) rfl (by show 2 * 0 + _ ≤ _; exact Nat.le_of_eq rfl) (hb hby at_199) (fun _ _ => ⟨rfl, rfl, (by decide : 10 + 0 ≤ _), (by decide : 6166 + 0 ≤ _)⟩)
      dsimp only [Pt.U, Pt.locs, Pt.cells, Pt.slots] at X820 l820 y820 z820 st820 hQ820
      subst l820 y820 z820
      obtain ⟨n1820, s1820, kq820, sq820, tq820, zq820, se820, wi820, wq820, rfl, Nq820, K820, D820, BA820, HA820⟩ := hQ820
      have N820 := Fr.app N815 Nq820
      obtain ⟨i820_0, i820_1, i820_2, i820_3, i820_4, i820_5, i820_6, i820_7, i820_8, i820_9, i820_10, i820_11, i820_12, i820_13, i820_14⟩ := id D820
      have f821 := f816.keep K820 (by simp [ne_b747_b806, ne_b747_kB815, ne_b747_sA810, ne_b747_tA810, ne_b747_bs810, ne_b747_wA810])
      have f822 := f817.keep K820 (by simp [ne_b763_b806, ne_b763_kB815, ne_b763_sA810, ne_b763_tA810, ne_b763_bs810, ne_b763_wA810])
      have f823 := f818.keep K820 (by simp [ne_b782_b806, ne_b782_kB815, ne_b782_sA810, ne_b782_tA810, ne_b782_bs810, ne_b782_wA810])
      have OL820 := OL815.keep K820 (fun x hx => by
        simp only [List.mem_cons, List.not_mem_nil, or_false] at hx
        rcases hx with rfl | rfl | rfl | rfl | rfl | rfl
        · exact gn806
        · exact gn_kB815
        · exact gn_sA810
        · exact gn_tA810
        · exact gn_bs810
        · exact gn_wA810)
      have KP820 : Keep h0 T820.heap [] := KP815.trans K820 (fun x hx => by
        simp only [List.mem_cons, List.not_mem_nil, or_false] at hx
        rcases hx with rfl | rfl | rfl | rfl | rfl | rfl
        · exact Or.inr sz806
        · exact Or.inr sz_kB815
        · exact Or.inr sz_sA810
        · exact Or.inr sz_tA810
        · exact Or.inr sz_bs810
        · exact Or.inr sz_wA810)
      obtain ⟨hkl820, hsl820, hs0820, hs1820, hk0820, hk1820, hk2820⟩ := id BA820
      obtain ⟨a1820, a2820, a3820, a4820, a5820, a6820⟩ := id HA820
      obtain ⟨cq824, kq824, q824a, q824b, q824c⟩ := isOf hZ rfl i820_0
      obtain ⟨_, _, ⟨T824, L824, k824, n824⟩, -, X824, ⟨Lc824, hQ824, l824, y824, z824⟩, st824⟩ := X820.virtualBack hx (y := (⟨"com/example/orbitfold/orbitfold/StateIndex", "copy", "(I[J)I"⟩ : MethodName)) (z := (⟨"com/example/orbitfold/orbitfold/StateIndex", "copy", "(I[J)I"⟩ : MethodName)) hown (mvT hZ (own_at hw 112 rfl)) (mvT hZ (own_at hw 113 rfl)) (notFace_of_selects (args := #[]) (mvT hZ (own_at hw 115 rfl))) (mvT hZ (own_at hw 115 rfl)) (mvT hZ (own_at hw 114 rfl)) (by decide) (backOf (W := 0) (rm_copy l Z a0 hw [] b806 kB815 sA810 cB815 cs810 kq820 sq820 b763 k763 pe (0 : Int32) (0 : Int32) l0 x0 x1 x2 nd T820.heap n0 (Nat.le_trans Z0 KP820.1) OL820 i820_1 i820_2 i820_11 i820_12 f822 (Ne.symm ne_b763_b806) (Ne.symm ne_b763_kB815) (Ne.symm ne_b763_sA810) gn763 hkl820 (own_hnd hln) hsl820 (Or.inl rfl) (Or.inl rfl) (own_l123 hln) hs0820 (by rw [own_add0 l0]; exact hs1820) hk0820 hk1820 hk2820) hZ (own_at hw 116 rfl) (own_at hw 3 rfl) (by decide) (by decide)) q824a q824c (g := (mkF m 210 #[.val (.long x0), .second, .val (.long x1), .second, .val (.long x2), .second, .val (.long x3), .second, .val (.long pe), .second, .val (.int lens), .val (.ref b747), .val (.int l0), .val (.int off), .val (.int len), .val (.int vA), .val (.int vB), .val (.ref b763), .val (.ref b782), .val (.ref b806), .val (.int (0 : Int32)), .val (.int n1820), .unset, .unset] [(.ref b763), (.int (0 : Int32)), (.ref b806)])) rfl (by rw [hml]; rfl) (Steps.refl _) (argsL := [(.int (0 : Int32)), (.ref b763)]) (rest := []) (lenOf own_pd12 rfl) rfl (by show 2 * 0 + _ ≤ _; exact Nat.le_of_eq rfl) (hb hby at_210) (fun _ _ => ⟨rfl, rfl, (by decide : 10 + 0 ≤ _), (by decide : 6166 + 0 ≤ _)⟩)
      dsimp only [Pt.U, Pt.locs, Pt.cells, Pt.slots] at X824 l824 y824 z824 st824 hQ824
      subst l824 y824 z824
      obtain ⟨rfl, Nq824, K824, c824_0⟩ := hQ824
      have N824 := Fr.app N820 Nq824
      have f825 := f821.keep K824 (by simp [ne_b747_b763])
      have f826 := f823.keep K824 (by simp [(Ne.symm ne_b763_b782)])
      have f827 := i820_0.keep K824
      have f828 := i820_1.keep K824 (by simp [(Ne.symm ne_b763_b806)])
      have f829 := i820_2.keep K824 (by simp [(Ne.symm ne_b763_b806)])
      have f830 := i820_3.keep K824 (by simp [(Ne.symm ne_b763_b806)])
      have f831 := i820_4.keep K824 (by simp [(Ne.symm ne_b763_b806)])
      have f832 := i820_5.keep K824 (by simp [(Ne.symm ne_b763_b806)])
      have f833 := i820_6.keep K824 (by simp [(Ne.symm ne_b763_b806)])
      have f834 := i820_7.keep K824
      have f835 := i820_8.keep K824 (by simp [(Ne.symm ne_b763_bs810)])
      have f836 := i820_9.keep K824 (by simp [(Ne.symm ne_b763_bs810)])
      have f837 := i820_10.keep K824 (by simp [(Ne.symm ne_b763_bs810)])
      have f838 := i820_11.keep K824 (by simp [(Ne.symm ne_b763_kB815)])
      have f839 := i820_12.keep K824 (by simp [(Ne.symm ne_b763_sA810)])
      have f840 := i820_13.keep K824 (by simp [(Ne.symm ne_b763_tA810)])
      have f841 := i820_14.keep K824 (by simp [(Ne.symm ne_b763_wA810)])
      have OL824 := OL820.keep K824 (fun x hx => by
        simp only [List.mem_cons, List.not_mem_nil, or_false] at hx
        rcases hx with rfl
        · exact gn763)
      have KP824 : Keep h0 T824.heap [] := KP820.trans K824 (fun x hx => by
        simp only [List.mem_cons, List.not_mem_nil, or_false] at hx
        rcases hx with rfl
        · exact Or.inr sz763)
      obtain ⟨cq842, kq842, q842a, q842b, q842c⟩ := isOf hZ rfl f827
      obtain ⟨_, _, ⟨T842, L842, k842, n842⟩, -, X842, ⟨Lc842, hQ842, l842, y842, z842⟩, st842⟩ := X824.virtualBack hx (y := (⟨"com/example/orbitfold/orbitfold/StateIndex", "copy", "(I[J)I"⟩ : MethodName)) (z := (⟨"com/example/orbitfold/orbitfold/StateIndex", "copy", "(I[J)I"⟩ : MethodName)) hown (mvT hZ (own_at hw 112 rfl)) (mvT hZ (own_at hw 113 rfl)) (notFace_of_selects (args := #[]) (mvT hZ (own_at hw 115 rfl))) (mvT hZ (own_at hw 115 rfl)) (mvT hZ (own_at hw 114 rfl)) (by decide) (backOf (W := 0) (rm_copy l Z a0 hw [] b806 kB815 sA810 cB815 cs810 kq820 sq820 b782 k782 pe n1820 s1820 len (own_x x0 x1 x2 x3 off) (own_x x0 x1 x2 x3 (off + (1 : Int32))) (own_x x0 x1 x2 x3 (off + (2 : Int32))) nd T824.heap n0 (Nat.le_trans Z0 KP824.1) OL824 f828 f829 f838 f839 f826 (Ne.symm ne_b782_b806) (Ne.symm ne_b782_kB815) (Ne.symm ne_b782_sA810) gn782 hkl820 (own_hnd hln) hsl820 a1820 a2820 ((own_len12 hol).elim Or.inl (fun z => Or.inr (Or.inl z))) a3820 a4820 (by rw [own_addz s1820]; exact a5820) (fun z => a6820 ((own_len12 hol).elim (fun y => absurd y z) id)) (fun z => absurd z ((own_len12 hol).elim (fun y => by rw [y]; decide) (fun y => by rw [y]; decide)))) hZ (own_at hw 116 rfl) (own_at hw 3 rfl) (by decide) (by decide)) q842a q842c (g := (mkF m 221 #[.val (.long x0), .second, .val (.long x1), .second, .val (.long x2), .second, .val (.long x3), .second, .val (.long pe), .second, .val (.int lens), .val (.ref b747), .val (.int l0), .val (.int off), .val (.int len), .val (.int vA), .val (.int vB), .val (.ref b763), .val (.ref b782), .val (.ref b806), .val (.int (0 : Int32)), .val (.int n1820), .val (.int l0), .unset] [(.ref b782), (.int n1820), (.ref b806)])) rfl (by rw [hml]; rfl) (Steps.refl _) (argsL := [(.int n1820), (.ref b782)]) (rest := []) (lenOf own_pd12 rfl) rfl (by show 2 * 0 + _ ≤ _; exact Nat.le_of_eq rfl) (hb hby at_221) (fun _ _ => ⟨rfl, rfl, (by decide : 10 + 0 ≤ _), (by decide : 6166 + 0 ≤ _)⟩)
      dsimp only [Pt.U, Pt.locs, Pt.cells, Pt.slots] at X842 l842 y842 z842 st842 hQ842
      subst l842 y842 z842
      obtain ⟨rfl, Nq842, K842, c842_0⟩ := hQ842
      have N842 := Fr.app N824 Nq842
      have f843 := f825.keep K842 (by simp [ne_b747_b782])
      have f844 := f827.keep K842
      have f845 := f828.keep K842 (by simp [(Ne.symm ne_b782_b806)])
      have f846 := f829.keep K842 (by simp [(Ne.symm ne_b782_b806)])
      have f847 := f830.keep K842 (by simp [(Ne.symm ne_b782_b806)])
      have f848 := f831.keep K842 (by simp [(Ne.symm ne_b782_b806)])
      have f849 := f832.keep K842 (by simp [(Ne.symm ne_b782_b806)])
      have f850 := f833.keep K842 (by simp [(Ne.symm ne_b782_b806)])
      have f851 := f834.keep K842
      have f852 := f835.keep K842 (by simp [(Ne.symm ne_b782_bs810)])
      have f853 := f836.keep K842 (by simp [(Ne.symm ne_b782_bs810)])
      have f854 := f837.keep K842 (by simp [(Ne.symm ne_b782_bs810)])
      have f855 := f838.keep K842 (by simp [(Ne.symm ne_b782_kB815)])
      have f856 := f839.keep K842 (by simp [(Ne.symm ne_b782_sA810)])
      have f857 := f840.keep K842 (by simp [(Ne.symm ne_b782_tA810)])
      have f858 := f841.keep K842 (by simp [(Ne.symm ne_b782_wA810)])
      have f859 := c824_0.keep K842 (by simp [ne_b763_b782])
      have OL842 := OL824.keep K842 (fun x hx => by
        simp only [List.mem_cons, List.not_mem_nil, or_false] at hx
        rcases hx with rfl
        · exact gn782)
      have KP842 : Keep h0 T842.heap [] := KP824.trans K842 (fun x hx => by
        simp only [List.mem_cons, List.not_mem_nil, or_false] at hx
        rcases hx with rfl
        · exact Or.inr sz782)
      obtain ⟨_, _, ⟨T860, L860, k860, n860⟩, -, X860, ⟨Lc860, hQ860, l860, y860, z860⟩, st860⟩ := Jvm.LawKit.callS X842 hx (y := (⟨"com/example/orbitfold/orbitfold/StateIndexCopyPinLaw", "check", "([JII[JIJ)Z"⟩ : MethodName)) hown (mvT hZ (own_at hw 117 rfl)) (mvT hZ (own_at hw 118 rfl)) (mvT hZ (own_at hw 119 rfl)) (mvT hZ (own_at hw 120 rfl)) (by decide) (backOf (W := 0) (rm_check l Z a0 hw [] b763 k763 l0 (0 : Int32) pe b747 k747 x0 x1 x2 x3 T842.heap n0 (Nat.le_trans Z0 KP842.1) f859 f843 (own_hol5 hln)) hZ (own_at hw 120 rfl) (own_at hw 119 rfl) (by decide) (by decide)) (g := (mkF m 237 #[.val (.long x0), .second, .val (.long x1), .second, .val (.long x2), .second, .val (.long x3), .second, .val (.long pe), .second, .val (.int lens), .val (.ref b747), .val (.int l0), .val (.int off), .val (.int len), .val (.int vA), .val (.int vB), .val (.ref b763), .val (.ref b782), .val (.ref b806), .val (.int (0 : Int32)), .val (.int n1820), .val (.int l0), .val (.int len)] [(.long pe), (.int (0 : Int32)), (.ref b747), (.int l0), (.int l0), (.ref b763)])) rfl (by rw [hml]; rfl) (argsL := [(.ref b763), (.int l0), (.int l0), (.ref b747), (.int (0 : Int32)), (.long pe)]) (rest := []) (lenOf own_pd13 rfl) rfl (by show 2 * 0 + _ ≤ _; exact Nat.le_of_eq rfl) (hb hby at_237) (fun _ _ => ⟨rfl, rfl, (by decide : 10 + 0 ≤ _), (by decide : 6166 + 0 ≤ _)⟩)
      dsimp only [Pt.U, Pt.locs, Pt.cells, Pt.slots] at X860 l860 y860 z860 st860 hQ860
      subst l860 y860 z860
      obtain ⟨rfl, Nq860, eh860⟩ := hQ860
      have N860 := Fr.app N842 Nq860
      obtain ⟨_, _, ⟨T861, L861, k861, n861⟩, -, X861, ⟨Lc861, hQ861, l861, y861, z861⟩, st861⟩ := Jvm.LawKit.callS X860 hx (y := (⟨"com/example/orbitfold/orbitfold/StateIndexCopyPinLaw", "check", "([JII[JIJ)Z"⟩ : MethodName)) hown (mvT hZ (own_at hw 117 rfl)) (mvT hZ (own_at hw 118 rfl)) (mvT hZ (own_at hw 119 rfl)) (mvT hZ (own_at hw 120 rfl)) (by decide) (backOf (W := 0) (rm_check l Z a0 hw [] b782 k782 len off pe b747 k747 x0 x1 x2 x3 T842.heap n0 (Nat.le_trans Z0 KP842.1) c842_0 f843 (own_hol45 hol)) hZ (own_at hw 120 rfl) (own_at hw 119 rfl) (by decide) (by decide)) (g := (mkF m 255 #[.val (.long x0), .second, .val (.long x1), .second, .val (.long x2), .second, .val (.long x3), .second, .val (.long pe), .second, .val (.int lens), .val (.ref b747), .val (.int l0), .val (.int off), .val (.int len), .val (.int vA), .val (.int vB), .val (.ref b763), .val (.ref b782), .val (.ref b806), .val (.int (0 : Int32)), .val (.int n1820), .val (.int l0), .val (.int len)] [(.long pe), (.int off), (.ref b747), (.int len), (.int len), (.ref b782)])) rfl (by rw [hml]; rfl) (argsL := [(.ref b782), (.int len), (.int len), (.ref b747), (.int off), (.long pe)]) (rest := []) (lenOf own_pd13 rfl) rfl (by show 2 * 0 + _ ≤ _; exact Nat.le_of_eq rfl) (hb hby at_255) (fun _ _ => ⟨rfl, eh860, (by decide : 10 + 0 ≤ _), (by decide : 6166 + 0 ≤ _)⟩)
      dsimp only [Pt.U, Pt.locs, Pt.cells, Pt.slots] at X861 l861 y861 z861 st861 hQ861
      subst l861 y861 z861
      obtain ⟨rfl, Nq861, eh861⟩ := hQ861
      have N861 := Fr.app N860 Nq861
      obtain ⟨fs, hr, hrun, hended, hW, hsame⟩ := X861.leave (v := some (.int (1 : Int32))) (fun h => by rw [Bd.returns] at h; cases h)
      refine ⟨_, _, pre0 _ ?_, hrun, hended, _, _, rfl, ?_, ⟨_, rfl⟩, hW, hsame.mono (by decide) (by decide)⟩
      · show Steps p.tables e below (s₁.setTop (mkF m 0 #[.val (.long x0), .second, .val (.long x1), .second, .val (.long x2), .second, .val (.long x3), .second, .val (.long pe), .second, .val (.int lens), .unset, .unset, .unset, .unset, .unset, .unset, .unset, .unset, .unset, .unset, .unset, .unset, .unset] [])) _
        refine stP819 _ ?_
        refine XS.ifYes X815.here hx rfl (pc0 := 174) (pc' := 191) rfl (hb hby at_174) rfl ((if0 _ _).trans (teq qb).1) (by decide) (by decide) ?_
        refine XS.aload X815.here hx rfl (hb hby at_191) rfl rfl ?_
        refine XS.aload X815.here hx rfl (hb hby at_193) rfl rfl ?_
        show Steps p.tables e below (T815.setTop (mkF m 195 #[.val (.long x0), .second, .val (.long x1), .second, .val (.long x2), .second, .val (.long x3), .second, .val (.long pe), .second, .val (.int lens), .val (.ref b747), .val (.int l0), .val (.int off), .val (.int len), .val (.int vA), .val (.int vB), .val (.ref b763), .val (.ref b782), .val (.ref b806), .val (.int (0 : Int32)), .unset, .unset, .unset] [(.ref b747), (.ref b806)])) _
        refine XS.iload X815.here hx rfl (hb hby at_195) rfl ?_
        refine XS.iload X815.here hx rfl (hb hby at_197) rfl ?_
        refine st820.trans ?_
        refine XS.istore X820.here hx rfl (hb hby at_202) rfl (l' := #[.val (.long x0), .second, .val (.long x1), .second, .val (.long x2), .second, .val (.long x3), .second, .val (.long pe), .second, .val (.int lens), .val (.ref b747), .val (.int l0), .val (.int off), .val (.int len), .val (.int vA), .val (.int vB), .val (.ref b763), .val (.ref b782), .val (.ref b806), .val (.int (0 : Int32)), .val (.int n1820), .unset, .unset]) rfl ?_
        show Steps p.tables e below (T820.setTop (mkF m 204 #[.val (.long x0), .second, .val (.long x1), .second, .val (.long x2), .second, .val (.long x3), .second, .val (.long pe), .second, .val (.int lens), .val (.ref b747), .val (.int l0), .val (.int off), .val (.int len), .val (.int vA), .val (.int vB), .val (.ref b763), .val (.ref b782), .val (.ref b806), .val (.int (0 : Int32)), .val (.int n1820), .unset, .unset] [])) _
        refine XS.aload X820.here hx rfl (hb hby at_204) rfl rfl ?_
        refine XS.iload X820.here hx rfl (hb hby at_206) rfl ?_
        refine XS.aload X820.here hx rfl (hb hby at_208) rfl rfl ?_
        refine st824.trans ?_
        show Steps p.tables e below (T824.setTop (mkF m 213 #[.val (.long x0), .second, .val (.long x1), .second, .val (.long x2), .second, .val (.long x3), .second, .val (.long pe), .second, .val (.int lens), .val (.ref b747), .val (.int l0), .val (.int off), .val (.int len), .val (.int vA), .val (.int vB), .val (.ref b763), .val (.ref b782), .val (.ref b806), .val (.int (0 : Int32)), .val (.int n1820), .unset, .unset] [(.int l0)])) _
        refine XS.istore X824.here hx rfl (hb hby at_213) rfl (l' := #[.val (.long x0), .second, .val (.long x1), .second, .val (.long x2), .second, .val (.long x3), .second, .val (.long pe), .second, .val (.int lens), .val (.ref b747), .val (.int l0), .val (.int off), .val (.int len), .val (.int vA), .val (.int vB), .val (.ref b763), .val (.ref b782), .val (.ref b806), .val (.int (0 : Int32)), .val (.int n1820), .val (.int l0), .unset]) rfl ?_
        refine XS.aload X824.here hx rfl (hb hby at_215) rfl rfl ?_
        refine XS.iload X824.here hx rfl (hb hby at_217) rfl ?_
        refine XS.aload X824.here hx rfl (hb hby at_219) rfl rfl ?_
        show Steps p.tables e below (T824.setTop (mkF m 221 #[.val (.long x0), .second, .val (.long x1), .second, .val (.long x2), .second, .val (.long x3), .second, .val (.long pe), .second, .val (.int lens), .val (.ref b747), .val (.int l0), .val (.int off), .val (.int len), .val (.int vA), .val (.int vB), .val (.ref b763), .val (.ref b782), .val (.ref b806), .val (.int (0 : Int32)), .val (.int n1820), .val (.int l0), .unset] [(.ref b782), (.int n1820), (.ref b806)])) _
        refine st842.trans ?_
        refine XS.istore X842.here hx rfl (hb hby at_224) rfl (l' := #[.val (.long x0), .second, .val (.long x1), .second, .val (.long x2), .second, .val (.long x3), .second, .val (.long pe), .second, .val (.int lens), .val (.ref b747), .val (.int l0), .val (.int off), .val (.int len), .val (.int vA), .val (.int vB), .val (.ref b763), .val (.ref b782), .val (.ref b806), .val (.int (0 : Int32)), .val (.int n1820), .val (.int l0), .val (.int len)]) rfl ?_
        refine XS.aload X842.here hx rfl (hb hby at_226) rfl rfl ?_
        refine XS.iload X842.here hx rfl (hb hby at_228) rfl ?_
        show Steps p.tables e below (T842.setTop (mkF m 230 #[.val (.long x0), .second, .val (.long x1), .second, .val (.long x2), .second, .val (.long x3), .second, .val (.long pe), .second, .val (.int lens), .val (.ref b747), .val (.int l0), .val (.int off), .val (.int len), .val (.int vA), .val (.int vB), .val (.ref b763), .val (.ref b782), .val (.ref b806), .val (.int (0 : Int32)), .val (.int n1820), .val (.int l0), .val (.int len)] [(.int l0), (.ref b763)])) _
        refine XS.iload X842.here hx rfl (hb hby at_230) rfl ?_
        refine XS.aload X842.here hx rfl (hb hby at_232) rfl rfl ?_
        refine XS.iconst X842.here hx rfl (hb hby at_234) ?_
        refine XS.lload X842.here hx rfl (hb hby at_235) rfl ?_
        show Steps p.tables e below (T842.setTop (mkF m 237 #[.val (.long x0), .second, .val (.long x1), .second, .val (.long x2), .second, .val (.long x3), .second, .val (.long pe), .second, .val (.int lens), .val (.ref b747), .val (.int l0), .val (.int off), .val (.int len), .val (.int vA), .val (.int vB), .val (.ref b763), .val (.ref b782), .val (.ref b806), .val (.int (0 : Int32)), .val (.int n1820), .val (.int l0), .val (.int len)] [(.long pe), (.int (0 : Int32)), (.ref b747), (.int l0), (.int l0), (.ref b763)])) _
        refine st860 _ ?_
        refine XS.ifNo X860.here hx rfl (hb hby at_240) rfl ((if0 _ _).trans (feq (show ¬ ((1 : Int32) = (0 : Int32)) by decide)).1) ?_
        refine XS.aload X860.here hx rfl (hb hby at_243) rfl rfl ?_
        refine XS.iload X860.here hx rfl (hb hby at_245) rfl ?_
        show Steps p.tables e below (T860.setTop (mkF m 247 #[.val (.long x0), .second, .val (.long x1), .second, .val (.long x2), .second, .val (.long x3), .second, .val (.long pe), .second, .val (.int lens), .val (.ref b747), .val (.int l0), .val (.int off), .val (.int len), .val (.int vA), .val (.int vB), .val (.ref b763), .val (.ref b782), .val (.ref b806), .val (.int (0 : Int32)), .val (.int n1820), .val (.int l0), .val (.int len)] [(.int len), (.ref b782)])) _
        refine XS.iload X860.here hx rfl (hb hby at_247) rfl ?_
        refine XS.aload X860.here hx rfl (hb hby at_249) rfl rfl ?_
        refine XS.iload X860.here hx rfl (hb hby at_251) rfl ?_
        refine XS.lload X860.here hx rfl (hb hby at_253) rfl ?_
        show Steps p.tables e below (T860.setTop (mkF m 255 #[.val (.long x0), .second, .val (.long x1), .second, .val (.long x2), .second, .val (.long x3), .second, .val (.long pe), .second, .val (.int lens), .val (.ref b747), .val (.int l0), .val (.int off), .val (.int len), .val (.int vA), .val (.int vB), .val (.ref b763), .val (.ref b782), .val (.ref b806), .val (.int (0 : Int32)), .val (.int n1820), .val (.int l0), .val (.int len)] [(.long pe), (.int off), (.ref b747), (.int len), (.int len), (.ref b782)])) _
        refine st861 _ ?_
        refine XS.ifNo X861.here hx rfl (hb hby at_258) rfl ((if0 _ _).trans (feq (show ¬ ((1 : Int32) = (0 : Int32)) by decide)).1) ?_
        refine XS.iconst X861.here hx rfl (hb hby at_261) ?_
        refine XS.goto X861.here hx rfl (pc0 := 262) (pc' := 266) rfl (hb hby at_262) (by decide) (by decide) ?_
        show Steps p.tables e below (T861.setTop (mkF m 266 #[.val (.long x0), .second, .val (.long x1), .second, .val (.long x2), .second, .val (.long x3), .second, .val (.long pe), .second, .val (.int lens), .val (.ref b747), .val (.int l0), .val (.int off), .val (.int len), .val (.int vA), .val (.int vB), .val (.ref b763), .val (.ref b782), .val (.ref b806), .val (.int (0 : Int32)), .val (.int n1820), .val (.int l0), .val (.int len)] [(.int (1 : Int32))])) _
        exact own_retZ X861 hx rfl Bd.returns (hb hby at_266) hr
      · show rm_law_Q Z x0 x1 x2 x3 pe lens h0 n0 _ T861.heap _
        rw [eh861]
        exact ⟨rfl, N861⟩
    · obtain ⟨cq862, kq862, q862a, q862b, q862c⟩ := isOf hZ rfl i815_0
      obtain ⟨_, _, ⟨T862, L862, k862, n862⟩, -, X862, ⟨Lc862, hQ862, l862, y862, z862⟩, st862⟩ := X815.virtualBack hx (y := (⟨"com/example/orbitfold/orbitfold/StateIndex", "append", "([JII)I"⟩ : MethodName)) (z := (⟨"com/example/orbitfold/orbitfold/StateIndex", "append", "([JII)I"⟩ : MethodName)) hown (mvT hZ (own_at hw 121 rfl)) (mvT hZ (own_at hw 122 rfl)) (notFace_of_selects (args := #[]) (mvT hZ (own_at hw 124 rfl))) (mvT hZ (own_at hw 124 rfl)) (mvT hZ (own_at hw 123 rfl)) (by decide) (backOf (W := 0) (rm_app2 l Z a0 hw [] b806 kB815 sA810 tA810 bs810 wA810 cB815 cs810 ct810 cw810 (own_cp (List.replicate nd.toNatClampNeg (.long (0 : Int64))) [.long x0, .long x1, .long x2, .long x3] (0 : Int32).toNatClampNeg (0 : Int32).toNatClampNeg l0.toNatClampNeg) (List.set (List.replicate 1024 (.int (0 : Int32))) ((0 : Int32) + (1 : Int32)).toNatClampNeg (.int l0)) tq815 se815 wi815 wq815 b747 k747 x0 x1 x2 x3 l0 nd off len T815.heap n0 (Nat.le_trans Z0 KP815.1) OL815 ⟨i815_0, i815_1, i815_2, i815_3, i815_4, i815_5, i815_6, i815_7, i815_8, i815_9, i815_10, i815_11, i815_12, i815_13, i815_14⟩ ⟨ne_b806_kB815, nn810_1, nn810_2, nn810_3, nn810_4, (Ne.symm ne_sA810_kB815), (Ne.symm ne_tA810_kB815), (Ne.symm ne_bs810_kB815), (Ne.symm ne_wA810_kB815), nn810_9, nn810_10, nn810_11, nn810_12, nn810_13, nn810_14⟩ ⟨gn806, gn_kB815, gn_sA810, gn_tA810, gn_bs810, gn_wA810⟩ f816 ⟨ne_b747_b806, ne_b747_kB815, ne_b747_sA810, ne_b747_tA810, ne_b747_bs810, ne_b747_wA810⟩ (own_base1 hln x0 x1 x2 x3) hln hol S_A hwi815) hZ (own_at hw 125 rfl) (own_at hw 3 rfl) (by decide) (by decide)) q862a q862c (g := (mkF m 185 #[.val (.long x0), .second, .val (.long x1), .second, .val (.long x2), .second, .val (.long x3), .second, .val (.long pe), .second, .val (.int lens), .val (.ref b747), .val (.int l0), .val (.int off), .val (.int len), .val (.int vA), .val (.int vB), .val (.ref b763), .val (.ref b782), .val (.ref b806), .val (.int (0 : Int32)), .unset, .unset, .unset] [(.int len), (.int off), (.ref b747), (.ref b806)])) rfl (by rw [hml]; rfl) (Steps.refl _) (argsL := [(.ref b747), (.int off), (.int len)]) (rest := []) (lenOf own_pd9 rfl) rfl (by show 2 * 0 + _ ≤ _; exact Nat.le_of_eq rfl) (hb hby at_185) (fun _ _ => ⟨rfl, rfl, (by decide : 10 + 0 ≤ _), (by decide : 6166 + 0 ≤ _)⟩)
      dsimp only [Pt.U, Pt.locs, Pt.cells, Pt.slots] at X862 l862 y862 z862 st862 hQ862
      subst l862 y862 z862
      obtain ⟨n1862, s1862, kq862, sq862, tq862, zq862, se862, wi862, wq862, rfl, Nq862, K862, D862, BA862, HA862⟩ := hQ862
      have N862 := Fr.app N815 Nq862
      obtain ⟨i862_0, i862_1, i862_2, i862_3, i862_4, i862_5, i862_6, i862_7, i862_8, i862_9, i862_10, i862_11, i862_12, i862_13, i862_14⟩ := id D862
      have f863 := f816.keep K862 (by simp [ne_b747_b806, ne_b747_kB815, ne_b747_sA810, ne_b747_tA810, ne_b747_bs810, ne_b747_wA810])
      have f864 := f817.keep K862 (by simp [ne_b763_b806, ne_b763_kB815, ne_b763_sA810, ne_b763_tA810, ne_b763_bs810, ne_b763_wA810])
      have f865 := f818.keep K862 (by simp [ne_b782_b806, ne_b782_kB815, ne_b782_sA810, ne_b782_tA810, ne_b782_bs810, ne_b782_wA810])
      have OL862 := OL815.keep K862 (fun x hx => by
        simp only [List.mem_cons, List.not_mem_nil, or_false] at hx
        rcases hx with rfl | rfl | rfl | rfl | rfl | rfl
        · exact gn806
        · exact gn_kB815
        · exact gn_sA810
        · exact gn_tA810
        · exact gn_bs810
        · exact gn_wA810)
      have KP862 : Keep h0 T862.heap [] := KP815.trans K862 (fun x hx => by
        simp only [List.mem_cons, List.not_mem_nil, or_false] at hx
        rcases hx with rfl | rfl | rfl | rfl | rfl | rfl
        · exact Or.inr sz806
        · exact Or.inr sz_kB815
        · exact Or.inr sz_sA810
        · exact Or.inr sz_tA810
        · exact Or.inr sz_bs810
        · exact Or.inr sz_wA810)
      obtain ⟨hkl862, hsl862, hs0862, hs1862, hk0862, hk1862, hk2862⟩ := id BA862
      obtain ⟨a1862, a2862, a3862, a4862, a5862, a6862⟩ := id HA862
      obtain ⟨cq866, kq866, q866a, q866b, q866c⟩ := isOf hZ rfl i862_0
      obtain ⟨_, _, ⟨T866, L866, k866, n866⟩, -, X866, ⟨Lc866, hQ866, l866, y866, z866⟩, st866⟩ := X862.virtualBack hx (y := (⟨"com/example/orbitfold/orbitfold/StateIndex", "copy", "(I[J)I"⟩ : MethodName)) (z := (⟨"com/example/orbitfold/orbitfold/StateIndex", "copy", "(I[J)I"⟩ : MethodName)) hown (mvT hZ (own_at hw 112 rfl)) (mvT hZ (own_at hw 113 rfl)) (notFace_of_selects (args := #[]) (mvT hZ (own_at hw 115 rfl))) (mvT hZ (own_at hw 115 rfl)) (mvT hZ (own_at hw 114 rfl)) (by decide) (backOf (W := 0) (rm_copy l Z a0 hw [] b806 kB815 sA810 cB815 cs810 kq862 sq862 b763 k763 pe (0 : Int32) (0 : Int32) l0 x0 x1 x2 nd T862.heap n0 (Nat.le_trans Z0 KP862.1) OL862 i862_1 i862_2 i862_11 i862_12 f864 (Ne.symm ne_b763_b806) (Ne.symm ne_b763_kB815) (Ne.symm ne_b763_sA810) gn763 hkl862 (own_hnd hln) hsl862 (Or.inl rfl) (Or.inl rfl) (own_l123 hln) hs0862 (by rw [own_add0 l0]; exact hs1862) hk0862 hk1862 hk2862) hZ (own_at hw 116 rfl) (own_at hw 3 rfl) (by decide) (by decide)) q866a q866c (g := (mkF m 210 #[.val (.long x0), .second, .val (.long x1), .second, .val (.long x2), .second, .val (.long x3), .second, .val (.long pe), .second, .val (.int lens), .val (.ref b747), .val (.int l0), .val (.int off), .val (.int len), .val (.int vA), .val (.int vB), .val (.ref b763), .val (.ref b782), .val (.ref b806), .val (.int (0 : Int32)), .val (.int n1862), .unset, .unset] [(.ref b763), (.int (0 : Int32)), (.ref b806)])) rfl (by rw [hml]; rfl) (Steps.refl _) (argsL := [(.int (0 : Int32)), (.ref b763)]) (rest := []) (lenOf own_pd12 rfl) rfl (by show 2 * 0 + _ ≤ _; exact Nat.le_of_eq rfl) (hb hby at_210) (fun _ _ => ⟨rfl, rfl, (by decide : 10 + 0 ≤ _), (by decide : 6166 + 0 ≤ _)⟩)
      dsimp only [Pt.U, Pt.locs, Pt.cells, Pt.slots] at X866 l866 y866 z866 st866 hQ866
      subst l866 y866 z866
      obtain ⟨rfl, Nq866, K866, c866_0⟩ := hQ866
      have N866 := Fr.app N862 Nq866
      have f867 := f863.keep K866 (by simp [ne_b747_b763])
      have f868 := f865.keep K866 (by simp [(Ne.symm ne_b763_b782)])
      have f869 := i862_0.keep K866
      have f870 := i862_1.keep K866 (by simp [(Ne.symm ne_b763_b806)])
      have f871 := i862_2.keep K866 (by simp [(Ne.symm ne_b763_b806)])
      have f872 := i862_3.keep K866 (by simp [(Ne.symm ne_b763_b806)])
      have f873 := i862_4.keep K866 (by simp [(Ne.symm ne_b763_b806)])
      have f874 := i862_5.keep K866 (by simp [(Ne.symm ne_b763_b806)])
      have f875 := i862_6.keep K866 (by simp [(Ne.symm ne_b763_b806)])
      have f876 := i862_7.keep K866
      have f877 := i862_8.keep K866 (by simp [(Ne.symm ne_b763_bs810)])
      have f878 := i862_9.keep K866 (by simp [(Ne.symm ne_b763_bs810)])
      have f879 := i862_10.keep K866 (by simp [(Ne.symm ne_b763_bs810)])
      have f880 := i862_11.keep K866 (by simp [(Ne.symm ne_b763_kB815)])
      have f881 := i862_12.keep K866 (by simp [(Ne.symm ne_b763_sA810)])
      have f882 := i862_13.keep K866 (by simp [(Ne.symm ne_b763_tA810)])
      have f883 := i862_14.keep K866 (by simp [(Ne.symm ne_b763_wA810)])
      have OL866 := OL862.keep K866 (fun x hx => by
        simp only [List.mem_cons, List.not_mem_nil, or_false] at hx
        rcases hx with rfl
        · exact gn763)
      have KP866 : Keep h0 T866.heap [] := KP862.trans K866 (fun x hx => by
        simp only [List.mem_cons, List.not_mem_nil, or_false] at hx
        rcases hx with rfl
        · exact Or.inr sz763)
      obtain ⟨cq884, kq884, q884a, q884b, q884c⟩ := isOf hZ rfl f869
      obtain ⟨_, _, ⟨T884, L884, k884, n884⟩, -, X884, ⟨Lc884, hQ884, l884, y884, z884⟩, st884⟩ := X866.virtualBack hx (y := (⟨"com/example/orbitfold/orbitfold/StateIndex", "copy", "(I[J)I"⟩ : MethodName)) (z := (⟨"com/example/orbitfold/orbitfold/StateIndex", "copy", "(I[J)I"⟩ : MethodName)) hown (mvT hZ (own_at hw 112 rfl)) (mvT hZ (own_at hw 113 rfl)) (notFace_of_selects (args := #[]) (mvT hZ (own_at hw 115 rfl))) (mvT hZ (own_at hw 115 rfl)) (mvT hZ (own_at hw 114 rfl)) (by decide) (backOf (W := 0) (rm_copy l Z a0 hw [] b806 kB815 sA810 cB815 cs810 kq862 sq862 b782 k782 pe n1862 s1862 len (own_x x0 x1 x2 x3 off) (own_x x0 x1 x2 x3 (off + (1 : Int32))) (own_x x0 x1 x2 x3 (off + (2 : Int32))) nd T866.heap n0 (Nat.le_trans Z0 KP866.1) OL866 f870 f871 f880 f881 f868 (Ne.symm ne_b782_b806) (Ne.symm ne_b782_kB815) (Ne.symm ne_b782_sA810) gn782 hkl862 (own_hnd hln) hsl862 a1862 a2862 ((own_len12 hol).elim Or.inl (fun z => Or.inr (Or.inl z))) a3862 a4862 (by rw [own_addz s1862]; exact a5862) (fun z => a6862 ((own_len12 hol).elim (fun y => absurd y z) id)) (fun z => absurd z ((own_len12 hol).elim (fun y => by rw [y]; decide) (fun y => by rw [y]; decide)))) hZ (own_at hw 116 rfl) (own_at hw 3 rfl) (by decide) (by decide)) q884a q884c (g := (mkF m 221 #[.val (.long x0), .second, .val (.long x1), .second, .val (.long x2), .second, .val (.long x3), .second, .val (.long pe), .second, .val (.int lens), .val (.ref b747), .val (.int l0), .val (.int off), .val (.int len), .val (.int vA), .val (.int vB), .val (.ref b763), .val (.ref b782), .val (.ref b806), .val (.int (0 : Int32)), .val (.int n1862), .val (.int l0), .unset] [(.ref b782), (.int n1862), (.ref b806)])) rfl (by rw [hml]; rfl) (Steps.refl _) (argsL := [(.int n1862), (.ref b782)]) (rest := []) (lenOf own_pd12 rfl) rfl (by show 2 * 0 + _ ≤ _; exact Nat.le_of_eq rfl) (hb hby at_221) (fun _ _ => ⟨rfl, rfl, (by decide : 10 + 0 ≤ _), (by decide : 6166 + 0 ≤ _)⟩)
      dsimp only [Pt.U, Pt.locs, Pt.cells, Pt.slots] at X884 l884 y884 z884 st884 hQ884
      subst l884 y884 z884
      obtain ⟨rfl, Nq884, K884, c884_0⟩ := hQ884
      have N884 := Fr.app N866 Nq884
      have f885 := f867.keep K884 (by simp [ne_b747_b782])
      have f886 := f869.keep K884
      have f887 := f870.keep K884 (by simp [(Ne.symm ne_b782_b806)])
      have f888 := f871.keep K884 (by simp [(Ne.symm ne_b782_b806)])
      have f889 := f872.keep K884 (by simp [(Ne.symm ne_b782_b806)])
      have f890 := f873.keep K884 (by simp [(Ne.symm ne_b782_b806)])
      have f891 := f874.keep K884 (by simp [(Ne.symm ne_b782_b806)])
      have f892 := f875.keep K884 (by simp [(Ne.symm ne_b782_b806)])
      have f893 := f876.keep K884
      have f894 := f877.keep K884 (by simp [(Ne.symm ne_b782_bs810)])
      have f895 := f878.keep K884 (by simp [(Ne.symm ne_b782_bs810)])
      have f896 := f879.keep K884 (by simp [(Ne.symm ne_b782_bs810)])
      have f897 := f880.keep K884 (by simp [(Ne.symm ne_b782_kB815)])
      have f898 := f881.keep K884 (by simp [(Ne.symm ne_b782_sA810)])
      have f899 := f882.keep K884 (by simp [(Ne.symm ne_b782_tA810)])
      have f900 := f883.keep K884 (by simp [(Ne.symm ne_b782_wA810)])
      have f901 := c866_0.keep K884 (by simp [ne_b763_b782])
      have OL884 := OL866.keep K884 (fun x hx => by
        simp only [List.mem_cons, List.not_mem_nil, or_false] at hx
        rcases hx with rfl
        · exact gn782)
      have KP884 : Keep h0 T884.heap [] := KP866.trans K884 (fun x hx => by
        simp only [List.mem_cons, List.not_mem_nil, or_false] at hx
        rcases hx with rfl
        · exact Or.inr sz782)
      obtain ⟨_, _, ⟨T902, L902, k902, n902⟩, -, X902, ⟨Lc902, hQ902, l902, y902, z902⟩, st902⟩ := Jvm.LawKit.callS X884 hx (y := (⟨"com/example/orbitfold/orbitfold/StateIndexCopyPinLaw", "check", "([JII[JIJ)Z"⟩ : MethodName)) hown (mvT hZ (own_at hw 117 rfl)) (mvT hZ (own_at hw 118 rfl)) (mvT hZ (own_at hw 119 rfl)) (mvT hZ (own_at hw 120 rfl)) (by decide) (backOf (W := 0) (rm_check l Z a0 hw [] b763 k763 l0 (0 : Int32) pe b747 k747 x0 x1 x2 x3 T884.heap n0 (Nat.le_trans Z0 KP884.1) f901 f885 (own_hol5 hln)) hZ (own_at hw 120 rfl) (own_at hw 119 rfl) (by decide) (by decide)) (g := (mkF m 237 #[.val (.long x0), .second, .val (.long x1), .second, .val (.long x2), .second, .val (.long x3), .second, .val (.long pe), .second, .val (.int lens), .val (.ref b747), .val (.int l0), .val (.int off), .val (.int len), .val (.int vA), .val (.int vB), .val (.ref b763), .val (.ref b782), .val (.ref b806), .val (.int (0 : Int32)), .val (.int n1862), .val (.int l0), .val (.int len)] [(.long pe), (.int (0 : Int32)), (.ref b747), (.int l0), (.int l0), (.ref b763)])) rfl (by rw [hml]; rfl) (argsL := [(.ref b763), (.int l0), (.int l0), (.ref b747), (.int (0 : Int32)), (.long pe)]) (rest := []) (lenOf own_pd13 rfl) rfl (by show 2 * 0 + _ ≤ _; exact Nat.le_of_eq rfl) (hb hby at_237) (fun _ _ => ⟨rfl, rfl, (by decide : 10 + 0 ≤ _), (by decide : 6166 + 0 ≤ _)⟩)
      dsimp only [Pt.U, Pt.locs, Pt.cells, Pt.slots] at X902 l902 y902 z902 st902 hQ902
      subst l902 y902 z902
      obtain ⟨rfl, Nq902, eh902⟩ := hQ902
      have N902 := Fr.app N884 Nq902
      obtain ⟨_, _, ⟨T903, L903, k903, n903⟩, -, X903, ⟨Lc903, hQ903, l903, y903, z903⟩, st903⟩ := Jvm.LawKit.callS X902 hx (y := (⟨"com/example/orbitfold/orbitfold/StateIndexCopyPinLaw", "check", "([JII[JIJ)Z"⟩ : MethodName)) hown (mvT hZ (own_at hw 117 rfl)) (mvT hZ (own_at hw 118 rfl)) (mvT hZ (own_at hw 119 rfl)) (mvT hZ (own_at hw 120 rfl)) (by decide) (backOf (W := 0) (rm_check l Z a0 hw [] b782 k782 len off pe b747 k747 x0 x1 x2 x3 T884.heap n0 (Nat.le_trans Z0 KP884.1) c884_0 f885 (own_hol45 hol)) hZ (own_at hw 120 rfl) (own_at hw 119 rfl) (by decide) (by decide)) (g := (mkF m 255 #[.val (.long x0), .second, .val (.long x1), .second, .val (.long x2), .second, .val (.long x3), .second, .val (.long pe), .second, .val (.int lens), .val (.ref b747), .val (.int l0), .val (.int off), .val (.int len), .val (.int vA), .val (.int vB), .val (.ref b763), .val (.ref b782), .val (.ref b806), .val (.int (0 : Int32)), .val (.int n1862), .val (.int l0), .val (.int len)] [(.long pe), (.int off), (.ref b747), (.int len), (.int len), (.ref b782)])) rfl (by rw [hml]; rfl) (argsL := [(.ref b782), (.int len), (.int len), (.ref b747), (.int off), (.long pe)]) (rest := []) (lenOf own_pd13 rfl) rfl (by show 2 * 0 + _ ≤ _; exact Nat.le_of_eq rfl) (hb hby at_255) (fun _ _ => ⟨rfl, eh902, (by decide : 10 + 0 ≤ _), (by decide : 6166 + 0 ≤ _)⟩)
      dsimp only [Pt.U, Pt.locs, Pt.cells, Pt.slots] at X903 l903 y903 z903 st903 hQ903
      subst l903 y903 z903
      obtain ⟨rfl, Nq903, eh903⟩ := hQ903
      have N903 := Fr.app N902 Nq903
      obtain ⟨fs, hr, hrun, hended, hW, hsame⟩ := X903.leave (v := some (.int (1 : Int32))) (fun h => by rw [Bd.returns] at h; cases h)
      refine ⟨_, _, pre0 _ ?_, hrun, hended, _, _, rfl, ?_, ⟨_, rfl⟩, hW, hsame.mono (by decide) (by decide)⟩
      · show Steps p.tables e below (s₁.setTop (mkF m 0 #[.val (.long x0), .second, .val (.long x1), .second, .val (.long x2), .second, .val (.long x3), .second, .val (.long pe), .second, .val (.int lens), .unset, .unset, .unset, .unset, .unset, .unset, .unset, .unset, .unset, .unset, .unset, .unset, .unset] [])) _
        refine stP819 _ ?_
        refine XS.ifNo X815.here hx rfl (hb hby at_174) rfl ((if0 _ _).trans (feq qb).1) ?_
        refine XS.aload X815.here hx rfl (hb hby at_177) rfl rfl ?_
        refine XS.aload X815.here hx rfl (hb hby at_179) rfl rfl ?_
        show Steps p.tables e below (T815.setTop (mkF m 181 #[.val (.long x0), .second, .val (.long x1), .second, .val (.long x2), .second, .val (.long x3), .second, .val (.long pe), .second, .val (.int lens), .val (.ref b747), .val (.int l0), .val (.int off), .val (.int len), .val (.int vA), .val (.int vB), .val (.ref b763), .val (.ref b782), .val (.ref b806), .val (.int (0 : Int32)), .unset, .unset, .unset] [(.ref b747), (.ref b806)])) _
        refine XS.iload X815.here hx rfl (hb hby at_181) rfl ?_
        refine XS.iload X815.here hx rfl (hb hby at_183) rfl ?_
        refine st862.trans ?_
        refine XS.goto X862.here hx rfl (pc0 := 188) (pc' := 202) rfl (hb hby at_188) (by decide) (by decide) ?_
        show Steps p.tables e below (T862.setTop (mkF m 202 #[.val (.long x0), .second, .val (.long x1), .second, .val (.long x2), .second, .val (.long x3), .second, .val (.long pe), .second, .val (.int lens), .val (.ref b747), .val (.int l0), .val (.int off), .val (.int len), .val (.int vA), .val (.int vB), .val (.ref b763), .val (.ref b782), .val (.ref b806), .val (.int (0 : Int32)), .unset, .unset, .unset] [(.int n1862)])) _
        refine XS.istore X862.here hx rfl (hb hby at_202) rfl (l' := #[.val (.long x0), .second, .val (.long x1), .second, .val (.long x2), .second, .val (.long x3), .second, .val (.long pe), .second, .val (.int lens), .val (.ref b747), .val (.int l0), .val (.int off), .val (.int len), .val (.int vA), .val (.int vB), .val (.ref b763), .val (.ref b782), .val (.ref b806), .val (.int (0 : Int32)), .val (.int n1862), .unset, .unset]) rfl ?_
        refine XS.aload X862.here hx rfl (hb hby at_204) rfl rfl ?_
        refine XS.iload X862.here hx rfl (hb hby at_206) rfl ?_
        refine XS.aload X862.here hx rfl (hb hby at_208) rfl rfl ?_
        show Steps p.tables e below (T862.setTop (mkF m 210 #[.val (.long x0), .second, .val (.long x1), .second, .val (.long x2), .second, .val (.long x3), .second, .val (.long pe), .second, .val (.int lens), .val (.ref b747), .val (.int l0), .val (.int off), .val (.int len), .val (.int vA), .val (.int vB), .val (.ref b763), .val (.ref b782), .val (.ref b806), .val (.int (0 : Int32)), .val (.int n1862), .unset, .unset] [(.ref b763), (.int (0 : Int32)), (.ref b806)])) _
        refine st866.trans ?_
        refine XS.istore X866.here hx rfl (hb hby at_213) rfl (l' := #[.val (.long x0), .second, .val (.long x1), .second, .val (.long x2), .second, .val (.long x3), .second, .val (.long pe), .second, .val (.int lens), .val (.ref b747), .val (.int l0), .val (.int off), .val (.int len), .val (.int vA), .val (.int vB), .val (.ref b763), .val (.ref b782), .val (.ref b806), .val (.int (0 : Int32)), .val (.int n1862), .val (.int l0), .unset]) rfl ?_
        refine XS.aload X866.here hx rfl (hb hby at_215) rfl rfl ?_
        refine XS.iload X866.here hx rfl (hb hby at_217) rfl ?_
        show Steps p.tables e below (T866.setTop (mkF m 219 #[.val (.long x0), .second, .val (.long x1), .second, .val (.long x2), .second, .val (.long x3), .second, .val (.long pe), .second, .val (.int lens), .val (.ref b747), .val (.int l0), .val (.int off), .val (.int len), .val (.int vA), .val (.int vB), .val (.ref b763), .val (.ref b782), .val (.ref b806), .val (.int (0 : Int32)), .val (.int n1862), .val (.int l0), .unset] [(.int n1862), (.ref b806)])) _
        refine XS.aload X866.here hx rfl (hb hby at_219) rfl rfl ?_
        refine st884.trans ?_
        refine XS.istore X884.here hx rfl (hb hby at_224) rfl (l' := #[.val (.long x0), .second, .val (.long x1), .second, .val (.long x2), .second, .val (.long x3), .second, .val (.long pe), .second, .val (.int lens), .val (.ref b747), .val (.int l0), .val (.int off), .val (.int len), .val (.int vA), .val (.int vB), .val (.ref b763), .val (.ref b782), .val (.ref b806), .val (.int (0 : Int32)), .val (.int n1862), .val (.int l0), .val (.int len)]) rfl ?_
        refine XS.aload X884.here hx rfl (hb hby at_226) rfl rfl ?_
        show Steps p.tables e below (T884.setTop (mkF m 228 #[.val (.long x0), .second, .val (.long x1), .second, .val (.long x2), .second, .val (.long x3), .second, .val (.long pe), .second, .val (.int lens), .val (.ref b747), .val (.int l0), .val (.int off), .val (.int len), .val (.int vA), .val (.int vB), .val (.ref b763), .val (.ref b782), .val (.ref b806), .val (.int (0 : Int32)), .val (.int n1862), .val (.int l0), .val (.int len)] [(.ref b763)])) _
        refine XS.iload X884.here hx rfl (hb hby at_228) rfl ?_
        refine XS.iload X884.here hx rfl (hb hby at_230) rfl ?_
        refine XS.aload X884.here hx rfl (hb hby at_232) rfl rfl ?_
        refine XS.iconst X884.here hx rfl (hb hby at_234) ?_
        show Steps p.tables e below (T884.setTop (mkF m 235 #[.val (.long x0), .second, .val (.long x1), .second, .val (.long x2), .second, .val (.long x3), .second, .val (.long pe), .second, .val (.int lens), .val (.ref b747), .val (.int l0), .val (.int off), .val (.int len), .val (.int vA), .val (.int vB), .val (.ref b763), .val (.ref b782), .val (.ref b806), .val (.int (0 : Int32)), .val (.int n1862), .val (.int l0), .val (.int len)] [(.int (0 : Int32)), (.ref b747), (.int l0), (.int l0), (.ref b763)])) _
        refine XS.lload X884.here hx rfl (hb hby at_235) rfl ?_
        refine st902 _ ?_
        refine XS.ifNo X902.here hx rfl (hb hby at_240) rfl ((if0 _ _).trans (feq (show ¬ ((1 : Int32) = (0 : Int32)) by decide)).1) ?_
        refine XS.aload X902.here hx rfl (hb hby at_243) rfl rfl ?_
        show Steps p.tables e below (T902.setTop (mkF m 245 #[.val (.long x0), .second, .val (.long x1), .second, .val (.long x2), .second, .val (.long x3), .second, .val (.long pe), .second, .val (.int lens), .val (.ref b747), .val (.int l0), .val (.int off), .val (.int len), .val (.int vA), .val (.int vB), .val (.ref b763), .val (.ref b782), .val (.ref b806), .val (.int (0 : Int32)), .val (.int n1862), .val (.int l0), .val (.int len)] [(.ref b782)])) _
        refine XS.iload X902.here hx rfl (hb hby at_245) rfl ?_
        refine XS.iload X902.here hx rfl (hb hby at_247) rfl ?_
        refine XS.aload X902.here hx rfl (hb hby at_249) rfl rfl ?_
        refine XS.iload X902.here hx rfl (hb hby at_251) rfl ?_
        show Steps p.tables e below (T902.setTop (mkF m 253 #[.val (.long x0), .second, .val (.long x1), .second, .val (.long x2), .second, .val (.long x3), .second, .val (.long pe), .second, .val (.int lens), .val (.ref b747), .val (.int l0), .val (.int off), .val (.int len), .val (.int vA), .val (.int vB), .val (.ref b763), .val (.ref b782), .val (.ref b806), .val (.int (0 : Int32)), .val (.int n1862), .val (.int l0), .val (.int len)] [(.int off), (.ref b747), (.int len), (.int len), (.ref b782)])) _
        refine XS.lload X902.here hx rfl (hb hby at_253) rfl ?_
        refine st903 _ ?_
        refine XS.ifNo X903.here hx rfl (hb hby at_258) rfl ((if0 _ _).trans (feq (show ¬ ((1 : Int32) = (0 : Int32)) by decide)).1) ?_
        refine XS.iconst X903.here hx rfl (hb hby at_261) ?_
        show Steps p.tables e below (T903.setTop (mkF m 262 #[.val (.long x0), .second, .val (.long x1), .second, .val (.long x2), .second, .val (.long x3), .second, .val (.long pe), .second, .val (.int lens), .val (.ref b747), .val (.int l0), .val (.int off), .val (.int len), .val (.int vA), .val (.int vB), .val (.ref b763), .val (.ref b782), .val (.ref b806), .val (.int (0 : Int32)), .val (.int n1862), .val (.int l0), .val (.int len)] [(.int (1 : Int32))])) _
        refine XS.goto X903.here hx rfl (pc0 := 262) (pc' := 266) rfl (hb hby at_262) (by decide) (by decide) ?_
        exact own_retZ X903 hx rfl Bd.returns (hb hby at_266) hr
      · show rm_law_Q Z x0 x1 x2 x3 pe lens h0 n0 _ T903.heap _
        rw [eh903]
        exact ⟨rfl, N903⟩
  · obtain ⟨cq904, kq904, q904a, q904b, q904c⟩ := isOf hZ rfl i810_0
    obtain ⟨_, _, ⟨T904, L904, k904, n904⟩, -, X904, ⟨Lc904, hQ904, l904, y904, z904⟩, st904⟩ := X810.virtualBack hx (y := (⟨"com/example/orbitfold/orbitfold/StateIndex", "append", "([JII)I"⟩ : MethodName)) (z := (⟨"com/example/orbitfold/orbitfold/StateIndex", "append", "([JII)I"⟩ : MethodName)) hown (mvT hZ (own_at hw 121 rfl)) (mvT hZ (own_at hw 122 rfl)) (notFace_of_selects (args := #[]) (mvT hZ (own_at hw 124 rfl))) (mvT hZ (own_at hw 124 rfl)) (mvT hZ (own_at hw 123 rfl)) (by decide) (backOf (W := 0) (rm_app1 l Z a0 hw [] b806 kA810 sA810 tA810 bs810 wA810 ck810 cs810 ct810 cw810 (List.replicate 2048 (.int (-1 : Int32))) (0 : Int32) (0 : Int32) (0 : Int64) b747 k747 x0 x1 x2 x3 l0 nd T810.heap n0 (Nat.le_trans Z0 KP810.1) OL810 ⟨i810_0, i810_1, i810_2, i810_3, i810_4, i810_5, i810_6, i810_7, i810_8, i810_9, i810_10, i810_11, i810_12, i810_13, i810_14⟩ ⟨nn810_0, nn810_1, nn810_2, nn810_3, nn810_4, nn810_5, nn810_6, nn810_7, nn810_8, nn810_9, nn810_10, nn810_11, nn810_12, nn810_13, nn810_14⟩ ⟨gn806, gn_kA810, gn_sA810, gn_tA810, gn_bs810, gn_wA810⟩ f811 ⟨ne_b747_b806, ne_b747_kA810, ne_b747_sA810, ne_b747_tA810, ne_b747_bs810, ne_b747_wA810⟩ hln S_A (Or.inl rfl) rfl rfl) hZ (own_at hw 125 rfl) (own_at hw 3 rfl) (by decide) (by decide)) q904a q904c (g := (mkF m 154 #[.val (.long x0), .second, .val (.long x1), .second, .val (.long x2), .second, .val (.long x3), .second, .val (.long pe), .second, .val (.int lens), .val (.ref b747), .val (.int l0), .val (.int off), .val (.int len), .val (.int vA), .val (.int vB), .val (.ref b763), .val (.ref b782), .val (.ref b806), .unset, .unset, .unset, .unset] [(.int l0), (.int (0 : Int32)), (.ref b747), (.ref b806)])) rfl (by rw [hml]; rfl) (Steps.refl _) (argsL := [(.ref b747), (.int (0 : Int32)), (.int l0)]) (rest := []) (lenOf own_pd9 rfl) rfl (by show 2 * 0 + _ ≤ _; exact Nat.le_of_eq rfl) (hb hby at_154) (fun _ _ => ⟨rfl, rfl, (by decide : 9 + 1 ≤ _), (by decide : 3094 + 3072 ≤ _)⟩)
    dsimp only [Pt.U, Pt.locs, Pt.cells, Pt.slots] at X904 l904 y904 z904 st904 hQ904
    subst l904 y904 z904
    obtain ⟨kB904, cB904, tq904, se904, wi904, wq904, rfl, Nq904, K904, le904, D904, NE904, hT904, hwi904, hse904⟩ := hQ904
    have N904 := Fr.app N810 Nq904
    have ne_b747_kB904 : b747 ≠ kB904 := own_ne_le f811.lt le904
    have ne_b763_kB904 : b763 ≠ kB904 := own_ne_le f812.lt le904
    have ne_b782_kB904 : b782 ≠ kB904 := own_ne_le f813.lt le904
    have ne_b806_kB904 : b806 ≠ kB904 := own_ne_le i810_0.lt le904
    have ne_bs810_kB904 : bs810 ≠ kB904 := own_ne_le i810_7.lt le904
    have ne_kA810_kB904 : kA810 ≠ kB904 := own_ne_le i810_11.lt le904
    have ne_sA810_kB904 : sA810 ≠ kB904 := own_ne_le i810_12.lt le904
    have ne_tA810_kB904 : tA810 ≠ kB904 := own_ne_le i810_13.lt le904
    have ne_wA810_kB904 : wA810 ≠ kB904 := own_ne_le i810_14.lt le904
    have sz_kB904 : h0.size ≤ kB904 := Nat.le_trans KP810.1 le904
    have gn_kB904 : n0 ≤ kB904 := Nat.le_trans Z0 sz_kB904
    obtain ⟨i904_0, i904_1, i904_2, i904_3, i904_4, i904_5, i904_6, i904_7, i904_8, i904_9, i904_10, i904_11, i904_12, i904_13, i904_14⟩ := id D904
    have f905 := f811.keep K904 (by simp [ne_b747_b806, ne_b747_sA810, ne_b747_tA810, ne_b747_bs810, ne_b747_wA810])
    have f906 := f812.keep K904 (by simp [ne_b763_b806, ne_b763_sA810, ne_b763_tA810, ne_b763_bs810, ne_b763_wA810])
    have f907 := f813.keep K904 (by simp [ne_b782_b806, ne_b782_sA810, ne_b782_tA810, ne_b782_bs810, ne_b782_wA810])
    have OL904 := OL810.keep K904 (fun x hx => by
      simp only [List.mem_cons, List.not_mem_nil, or_false] at hx
      rcases hx with rfl | rfl | rfl | rfl | rfl
      · exact gn806
      · exact gn_sA810
      · exact gn_tA810
      · exact gn_bs810
      · exact gn_wA810)
    have KP904 : Keep h0 T904.heap [] := KP810.trans K904 (fun x hx => by
      simp only [List.mem_cons, List.not_mem_nil, or_false] at hx
      rcases hx with rfl | rfl | rfl | rfl | rfl
      · exact Or.inr sz806
      · exact Or.inr sz_sA810
      · exact Or.inr sz_tA810
      · exact Or.inr sz_bs810
      · exact Or.inr sz_wA810)
    have stP908 : ∀ target, Steps p.tables e below (T904.setTop (mkF m 174 #[.val (.long x0), .second, .val (.long x1), .second, .val (.long x2), .second, .val (.long x3), .second, .val (.long pe), .second, .val (.int lens), .val (.ref b747), .val (.int l0), .val (.int off), .val (.int len), .val (.int vA), .val (.int vB), .val (.ref b763), .val (.ref b782), .val (.ref b806), .val (.int (0 : Int32)), .unset, .unset, .unset] [(.int vB)])) target → Steps p.tables e below (s₁.setTop (mkF m 0 #[.val (.long x0), .second, .val (.long x1), .second, .val (.long x2), .second, .val (.long x3), .second, .val (.long pe), .second, .val (.int lens), .unset, .unset, .unset, .unset, .unset, .unset, .unset, .unset, .unset, .unset, .unset, .unset, .unset] [])) target := by
      intro target k₀
      show Steps p.tables e below (s₁.setTop (mkF m 0 #[.val (.long x0), .second, .val (.long x1), .second, .val (.long x2), .second, .val (.long x3), .second, .val (.long pe), .second, .val (.int lens), .unset, .unset, .unset, .unset, .unset, .unset, .unset, .unset, .unset, .unset, .unset, .unset, .unset] [])) _
      refine stP814 _ ?_
      refine XS.ifNo X810.here hx rfl (hb hby at_144) rfl ((if0 _ _).trans (feq qa).1) ?_
      refine XS.aload X810.here hx rfl (hb hby at_147) rfl rfl ?_
      refine XS.aload X810.here hx rfl (hb hby at_149) rfl rfl ?_
      show Steps p.tables e below (T810.setTop (mkF m 151 #[.val (.long x0), .second, .val (.long x1), .second, .val (.long x2), .second, .val (.long x3), .second, .val (.long pe), .second, .val (.int lens), .val (.ref b747), .val (.int l0), .val (.int off), .val (.int len), .val (.int vA), .val (.int vB), .val (.ref b763), .val (.ref b782), .val (.ref b806), .unset, .unset, .unset, .unset] [(.ref b747), (.ref b806)])) _
      refine XS.iconst X810.here hx rfl (hb hby at_151) ?_
      refine XS.iload X810.here hx rfl (hb hby at_152) rfl ?_
      refine st904.trans ?_
      refine XS.goto X904.here hx rfl (pc0 := 157) (pc' := 170) rfl (hb hby at_157) (by decide) (by decide) ?_
      show Steps p.tables e below (T904.setTop (mkF m 170 #[.val (.long x0), .second, .val (.long x1), .second, .val (.long x2), .second, .val (.long x3), .second, .val (.long pe), .second, .val (.int lens), .val (.ref b747), .val (.int l0), .val (.int off), .val (.int len), .val (.int vA), .val (.int vB), .val (.ref b763), .val (.ref b782), .val (.ref b806), .unset, .unset, .unset, .unset] [(.int (0 : Int32))])) _
      refine XS.istore X904.here hx rfl (hb hby at_170) rfl (l' := #[.val (.long x0), .second, .val (.long x1), .second, .val (.long x2), .second, .val (.long x3), .second, .val (.long pe), .second, .val (.int lens), .val (.ref b747), .val (.int l0), .val (.int off), .val (.int len), .val (.int vA), .val (.int vB), .val (.ref b763), .val (.ref b782), .val (.ref b806), .val (.int (0 : Int32)), .unset, .unset, .unset]) rfl ?_
      refine XS.iload X904.here hx rfl (hb hby at_172) rfl ?_
      exact k₀
    by_cases qb : vB = (0 : Int32)
    · obtain ⟨cq909, kq909, q909a, q909b, q909c⟩ := isOf hZ rfl i904_0
      obtain ⟨_, _, ⟨T909, L909, k909, n909⟩, -, X909, ⟨Lc909, hQ909, l909, y909, z909⟩, st909⟩ := X904.virtualBack hx (y := (⟨"com/example/orbitfold/orbitfold/StateIndex", "indexOf", "([JII)I"⟩ : MethodName)) (z := (⟨"com/example/orbitfold/orbitfold/StateIndex", "indexOf", "([JII)I"⟩ : MethodName)) hown (mvT hZ (own_at hw 47 rfl)) (mvT hZ (own_at hw 48 rfl)) (notFace_of_selects (args := #[]) (mvT hZ (own_at hw 50 rfl))) (mvT hZ (own_at hw 50 rfl)) (mvT hZ (own_at hw 49 rfl)) (by decide) (backOf (W := 0) (rm_ix2 l Z a0 hw [] b806 kB904 sA810 tA810 bs810 wA810 cB904 cs810 ct810 cw810 (own_cp (List.replicate nd.toNatClampNeg (.long (0 : Int64))) [.long x0, .long x1, .long x2, .long x3] (0 : Int32).toNatClampNeg (0 : Int32).toNatClampNeg l0.toNatClampNeg) (List.set (List.replicate 1024 (.int (0 : Int32))) ((0 : Int32) + (1 : Int32)).toNatClampNeg (.int l0)) tq904 se904 wi904 wq904 b747 k747 x0 x1 x2 x3 l0 nd off len T904.heap n0 (Nat.le_trans Z0 KP904.1) OL904 ⟨i904_0, i904_1, i904_2, i904_3, i904_4, i904_5, i904_6, i904_7, i904_8, i904_9, i904_10, i904_11, i904_12, i904_13, i904_14⟩ ⟨ne_b806_kB904, nn810_1, nn810_2, nn810_3, nn810_4, (Ne.symm ne_sA810_kB904), (Ne.symm ne_tA810_kB904), (Ne.symm ne_bs810_kB904), (Ne.symm ne_wA810_kB904), nn810_9, nn810_10, nn810_11, nn810_12, nn810_13, nn810_14⟩ ⟨gn806, gn_kB904, gn_sA810, gn_tA810, gn_bs810, gn_wA810⟩ f905 ⟨ne_b747_b806, ne_b747_kB904, ne_b747_sA810, ne_b747_tA810, ne_b747_bs810, ne_b747_wA810⟩ (own_base1 hln x0 x1 x2 x3) hln hol hwi904 hT904 hse904) hZ (own_at hw 51 rfl) (own_at hw 3 rfl) (by decide) (by decide)) q909a q909c (g := (mkF m 199 #[.val (.long x0), .second, .val (.long x1), .second, .val (.long x2), .second, .val (.long x3), .second, .val (.long pe), .second, .val (.int lens), .val (.ref b747), .val (.int l0), .val (.int off), .val (.int len), .val (.int vA), .val (.int vB), .val (.ref b763), .val (.ref b782), .val (.ref b806), .val (.int (0 : Int32)), .unset, .unset, .unset] [(.int len), (.int off), (.ref b747), (.ref b806)])) rfl (by rw [hml]; rfl) (Steps.refl _) (argsL := [(.ref b747), (.int off), (.int len)]) (rest := []) (lenOf own_pd9 rfl) rfl (by show 2 * 0 + _ ≤ _; exact Nat.le_of_eq rfl) (hb hby at_199) (fun _ _ => ⟨rfl, rfl, (by decide : 10 + 0 ≤ _), (by decide : 6166 + 0 ≤ _)⟩)
      dsimp only [Pt.U, Pt.locs, Pt.cells, Pt.slots] at X909 l909 y909 z909 st909 hQ909
      subst l909 y909 z909
      obtain ⟨n1909, s1909, kq909, sq909, tq909, zq909, se909, wi909, wq909, rfl, Nq909, K909, D909, BA909, HA909⟩ := hQ909
      have N909 := Fr.app N904 Nq909
      obtain ⟨i909_0, i909_1, i909_2, i909_3, i909_4, i909_5, i909_6, i909_7, i909_8, i909_9, i909_10, i909_11, i909_12, i909_13, i909_14⟩ := id D909
      have f910 := f905.keep K909 (by simp [ne_b747_b806, ne_b747_kB904, ne_b747_sA810, ne_b747_tA810, ne_b747_bs810, ne_b747_wA810])
      have f911 := f906.keep K909 (by simp [ne_b763_b806, ne_b763_kB904, ne_b763_sA810, ne_b763_tA810, ne_b763_bs810, ne_b763_wA810])
      have f912 := f907.keep K909 (by simp [ne_b782_b806, ne_b782_kB904, ne_b782_sA810, ne_b782_tA810, ne_b782_bs810, ne_b782_wA810])
      have OL909 := OL904.keep K909 (fun x hx => by
        simp only [List.mem_cons, List.not_mem_nil, or_false] at hx
        rcases hx with rfl | rfl | rfl | rfl | rfl | rfl
        · exact gn806
        · exact gn_kB904
        · exact gn_sA810
        · exact gn_tA810
        · exact gn_bs810
        · exact gn_wA810)
      have KP909 : Keep h0 T909.heap [] := KP904.trans K909 (fun x hx => by
        simp only [List.mem_cons, List.not_mem_nil, or_false] at hx
        rcases hx with rfl | rfl | rfl | rfl | rfl | rfl
        · exact Or.inr sz806
        · exact Or.inr sz_kB904
        · exact Or.inr sz_sA810
        · exact Or.inr sz_tA810
        · exact Or.inr sz_bs810
        · exact Or.inr sz_wA810)
      obtain ⟨hkl909, hsl909, hs0909, hs1909, hk0909, hk1909, hk2909⟩ := id BA909
      obtain ⟨a1909, a2909, a3909, a4909, a5909, a6909⟩ := id HA909
      obtain ⟨cq913, kq913, q913a, q913b, q913c⟩ := isOf hZ rfl i909_0
      obtain ⟨_, _, ⟨T913, L913, k913, n913⟩, -, X913, ⟨Lc913, hQ913, l913, y913, z913⟩, st913⟩ := X909.virtualBack hx (y := (⟨"com/example/orbitfold/orbitfold/StateIndex", "copy", "(I[J)I"⟩ : MethodName)) (z := (⟨"com/example/orbitfold/orbitfold/StateIndex", "copy", "(I[J)I"⟩ : MethodName)) hown (mvT hZ (own_at hw 112 rfl)) (mvT hZ (own_at hw 113 rfl)) (notFace_of_selects (args := #[]) (mvT hZ (own_at hw 115 rfl))) (mvT hZ (own_at hw 115 rfl)) (mvT hZ (own_at hw 114 rfl)) (by decide) (backOf (W := 0) (rm_copy l Z a0 hw [] b806 kB904 sA810 cB904 cs810 kq909 sq909 b763 k763 pe (0 : Int32) (0 : Int32) l0 x0 x1 x2 nd T909.heap n0 (Nat.le_trans Z0 KP909.1) OL909 i909_1 i909_2 i909_11 i909_12 f911 (Ne.symm ne_b763_b806) (Ne.symm ne_b763_kB904) (Ne.symm ne_b763_sA810) gn763 hkl909 (own_hnd hln) hsl909 (Or.inl rfl) (Or.inl rfl) (own_l123 hln) hs0909 (by rw [own_add0 l0]; exact hs1909) hk0909 hk1909 hk2909) hZ (own_at hw 116 rfl) (own_at hw 3 rfl) (by decide) (by decide)) q913a q913c (g := (mkF m 210 #[.val (.long x0), .second, .val (.long x1), .second, .val (.long x2), .second, .val (.long x3), .second, .val (.long pe), .second, .val (.int lens), .val (.ref b747), .val (.int l0), .val (.int off), .val (.int len), .val (.int vA), .val (.int vB), .val (.ref b763), .val (.ref b782), .val (.ref b806), .val (.int (0 : Int32)), .val (.int n1909), .unset, .unset] [(.ref b763), (.int (0 : Int32)), (.ref b806)])) rfl (by rw [hml]; rfl) (Steps.refl _) (argsL := [(.int (0 : Int32)), (.ref b763)]) (rest := []) (lenOf own_pd12 rfl) rfl (by show 2 * 0 + _ ≤ _; exact Nat.le_of_eq rfl) (hb hby at_210) (fun _ _ => ⟨rfl, rfl, (by decide : 10 + 0 ≤ _), (by decide : 6166 + 0 ≤ _)⟩)
      dsimp only [Pt.U, Pt.locs, Pt.cells, Pt.slots] at X913 l913 y913 z913 st913 hQ913
      subst l913 y913 z913
      obtain ⟨rfl, Nq913, K913, c913_0⟩ := hQ913
      have N913 := Fr.app N909 Nq913
      have f914 := f910.keep K913 (by simp [ne_b747_b763])
      have f915 := f912.keep K913 (by simp [(Ne.symm ne_b763_b782)])
      have f916 := i909_0.keep K913
      have f917 := i909_1.keep K913 (by simp [(Ne.symm ne_b763_b806)])
      have f918 := i909_2.keep K913 (by simp [(Ne.symm ne_b763_b806)])
      have f919 := i909_3.keep K913 (by simp [(Ne.symm ne_b763_b806)])
      have f920 := i909_4.keep K913 (by simp [(Ne.symm ne_b763_b806)])
      have f921 := i909_5.keep K913 (by simp [(Ne.symm ne_b763_b806)])
      have f922 := i909_6.keep K913 (by simp [(Ne.symm ne_b763_b806)])
      have f923 := i909_7.keep K913
      have f924 := i909_8.keep K913 (by simp [(Ne.symm ne_b763_bs810)])
      have f925 := i909_9.keep K913 (by simp [(Ne.symm ne_b763_bs810)])
      have f926 := i909_10.keep K913 (by simp [(Ne.symm ne_b763_bs810)])
      have f927 := i909_11.keep K913 (by simp [(Ne.symm ne_b763_kB904)])
      have f928 := i909_12.keep K913 (by simp [(Ne.symm ne_b763_sA810)])
      have f929 := i909_13.keep K913 (by simp [(Ne.symm ne_b763_tA810)])
      have f930 := i909_14.keep K913 (by simp [(Ne.symm ne_b763_wA810)])
      have OL913 := OL909.keep K913 (fun x hx => by
        simp only [List.mem_cons, List.not_mem_nil, or_false] at hx
        rcases hx with rfl
        · exact gn763)
      have KP913 : Keep h0 T913.heap [] := KP909.trans K913 (fun x hx => by
        simp only [List.mem_cons, List.not_mem_nil, or_false] at hx
        rcases hx with rfl
        · exact Or.inr sz763)
      obtain ⟨cq931, kq931, q931a, q931b, q931c⟩ := isOf hZ rfl f916
      obtain ⟨_, _, ⟨T931, L931, k931, n931⟩, -, X931, ⟨Lc931, hQ931, l931, y931, z931⟩, st931⟩ := X913.virtualBack hx (y := (⟨"com/example/orbitfold/orbitfold/StateIndex", "copy", "(I[J)I"⟩ : MethodName)) (z := (⟨"com/example/orbitfold/orbitfold/StateIndex", "copy", "(I[J)I"⟩ : MethodName)) hown (mvT hZ (own_at hw 112 rfl)) (mvT hZ (own_at hw 113 rfl)) (notFace_of_selects (args := #[]) (mvT hZ (own_at hw 115 rfl))) (mvT hZ (own_at hw 115 rfl)) (mvT hZ (own_at hw 114 rfl)) (by decide) (backOf (W := 0) (rm_copy l Z a0 hw [] b806 kB904 sA810 cB904 cs810 kq909 sq909 b782 k782 pe n1909 s1909 len (own_x x0 x1 x2 x3 off) (own_x x0 x1 x2 x3 (off + (1 : Int32))) (own_x x0 x1 x2 x3 (off + (2 : Int32))) nd T913.heap n0 (Nat.le_trans Z0 KP913.1) OL913 f917 f918 f927 f928 f915 (Ne.symm ne_b782_b806) (Ne.symm ne_b782_kB904) (Ne.symm ne_b782_sA810) gn782 hkl909 (own_hnd hln) hsl909 a1909 a2909 ((own_len12 hol).elim Or.inl (fun z => Or.inr (Or.inl z))) a3909 a4909 (by rw [own_addz s1909]; exact a5909) (fun z => a6909 ((own_len12 hol).elim (fun y => absurd y z) id)) (fun z => absurd z ((own_len12 hol).elim (fun y => by rw [y]; decide) (fun y => by rw [y]; decide)))) hZ (own_at hw 116 rfl) (own_at hw 3 rfl) (by decide) (by decide)) q931a q931c (g := (mkF m 221 #[.val (.long x0), .second, .val (.long x1), .second, .val (.long x2), .second, .val (.long x3), .second, .val (.long pe), .second, .val (.int lens), .val (.ref b747), .val (.int l0), .val (.int off), .val (.int len), .val (.int vA), .val (.int vB), .val (.ref b763), .val (.ref b782), .val (.ref b806), .val (.int (0 : Int32)), .val (.int n1909), .val (.int l0), .unset] [(.ref b782), (.int n1909), (.ref b806)])) rfl (by rw [hml]; rfl) (Steps.refl _) (argsL := [(.int n1909), (.ref b782)]) (rest := []) (lenOf own_pd12 rfl) rfl (by show 2 * 0 + _ ≤ _; exact Nat.le_of_eq rfl) (hb hby at_221) (fun _ _ => ⟨rfl, rfl, (by decide : 10 + 0 ≤ _), (by decide : 6166 + 0 ≤ _)⟩)
      dsimp only [Pt.U, Pt.locs, Pt.cells, Pt.slots] at X931 l931 y931 z931 st931 hQ931
      subst l931 y931 z931
      obtain ⟨rfl, Nq931, K931, c931_0⟩ := hQ931
      have N931 := Fr.app N913 Nq931
      have f932 := f914.keep K931 (by simp [ne_b747_b782])
      have f933 := f916.keep K931
      have f934 := f917.keep K931 (by simp [(Ne.symm ne_b782_b806)])
      have f935 := f918.keep K931 (by simp [(Ne.symm ne_b782_b806)])
      have f936 := f919.keep K931 (by simp [(Ne.symm ne_b782_b806)])
      have f937 := f920.keep K931 (by simp [(Ne.symm ne_b782_b806)])
      have f938 := f921.keep K931 (by simp [(Ne.symm ne_b782_b806)])
      have f939 := f922.keep K931 (by simp [(Ne.symm ne_b782_b806)])
      have f940 := f923.keep K931
      have f941 := f924.keep K931 (by simp [(Ne.symm ne_b782_bs810)])
      have f942 := f925.keep K931 (by simp [(Ne.symm ne_b782_bs810)])
      have f943 := f926.keep K931 (by simp [(Ne.symm ne_b782_bs810)])
      have f944 := f927.keep K931 (by simp [(Ne.symm ne_b782_kB904)])
      have f945 := f928.keep K931 (by simp [(Ne.symm ne_b782_sA810)])
      have f946 := f929.keep K931 (by simp [(Ne.symm ne_b782_tA810)])
      have f947 := f930.keep K931 (by simp [(Ne.symm ne_b782_wA810)])
      have f948 := c913_0.keep K931 (by simp [ne_b763_b782])
      have OL931 := OL913.keep K931 (fun x hx => by
        simp only [List.mem_cons, List.not_mem_nil, or_false] at hx
        rcases hx with rfl
        · exact gn782)
      have KP931 : Keep h0 T931.heap [] := KP913.trans K931 (fun x hx => by
        simp only [List.mem_cons, List.not_mem_nil, or_false] at hx
        rcases hx with rfl
        · exact Or.inr sz782)
      obtain ⟨_, _, ⟨T949, L949, k949, n949⟩, -, X949, ⟨Lc949, hQ949, l949, y949, z949⟩, st949⟩ := Jvm.LawKit.callS X931 hx (y := (⟨"com/example/orbitfold/orbitfold/StateIndexCopyPinLaw", "check", "([JII[JIJ)Z"⟩ : MethodName)) hown (mvT hZ (own_at hw 117 rfl)) (mvT hZ (own_at hw 118 rfl)) (mvT hZ (own_at hw 119 rfl)) (mvT hZ (own_at hw 120 rfl)) (by decide) (backOf (W := 0) (rm_check l Z a0 hw [] b763 k763 l0 (0 : Int32) pe b747 k747 x0 x1 x2 x3 T931.heap n0 (Nat.le_trans Z0 KP931.1) f948 f932 (own_hol5 hln)) hZ (own_at hw 120 rfl) (own_at hw 119 rfl) (by decide) (by decide)) (g := (mkF m 237 #[.val (.long x0), .second, .val (.long x1), .second, .val (.long x2), .second, .val (.long x3), .second, .val (.long pe), .second, .val (.int lens), .val (.ref b747), .val (.int l0), .val (.int off), .val (.int len), .val (.int vA), .val (.int vB), .val (.ref b763), .val (.ref b782), .val (.ref b806), .val (.int (0 : Int32)), .val (.int n1909), .val (.int l0), .val (.int len)] [(.long pe), (.int (0 : Int32)), (.ref b747), (.int l0), (.int l0), (.ref b763)])) rfl (by rw [hml]; rfl) (argsL := [(.ref b763), (.int l0), (.int l0), (.ref b747), (.int (0 : Int32)), (.long pe)]) (rest := []) (lenOf own_pd13 rfl) rfl (by show 2 * 0 + _ ≤ _; exact Nat.le_of_eq rfl) (hb hby at_237) (fun _ _ => ⟨rfl, rfl, (by decide : 10 + 0 ≤ _), (by decide : 6166 + 0 ≤ _)⟩)
      dsimp only [Pt.U, Pt.locs, Pt.cells, Pt.slots] at X949 l949 y949 z949 st949 hQ949
      subst l949 y949 z949
      obtain ⟨rfl, Nq949, eh949⟩ := hQ949
      have N949 := Fr.app N931 Nq949
      obtain ⟨_, _, ⟨T950, L950, k950, n950⟩, -, X950, ⟨Lc950, hQ950, l950, y950, z950⟩, st950⟩ := Jvm.LawKit.callS X949 hx (y := (⟨"com/example/orbitfold/orbitfold/StateIndexCopyPinLaw", "check", "([JII[JIJ)Z"⟩ : MethodName)) hown (mvT hZ (own_at hw 117 rfl)) (mvT hZ (own_at hw 118 rfl)) (mvT hZ (own_at hw 119 rfl)) (mvT hZ (own_at hw 120 rfl)) (by decide) (backOf (W := 0) (rm_check l Z a0 hw [] b782 k782 len off pe b747 k747 x0 x1 x2 x3 T931.heap n0 (Nat.le_trans Z0 KP931.1) c931_0 f932 (own_hol45 hol)) hZ (own_at hw 120 rfl) (own_at hw 119 rfl) (by decide) (by decide)) (g := (mkF m 255 #[.val (.long x0), .second, .val (.long x1), .second, .val (.long x2), .second, .val (.long x3), .second, .val (.long pe), .second, .val (.int lens), .val (.ref b747), .val (.int l0), .val (.int off), .val (.int len), .val (.int vA), .val (.int vB), .val (.ref b763), .val (.ref b782), .val (.ref b806), .val (.int (0 : Int32)), .val (.int n1909), .val (.int l0), .val (.int len)] [(.long pe), (.int off), (.ref b747), (.int len), (.int len), (.ref b782)])) rfl (by rw [hml]; rfl) (argsL := [(.ref b782), (.int len), (.int len), (.ref b747), (.int off), (.long pe)]) (rest := []) (lenOf own_pd13 rfl) rfl (by show 2 * 0 + _ ≤ _; exact Nat.le_of_eq rfl) (hb hby at_255) (fun _ _ => ⟨rfl, eh949, (by decide : 10 + 0 ≤ _), (by decide : 6166 + 0 ≤ _)⟩)
      dsimp only [Pt.U, Pt.locs, Pt.cells, Pt.slots] at X950 l950 y950 z950 st950 hQ950
      subst l950 y950 z950
      obtain ⟨rfl, Nq950, eh950⟩ := hQ950
      have N950 := Fr.app N949 Nq950
      obtain ⟨fs, hr, hrun, hended, hW, hsame⟩ := X950.leave (v := some (.int (1 : Int32))) (fun h => by rw [Bd.returns] at h; cases h)
      refine ⟨_, _, pre0 _ ?_, hrun, hended, _, _, rfl, ?_, ⟨_, rfl⟩, hW, hsame.mono (by decide) (by decide)⟩
      · show Steps p.tables e below (s₁.setTop (mkF m 0 #[.val (.long x0), .second, .val (.long x1), .second, .val (.long x2), .second, .val (.long x3), .second, .val (.long pe), .second, .val (.int lens), .unset, .unset, .unset, .unset, .unset, .unset, .unset, .unset, .unset, .unset, .unset, .unset, .unset] [])) _
        refine stP908 _ ?_
        refine XS.ifYes X904.here hx rfl (pc0 := 174) (pc' := 191) rfl (hb hby at_174) rfl ((if0 _ _).trans (teq qb).1) (by decide) (by decide) ?_
        refine XS.aload X904.here hx rfl (hb hby at_191) rfl rfl ?_
        refine XS.aload X904.here hx rfl (hb hby at_193) rfl rfl ?_
        show Steps p.tables e below (T904.setTop (mkF m 195 #[.val (.long x0), .second, .val (.long x1), .second, .val (.long x2), .second, .val (.long x3), .second, .val (.long pe), .second, .val (.int lens), .val (.ref b747), .val (.int l0), .val (.int off), .val (.int len), .val (.int vA), .val (.int vB), .val (.ref b763), .val (.ref b782), .val (.ref b806), .val (.int (0 : Int32)), .unset, .unset, .unset] [(.ref b747), (.ref b806)])) _
        refine XS.iload X904.here hx rfl (hb hby at_195) rfl ?_
        refine XS.iload X904.here hx rfl (hb hby at_197) rfl ?_
        refine st909.trans ?_
        refine XS.istore X909.here hx rfl (hb hby at_202) rfl (l' := #[.val (.long x0), .second, .val (.long x1), .second, .val (.long x2), .second, .val (.long x3), .second, .val (.long pe), .second, .val (.int lens), .val (.ref b747), .val (.int l0), .val (.int off), .val (.int len), .val (.int vA), .val (.int vB), .val (.ref b763), .val (.ref b782), .val (.ref b806), .val (.int (0 : Int32)), .val (.int n1909), .unset, .unset]) rfl ?_
        show Steps p.tables e below (T909.setTop (mkF m 204 #[.val (.long x0), .second, .val (.long x1), .second, .val (.long x2), .second, .val (.long x3), .second, .val (.long pe), .second, .val (.int lens), .val (.ref b747), .val (.int l0), .val (.int off), .val (.int len), .val (.int vA), .val (.int vB), .val (.ref b763), .val (.ref b782), .val (.ref b806), .val (.int (0 : Int32)), .val (.int n1909), .unset, .unset] [])) _
        refine XS.aload X909.here hx rfl (hb hby at_204) rfl rfl ?_
        refine XS.iload X909.here hx rfl (hb hby at_206) rfl ?_
        refine XS.aload X909.here hx rfl (hb hby at_208) rfl rfl ?_
        refine st913.trans ?_
        show Steps p.tables e below (T913.setTop (mkF m 213 #[.val (.long x0), .second, .val (.long x1), .second, .val (.long x2), .second, .val (.long x3), .second, .val (.long pe), .second, .val (.int lens), .val (.ref b747), .val (.int l0), .val (.int off), .val (.int len), .val (.int vA), .val (.int vB), .val (.ref b763), .val (.ref b782), .val (.ref b806), .val (.int (0 : Int32)), .val (.int n1909), .unset, .unset] [(.int l0)])) _
        refine XS.istore X913.here hx rfl (hb hby at_213) rfl (l' := #[.val (.long x0), .second, .val (.long x1), .second, .val (.long x2), .second, .val (.long x3), .second, .val (.long pe), .second, .val (.int lens), .val (.ref b747), .val (.int l0), .val (.int off), .val (.int len), .val (.int vA), .val (.int vB), .val (.ref b763), .val (.ref b782), .val (.ref b806), .val (.int (0 : Int32)), .val (.int n1909), .val (.int l0), .unset]) rfl ?_
        refine XS.aload X913.here hx rfl (hb hby at_215) rfl rfl ?_
        refine XS.iload X913.here hx rfl (hb hby at_217) rfl ?_
        refine XS.aload X913.here hx rfl (hb hby at_219) rfl rfl ?_
        show Steps p.tables e below (T913.setTop (mkF m 221 #[.val (.long x0), .second, .val (.long x1), .second, .val (.long x2), .second, .val (.long x3), .second, .val (.long pe), .second, .val (.int lens), .val (.ref b747), .val (.int l0), .val (.int off), .val (.int len), .val (.int vA), .val (.int vB), .val (.ref b763), .val (.ref b782), .val (.ref b806), .val (.int (0 : Int32)), .val (.int n1909), .val (.int l0), .unset] [(.ref b782), (.int n1909), (.ref b806)])) _
        refine st931.trans ?_
        refine XS.istore X931.here hx rfl (hb hby at_224) rfl (l' := #[.val (.long x0), .second, .val (.long x1), .second, .val (.long x2), .second, .val (.long x3), .second, .val (.long pe), .second, .val (.int lens), .val (.ref b747), .val (.int l0), .val (.int off), .val (.int len), .val (.int vA), .val (.int vB), .val (.ref b763), .val (.ref b782), .val (.ref b806), .val (.int (0 : Int32)), .val (.int n1909), .val (.int l0), .val (.int len)]) rfl ?_
        refine XS.aload X931.here hx rfl (hb hby at_226) rfl rfl ?_
        refine XS.iload X931.here hx rfl (hb hby at_228) rfl ?_
        show Steps p.tables e below (T931.setTop (mkF m 230 #[.val (.long x0), .second, .val (.long x1), .second, .val (.long x2), .second, .val (.long x3), .second, .val (.long pe), .second, .val (.int lens), .val (.ref b747), .val (.int l0), .val (.int off), .val (.int len), .val (.int vA), .val (.int vB), .val (.ref b763), .val (.ref b782), .val (.ref b806), .val (.int (0 : Int32)), .val (.int n1909), .val (.int l0), .val (.int len)] [(.int l0), (.ref b763)])) _
        refine XS.iload X931.here hx rfl (hb hby at_230) rfl ?_
        refine XS.aload X931.here hx rfl (hb hby at_232) rfl rfl ?_
        refine XS.iconst X931.here hx rfl (hb hby at_234) ?_
        refine XS.lload X931.here hx rfl (hb hby at_235) rfl ?_
        show Steps p.tables e below (T931.setTop (mkF m 237 #[.val (.long x0), .second, .val (.long x1), .second, .val (.long x2), .second, .val (.long x3), .second, .val (.long pe), .second, .val (.int lens), .val (.ref b747), .val (.int l0), .val (.int off), .val (.int len), .val (.int vA), .val (.int vB), .val (.ref b763), .val (.ref b782), .val (.ref b806), .val (.int (0 : Int32)), .val (.int n1909), .val (.int l0), .val (.int len)] [(.long pe), (.int (0 : Int32)), (.ref b747), (.int l0), (.int l0), (.ref b763)])) _
        refine st949 _ ?_
        refine XS.ifNo X949.here hx rfl (hb hby at_240) rfl ((if0 _ _).trans (feq (show ¬ ((1 : Int32) = (0 : Int32)) by decide)).1) ?_
        refine XS.aload X949.here hx rfl (hb hby at_243) rfl rfl ?_
        refine XS.iload X949.here hx rfl (hb hby at_245) rfl ?_
        show Steps p.tables e below (T949.setTop (mkF m 247 #[.val (.long x0), .second, .val (.long x1), .second, .val (.long x2), .second, .val (.long x3), .second, .val (.long pe), .second, .val (.int lens), .val (.ref b747), .val (.int l0), .val (.int off), .val (.int len), .val (.int vA), .val (.int vB), .val (.ref b763), .val (.ref b782), .val (.ref b806), .val (.int (0 : Int32)), .val (.int n1909), .val (.int l0), .val (.int len)] [(.int len), (.ref b782)])) _
        refine XS.iload X949.here hx rfl (hb hby at_247) rfl ?_
        refine XS.aload X949.here hx rfl (hb hby at_249) rfl rfl ?_
        refine XS.iload X949.here hx rfl (hb hby at_251) rfl ?_
        refine XS.lload X949.here hx rfl (hb hby at_253) rfl ?_
        show Steps p.tables e below (T949.setTop (mkF m 255 #[.val (.long x0), .second, .val (.long x1), .second, .val (.long x2), .second, .val (.long x3), .second, .val (.long pe), .second, .val (.int lens), .val (.ref b747), .val (.int l0), .val (.int off), .val (.int len), .val (.int vA), .val (.int vB), .val (.ref b763), .val (.ref b782), .val (.ref b806), .val (.int (0 : Int32)), .val (.int n1909), .val (.int l0), .val (.int len)] [(.long pe), (.int off), (.ref b747), (.int len), (.int len), (.ref b782)])) _
        refine st950 _ ?_
        refine XS.ifNo X950.here hx rfl (hb hby at_258) rfl ((if0 _ _).trans (feq (show ¬ ((1 : Int32) = (0 : Int32)) by decide)).1) ?_
        refine XS.iconst X950.here hx rfl (hb hby at_261) ?_
        refine XS.goto X950.here hx rfl (pc0 := 262) (pc' := 266) rfl (hb hby at_262) (by decide) (by decide) ?_
        show Steps p.tables e below (T950.setTop (mkF m 266 #[.val (.long x0), .second, .val (.long x1), .second, .val (.long x2), .second, .val (.long x3), .second, .val (.long pe), .second, .val (.int lens), .val (.ref b747), .val (.int l0), .val (.int off), .val (.int len), .val (.int vA), .val (.int vB), .val (.ref b763), .val (.ref b782), .val (.ref b806), .val (.int (0 : Int32)), .val (.int n1909), .val (.int l0), .val (.int len)] [(.int (1 : Int32))])) _
        exact own_retZ X950 hx rfl Bd.returns (hb hby at_266) hr
      · show rm_law_Q Z x0 x1 x2 x3 pe lens h0 n0 _ T950.heap _
        rw [eh950]
        exact ⟨rfl, N950⟩
    · obtain ⟨cq951, kq951, q951a, q951b, q951c⟩ := isOf hZ rfl i904_0
      obtain ⟨_, _, ⟨T951, L951, k951, n951⟩, -, X951, ⟨Lc951, hQ951, l951, y951, z951⟩, st951⟩ := X904.virtualBack hx (y := (⟨"com/example/orbitfold/orbitfold/StateIndex", "append", "([JII)I"⟩ : MethodName)) (z := (⟨"com/example/orbitfold/orbitfold/StateIndex", "append", "([JII)I"⟩ : MethodName)) hown (mvT hZ (own_at hw 121 rfl)) (mvT hZ (own_at hw 122 rfl)) (notFace_of_selects (args := #[]) (mvT hZ (own_at hw 124 rfl))) (mvT hZ (own_at hw 124 rfl)) (mvT hZ (own_at hw 123 rfl)) (by decide) (backOf (W := 0) (rm_app2 l Z a0 hw [] b806 kB904 sA810 tA810 bs810 wA810 cB904 cs810 ct810 cw810 (own_cp (List.replicate nd.toNatClampNeg (.long (0 : Int64))) [.long x0, .long x1, .long x2, .long x3] (0 : Int32).toNatClampNeg (0 : Int32).toNatClampNeg l0.toNatClampNeg) (List.set (List.replicate 1024 (.int (0 : Int32))) ((0 : Int32) + (1 : Int32)).toNatClampNeg (.int l0)) tq904 se904 wi904 wq904 b747 k747 x0 x1 x2 x3 l0 nd off len T904.heap n0 (Nat.le_trans Z0 KP904.1) OL904 ⟨i904_0, i904_1, i904_2, i904_3, i904_4, i904_5, i904_6, i904_7, i904_8, i904_9, i904_10, i904_11, i904_12, i904_13, i904_14⟩ ⟨ne_b806_kB904, nn810_1, nn810_2, nn810_3, nn810_4, (Ne.symm ne_sA810_kB904), (Ne.symm ne_tA810_kB904), (Ne.symm ne_bs810_kB904), (Ne.symm ne_wA810_kB904), nn810_9, nn810_10, nn810_11, nn810_12, nn810_13, nn810_14⟩ ⟨gn806, gn_kB904, gn_sA810, gn_tA810, gn_bs810, gn_wA810⟩ f905 ⟨ne_b747_b806, ne_b747_kB904, ne_b747_sA810, ne_b747_tA810, ne_b747_bs810, ne_b747_wA810⟩ (own_base1 hln x0 x1 x2 x3) hln hol S_A hwi904) hZ (own_at hw 125 rfl) (own_at hw 3 rfl) (by decide) (by decide)) q951a q951c (g := (mkF m 185 #[.val (.long x0), .second, .val (.long x1), .second, .val (.long x2), .second, .val (.long x3), .second, .val (.long pe), .second, .val (.int lens), .val (.ref b747), .val (.int l0), .val (.int off), .val (.int len), .val (.int vA), .val (.int vB), .val (.ref b763), .val (.ref b782), .val (.ref b806), .val (.int (0 : Int32)), .unset, .unset, .unset] [(.int len), (.int off), (.ref b747), (.ref b806)])) rfl (by rw [hml]; rfl) (Steps.refl _) (argsL := [(.ref b747), (.int off), (.int len)]) (rest := []) (lenOf own_pd9 rfl) rfl (by show 2 * 0 + _ ≤ _; exact Nat.le_of_eq rfl) (hb hby at_185) (fun _ _ => ⟨rfl, rfl, (by decide : 10 + 0 ≤ _), (by decide : 6166 + 0 ≤ _)⟩)
      dsimp only [Pt.U, Pt.locs, Pt.cells, Pt.slots] at X951 l951 y951 z951 st951 hQ951
      subst l951 y951 z951
      obtain ⟨n1951, s1951, kq951, sq951, tq951, zq951, se951, wi951, wq951, rfl, Nq951, K951, D951, BA951, HA951⟩ := hQ951
      have N951 := Fr.app N904 Nq951
      obtain ⟨i951_0, i951_1, i951_2, i951_3, i951_4, i951_5, i951_6, i951_7, i951_8, i951_9, i951_10, i951_11, i951_12, i951_13, i951_14⟩ := id D951
      have f952 := f905.keep K951 (by simp [ne_b747_b806, ne_b747_kB904, ne_b747_sA810, ne_b747_tA810, ne_b747_bs810, ne_b747_wA810])
      have f953 := f906.keep K951 (by simp [ne_b763_b806, ne_b763_kB904, ne_b763_sA810, ne_b763_tA810, ne_b763_bs810, ne_b763_wA810])
      have f954 := f907.keep K951 (by simp [ne_b782_b806, ne_b782_kB904, ne_b782_sA810, ne_b782_tA810, ne_b782_bs810, ne_b782_wA810])
      have OL951 := OL904.keep K951 (fun x hx => by
        simp only [List.mem_cons, List.not_mem_nil, or_false] at hx
        rcases hx with rfl | rfl | rfl | rfl | rfl | rfl
        · exact gn806
        · exact gn_kB904
        · exact gn_sA810
        · exact gn_tA810
        · exact gn_bs810
        · exact gn_wA810)
      have KP951 : Keep h0 T951.heap [] := KP904.trans K951 (fun x hx => by
        simp only [List.mem_cons, List.not_mem_nil, or_false] at hx
        rcases hx with rfl | rfl | rfl | rfl | rfl | rfl
        · exact Or.inr sz806
        · exact Or.inr sz_kB904
        · exact Or.inr sz_sA810
        · exact Or.inr sz_tA810
        · exact Or.inr sz_bs810
        · exact Or.inr sz_wA810)
      obtain ⟨hkl951, hsl951, hs0951, hs1951, hk0951, hk1951, hk2951⟩ := id BA951
      obtain ⟨a1951, a2951, a3951, a4951, a5951, a6951⟩ := id HA951
      obtain ⟨cq955, kq955, q955a, q955b, q955c⟩ := isOf hZ rfl i951_0
      obtain ⟨_, _, ⟨T955, L955, k955, n955⟩, -, X955, ⟨Lc955, hQ955, l955, y955, z955⟩, st955⟩ := X951.virtualBack hx (y := (⟨"com/example/orbitfold/orbitfold/StateIndex", "copy", "(I[J)I"⟩ : MethodName)) (z := (⟨"com/example/orbitfold/orbitfold/StateIndex", "copy", "(I[J)I"⟩ : MethodName)) hown (mvT hZ (own_at hw 112 rfl)) (mvT hZ (own_at hw 113 rfl)) (notFace_of_selects (args := #[]) (mvT hZ (own_at hw 115 rfl))) (mvT hZ (own_at hw 115 rfl)) (mvT hZ (own_at hw 114 rfl)) (by decide) (backOf (W := 0) (rm_copy l Z a0 hw [] b806 kB904 sA810 cB904 cs810 kq951 sq951 b763 k763 pe (0 : Int32) (0 : Int32) l0 x0 x1 x2 nd T951.heap n0 (Nat.le_trans Z0 KP951.1) OL951 i951_1 i951_2 i951_11 i951_12 f953 (Ne.symm ne_b763_b806) (Ne.symm ne_b763_kB904) (Ne.symm ne_b763_sA810) gn763 hkl951 (own_hnd hln) hsl951 (Or.inl rfl) (Or.inl rfl) (own_l123 hln) hs0951 (by rw [own_add0 l0]; exact hs1951) hk0951 hk1951 hk2951) hZ (own_at hw 116 rfl) (own_at hw 3 rfl) (by decide) (by decide)) q955a q955c (g := (mkF m 210 #[.val (.long x0), .second, .val (.long x1), .second, .val (.long x2), .second, .val (.long x3), .second, .val (.long pe), .second, .val (.int lens), .val (.ref b747), .val (.int l0), .val (.int off), .val (.int len), .val (.int vA), .val (.int vB), .val (.ref b763), .val (.ref b782), .val (.ref b806), .val (.int (0 : Int32)), .val (.int n1951), .unset, .unset] [(.ref b763), (.int (0 : Int32)), (.ref b806)])) rfl (by rw [hml]; rfl) (Steps.refl _) (argsL := [(.int (0 : Int32)), (.ref b763)]) (rest := []) (lenOf own_pd12 rfl) rfl (by show 2 * 0 + _ ≤ _; exact Nat.le_of_eq rfl) (hb hby at_210) (fun _ _ => ⟨rfl, rfl, (by decide : 10 + 0 ≤ _), (by decide : 6166 + 0 ≤ _)⟩)
      dsimp only [Pt.U, Pt.locs, Pt.cells, Pt.slots] at X955 l955 y955 z955 st955 hQ955
      subst l955 y955 z955
      obtain ⟨rfl, Nq955, K955, c955_0⟩ := hQ955
      have N955 := Fr.app N951 Nq955
      have f956 := f952.keep K955 (by simp [ne_b747_b763])
      have f957 := f954.keep K955 (by simp [(Ne.symm ne_b763_b782)])
      have f958 := i951_0.keep K955
      have f959 := i951_1.keep K955 (by simp [(Ne.symm ne_b763_b806)])
      have f960 := i951_2.keep K955 (by simp [(Ne.symm ne_b763_b806)])
      have f961 := i951_3.keep K955 (by simp [(Ne.symm ne_b763_b806)])
      have f962 := i951_4.keep K955 (by simp [(Ne.symm ne_b763_b806)])
      have f963 := i951_5.keep K955 (by simp [(Ne.symm ne_b763_b806)])
      have f964 := i951_6.keep K955 (by simp [(Ne.symm ne_b763_b806)])
      have f965 := i951_7.keep K955
      have f966 := i951_8.keep K955 (by simp [(Ne.symm ne_b763_bs810)])
      have f967 := i951_9.keep K955 (by simp [(Ne.symm ne_b763_bs810)])
      have f968 := i951_10.keep K955 (by simp [(Ne.symm ne_b763_bs810)])
      have f969 := i951_11.keep K955 (by simp [(Ne.symm ne_b763_kB904)])
      have f970 := i951_12.keep K955 (by simp [(Ne.symm ne_b763_sA810)])
      have f971 := i951_13.keep K955 (by simp [(Ne.symm ne_b763_tA810)])
      have f972 := i951_14.keep K955 (by simp [(Ne.symm ne_b763_wA810)])
      have OL955 := OL951.keep K955 (fun x hx => by
        simp only [List.mem_cons, List.not_mem_nil, or_false] at hx
        rcases hx with rfl
        · exact gn763)
      have KP955 : Keep h0 T955.heap [] := KP951.trans K955 (fun x hx => by
        simp only [List.mem_cons, List.not_mem_nil, or_false] at hx
        rcases hx with rfl
        · exact Or.inr sz763)
      obtain ⟨cq973, kq973, q973a, q973b, q973c⟩ := isOf hZ rfl f958
      obtain ⟨_, _, ⟨T973, L973, k973, n973⟩, -, X973, ⟨Lc973, hQ973, l973, y973, z973⟩, st973⟩ := X955.virtualBack hx (y := (⟨"com/example/orbitfold/orbitfold/StateIndex", "copy", "(I[J)I"⟩ : MethodName)) (z := (⟨"com/example/orbitfold/orbitfold/StateIndex", "copy", "(I[J)I"⟩ : MethodName)) hown (mvT hZ (own_at hw 112 rfl)) (mvT hZ (own_at hw 113 rfl)) (notFace_of_selects (args := #[]) (mvT hZ (own_at hw 115 rfl))) (mvT hZ (own_at hw 115 rfl)) (mvT hZ (own_at hw 114 rfl)) (by decide) (backOf (W := 0) (rm_copy l Z a0 hw [] b806 kB904 sA810 cB904 cs810 kq951 sq951 b782 k782 pe n1951 s1951 len (own_x x0 x1 x2 x3 off) (own_x x0 x1 x2 x3 (off + (1 : Int32))) (own_x x0 x1 x2 x3 (off + (2 : Int32))) nd T955.heap n0 (Nat.le_trans Z0 KP955.1) OL955 f959 f960 f969 f970 f957 (Ne.symm ne_b782_b806) (Ne.symm ne_b782_kB904) (Ne.symm ne_b782_sA810) gn782 hkl951 (own_hnd hln) hsl951 a1951 a2951 ((own_len12 hol).elim Or.inl (fun z => Or.inr (Or.inl z))) a3951 a4951 (by rw [own_addz s1951]; exact a5951) (fun z => a6951 ((own_len12 hol).elim (fun y => absurd y z) id)) (fun z => absurd z ((own_len12 hol).elim (fun y => by rw [y]; decide) (fun y => by rw [y]; decide)))) hZ (own_at hw 116 rfl) (own_at hw 3 rfl) (by decide) (by decide)) q973a q973c (g := (mkF m 221 #[.val (.long x0), .second, .val (.long x1), .second, .val (.long x2), .second, .val (.long x3), .second, .val (.long pe), .second, .val (.int lens), .val (.ref b747), .val (.int l0), .val (.int off), .val (.int len), .val (.int vA), .val (.int vB), .val (.ref b763), .val (.ref b782), .val (.ref b806), .val (.int (0 : Int32)), .val (.int n1951), .val (.int l0), .unset] [(.ref b782), (.int n1951), (.ref b806)])) rfl (by rw [hml]; rfl) (Steps.refl _) (argsL := [(.int n1951), (.ref b782)]) (rest := []) (lenOf own_pd12 rfl) rfl (by show 2 * 0 + _ ≤ _; exact Nat.le_of_eq rfl) (hb hby at_221) (fun _ _ => ⟨rfl, rfl, (by decide : 10 + 0 ≤ _), (by decide : 6166 + 0 ≤ _)⟩)
      dsimp only [Pt.U, Pt.locs, Pt.cells, Pt.slots] at X973 l973 y973 z973 st973 hQ973
      subst l973 y973 z973
      obtain ⟨rfl, Nq973, K973, c973_0⟩ := hQ973
      have N973 := Fr.app N955 Nq973
      have f974 := f956.keep K973 (by simp [ne_b747_b782])
      have f975 := f958.keep K973
      have f976 := f959.keep K973 (by simp [(Ne.symm ne_b782_b806)])
      have f977 := f960.keep K973 (by simp [(Ne.symm ne_b782_b806)])
      have f978 := f961.keep K973 (by simp [(Ne.symm ne_b782_b806)])
      have f979 := f962.keep K973 (by simp [(Ne.symm ne_b782_b806)])
      have f980 := f963.keep K973 (by simp [(Ne.symm ne_b782_b806)])
      have f981 := f964.keep K973 (by simp [(Ne.symm ne_b782_b806)])
      have f982 := f965.keep K973
      have f983 := f966.keep K973 (by simp [(Ne.symm ne_b782_bs810)])
      have f984 := f967.keep K973 (by simp [(Ne.symm ne_b782_bs810)])
      have f985 := f968.keep K973 (by simp [(Ne.symm ne_b782_bs810)])
      have f986 := f969.keep K973 (by simp [(Ne.symm ne_b782_kB904)])
      have f987 := f970.keep K973 (by simp [(Ne.symm ne_b782_sA810)])
      have f988 := f971.keep K973 (by simp [(Ne.symm ne_b782_tA810)])
      have f989 := f972.keep K973 (by simp [(Ne.symm ne_b782_wA810)])
      have f990 := c955_0.keep K973 (by simp [ne_b763_b782])
      have OL973 := OL955.keep K973 (fun x hx => by
        simp only [List.mem_cons, List.not_mem_nil, or_false] at hx
        rcases hx with rfl
        · exact gn782)
      have KP973 : Keep h0 T973.heap [] := KP955.trans K973 (fun x hx => by
        simp only [List.mem_cons, List.not_mem_nil, or_false] at hx
        rcases hx with rfl
        · exact Or.inr sz782)
      obtain ⟨_, _, ⟨T991, L991, k991, n991⟩, -, X991, ⟨Lc991, hQ991, l991, y991, z991⟩, st991⟩ := Jvm.LawKit.callS X973 hx (y := (⟨"com/example/orbitfold/orbitfold/StateIndexCopyPinLaw", "check", "([JII[JIJ)Z"⟩ : MethodName)) hown (mvT hZ (own_at hw 117 rfl)) (mvT hZ (own_at hw 118 rfl)) (mvT hZ (own_at hw 119 rfl)) (mvT hZ (own_at hw 120 rfl)) (by decide) (backOf (W := 0) (rm_check l Z a0 hw [] b763 k763 l0 (0 : Int32) pe b747 k747 x0 x1 x2 x3 T973.heap n0 (Nat.le_trans Z0 KP973.1) f990 f974 (own_hol5 hln)) hZ (own_at hw 120 rfl) (own_at hw 119 rfl) (by decide) (by decide)) (g := (mkF m 237 #[.val (.long x0), .second, .val (.long x1), .second, .val (.long x2), .second, .val (.long x3), .second, .val (.long pe), .second, .val (.int lens), .val (.ref b747), .val (.int l0), .val (.int off), .val (.int len), .val (.int vA), .val (.int vB), .val (.ref b763), .val (.ref b782), .val (.ref b806), .val (.int (0 : Int32)), .val (.int n1951), .val (.int l0), .val (.int len)] [(.long pe), (.int (0 : Int32)), (.ref b747), (.int l0), (.int l0), (.ref b763)])) rfl (by rw [hml]; rfl) (argsL := [(.ref b763), (.int l0), (.int l0), (.ref b747), (.int (0 : Int32)), (.long pe)]) (rest := []) (lenOf own_pd13 rfl) rfl (by show 2 * 0 + _ ≤ _; exact Nat.le_of_eq rfl) (hb hby at_237) (fun _ _ => ⟨rfl, rfl, (by decide : 10 + 0 ≤ _), (by decide : 6166 + 0 ≤ _)⟩)
      dsimp only [Pt.U, Pt.locs, Pt.cells, Pt.slots] at X991 l991 y991 z991 st991 hQ991
      subst l991 y991 z991
      obtain ⟨rfl, Nq991, eh991⟩ := hQ991
      have N991 := Fr.app N973 Nq991
      obtain ⟨_, _, ⟨T992, L992, k992, n992⟩, -, X992, ⟨Lc992, hQ992, l992, y992, z992⟩, st992⟩ := Jvm.LawKit.callS X991 hx (y := (⟨"com/example/orbitfold/orbitfold/StateIndexCopyPinLaw", "check", "([JII[JIJ)Z"⟩ : MethodName)) hown (mvT hZ (own_at hw 117 rfl)) (mvT hZ (own_at hw 118 rfl)) (mvT hZ (own_at hw 119 rfl)) (mvT hZ (own_at hw 120 rfl)) (by decide) (backOf (W := 0) (rm_check l Z a0 hw [] b782 k782 len off pe b747 k747 x0 x1 x2 x3 T973.heap n0 (Nat.le_trans Z0 KP973.1) c973_0 f974 (own_hol45 hol)) hZ (own_at hw 120 rfl) (own_at hw 119 rfl) (by decide) (by decide)) (g := (mkF m 255 #[.val (.long x0), .second, .val (.long x1), .second, .val (.long x2), .second, .val (.long x3), .second, .val (.long pe), .second, .val (.int lens), .val (.ref b747), .val (.int l0), .val (.int off), .val (.int len), .val (.int vA), .val (.int vB), .val (.ref b763), .val (.ref b782), .val (.ref b806), .val (.int (0 : Int32)), .val (.int n1951), .val (.int l0), .val (.int len)] [(.long pe), (.int off), (.ref b747), (.int len), (.int len), (.ref b782)])) rfl (by rw [hml]; rfl) (argsL := [(.ref b782), (.int len), (.int len), (.ref b747), (.int off), (.long pe)]) (rest := []) (lenOf own_pd13 rfl) rfl (by show 2 * 0 + _ ≤ _; exact Nat.le_of_eq rfl) (hb hby at_255) (fun _ _ => ⟨rfl, eh991, (by decide : 10 + 0 ≤ _), (by decide : 6166 + 0 ≤ _)⟩)
      dsimp only [Pt.U, Pt.locs, Pt.cells, Pt.slots] at X992 l992 y992 z992 st992 hQ992
      subst l992 y992 z992
      obtain ⟨rfl, Nq992, eh992⟩ := hQ992
      have N992 := Fr.app N991 Nq992
      obtain ⟨fs, hr, hrun, hended, hW, hsame⟩ := X992.leave (v := some (.int (1 : Int32))) (fun h => by rw [Bd.returns] at h; cases h)
      refine ⟨_, _, pre0 _ ?_, hrun, hended, _, _, rfl, ?_, ⟨_, rfl⟩, hW, hsame.mono (by decide) (by decide)⟩
      · show Steps p.tables e below (s₁.setTop (mkF m 0 #[.val (.long x0), .second, .val (.long x1), .second, .val (.long x2), .second, .val (.long x3), .second, .val (.long pe), .second, .val (.int lens), .unset, .unset, .unset, .unset, .unset, .unset, .unset, .unset, .unset, .unset, .unset, .unset, .unset] [])) _
        refine stP908 _ ?_
        refine XS.ifNo X904.here hx rfl (hb hby at_174) rfl ((if0 _ _).trans (feq qb).1) ?_
        refine XS.aload X904.here hx rfl (hb hby at_177) rfl rfl ?_
        refine XS.aload X904.here hx rfl (hb hby at_179) rfl rfl ?_
        show Steps p.tables e below (T904.setTop (mkF m 181 #[.val (.long x0), .second, .val (.long x1), .second, .val (.long x2), .second, .val (.long x3), .second, .val (.long pe), .second, .val (.int lens), .val (.ref b747), .val (.int l0), .val (.int off), .val (.int len), .val (.int vA), .val (.int vB), .val (.ref b763), .val (.ref b782), .val (.ref b806), .val (.int (0 : Int32)), .unset, .unset, .unset] [(.ref b747), (.ref b806)])) _
        refine XS.iload X904.here hx rfl (hb hby at_181) rfl ?_
        refine XS.iload X904.here hx rfl (hb hby at_183) rfl ?_
        refine st951.trans ?_
        refine XS.goto X951.here hx rfl (pc0 := 188) (pc' := 202) rfl (hb hby at_188) (by decide) (by decide) ?_
        show Steps p.tables e below (T951.setTop (mkF m 202 #[.val (.long x0), .second, .val (.long x1), .second, .val (.long x2), .second, .val (.long x3), .second, .val (.long pe), .second, .val (.int lens), .val (.ref b747), .val (.int l0), .val (.int off), .val (.int len), .val (.int vA), .val (.int vB), .val (.ref b763), .val (.ref b782), .val (.ref b806), .val (.int (0 : Int32)), .unset, .unset, .unset] [(.int n1951)])) _
        refine XS.istore X951.here hx rfl (hb hby at_202) rfl (l' := #[.val (.long x0), .second, .val (.long x1), .second, .val (.long x2), .second, .val (.long x3), .second, .val (.long pe), .second, .val (.int lens), .val (.ref b747), .val (.int l0), .val (.int off), .val (.int len), .val (.int vA), .val (.int vB), .val (.ref b763), .val (.ref b782), .val (.ref b806), .val (.int (0 : Int32)), .val (.int n1951), .unset, .unset]) rfl ?_
        refine XS.aload X951.here hx rfl (hb hby at_204) rfl rfl ?_
        refine XS.iload X951.here hx rfl (hb hby at_206) rfl ?_
        refine XS.aload X951.here hx rfl (hb hby at_208) rfl rfl ?_
        show Steps p.tables e below (T951.setTop (mkF m 210 #[.val (.long x0), .second, .val (.long x1), .second, .val (.long x2), .second, .val (.long x3), .second, .val (.long pe), .second, .val (.int lens), .val (.ref b747), .val (.int l0), .val (.int off), .val (.int len), .val (.int vA), .val (.int vB), .val (.ref b763), .val (.ref b782), .val (.ref b806), .val (.int (0 : Int32)), .val (.int n1951), .unset, .unset] [(.ref b763), (.int (0 : Int32)), (.ref b806)])) _
        refine st955.trans ?_
        refine XS.istore X955.here hx rfl (hb hby at_213) rfl (l' := #[.val (.long x0), .second, .val (.long x1), .second, .val (.long x2), .second, .val (.long x3), .second, .val (.long pe), .second, .val (.int lens), .val (.ref b747), .val (.int l0), .val (.int off), .val (.int len), .val (.int vA), .val (.int vB), .val (.ref b763), .val (.ref b782), .val (.ref b806), .val (.int (0 : Int32)), .val (.int n1951), .val (.int l0), .unset]) rfl ?_
        refine XS.aload X955.here hx rfl (hb hby at_215) rfl rfl ?_
        refine XS.iload X955.here hx rfl (hb hby at_217) rfl ?_
        show Steps p.tables e below (T955.setTop (mkF m 219 #[.val (.long x0), .second, .val (.long x1), .second, .val (.long x2), .second, .val (.long x3), .second, .val (.long pe), .second, .val (.int lens), .val (.ref b747), .val (.int l0), .val (.int off), .val (.int len), .val (.int vA), .val (.int vB), .val (.ref b763), .val (.ref b782), .val (.ref b806), .val (.int (0 : Int32)), .val (.int n1951), .val (.int l0), .unset] [(.int n1951), (.ref b806)])) _
        refine XS.aload X955.here hx rfl (hb hby at_219) rfl rfl ?_
        refine st973.trans ?_
        refine XS.istore X973.here hx rfl (hb hby at_224) rfl (l' := #[.val (.long x0), .second, .val (.long x1), .second, .val (.long x2), .second, .val (.long x3), .second, .val (.long pe), .second, .val (.int lens), .val (.ref b747), .val (.int l0), .val (.int off), .val (.int len), .val (.int vA), .val (.int vB), .val (.ref b763), .val (.ref b782), .val (.ref b806), .val (.int (0 : Int32)), .val (.int n1951), .val (.int l0), .val (.int len)]) rfl ?_
        refine XS.aload X973.here hx rfl (hb hby at_226) rfl rfl ?_
        show Steps p.tables e below (T973.setTop (mkF m 228 #[.val (.long x0), .second, .val (.long x1), .second, .val (.long x2), .second, .val (.long x3), .second, .val (.long pe), .second, .val (.int lens), .val (.ref b747), .val (.int l0), .val (.int off), .val (.int len), .val (.int vA), .val (.int vB), .val (.ref b763), .val (.ref b782), .val (.ref b806), .val (.int (0 : Int32)), .val (.int n1951), .val (.int l0), .val (.int len)] [(.ref b763)])) _
        refine XS.iload X973.here hx rfl (hb hby at_228) rfl ?_
        refine XS.iload X973.here hx rfl (hb hby at_230) rfl ?_
        refine XS.aload X973.here hx rfl (hb hby at_232) rfl rfl ?_
        refine XS.iconst X973.here hx rfl (hb hby at_234) ?_
        show Steps p.tables e below (T973.setTop (mkF m 235 #[.val (.long x0), .second, .val (.long x1), .second, .val (.long x2), .second, .val (.long x3), .second, .val (.long pe), .second, .val (.int lens), .val (.ref b747), .val (.int l0), .val (.int off), .val (.int len), .val (.int vA), .val (.int vB), .val (.ref b763), .val (.ref b782), .val (.ref b806), .val (.int (0 : Int32)), .val (.int n1951), .val (.int l0), .val (.int len)] [(.int (0 : Int32)), (.ref b747), (.int l0), (.int l0), (.ref b763)])) _
        refine XS.lload X973.here hx rfl (hb hby at_235) rfl ?_
        refine st991 _ ?_
        refine XS.ifNo X991.here hx rfl (hb hby at_240) rfl ((if0 _ _).trans (feq (show ¬ ((1 : Int32) = (0 : Int32)) by decide)).1) ?_
        refine XS.aload X991.here hx rfl (hb hby at_243) rfl rfl ?_
        show Steps p.tables e below (T991.setTop (mkF m 245 #[.val (.long x0), .second, .val (.long x1), .second, .val (.long x2), .second, .val (.long x3), .second, .val (.long pe), .second, .val (.int lens), .val (.ref b747), .val (.int l0), .val (.int off), .val (.int len), .val (.int vA), .val (.int vB), .val (.ref b763), .val (.ref b782), .val (.ref b806), .val (.int (0 : Int32)), .val (.int n1951), .val (.int l0), .val (.int len)] [(.ref b782)])) _
        refine XS.iload X991.here hx rfl (hb hby at_245) rfl ?_
        refine XS.iload X991.here hx rfl (hb hby at_247) rfl ?_
        refine XS.aload X991.here hx rfl (hb hby at_249) rfl rfl ?_
        refine XS.iload X991.here hx rfl (hb hby at_251) rfl ?_
        show Steps p.tables e below (T991.setTop (mkF m 253 #[.val (.long x0), .second, .val (.long x1), .second, .val (.long x2), .second, .val (.long x3), .second, .val (.long pe), .second, .val (.int lens), .val (.ref b747), .val (.int l0), .val (.int off), .val (.int len), .val (.int vA), .val (.int vB), .val (.ref b763), .val (.ref b782), .val (.ref b806), .val (.int (0 : Int32)), .val (.int n1951), .val (.int l0), .val (.int len)] [(.int off), (.ref b747), (.int len), (.int len), (.ref b782)])) _
        refine XS.lload X991.here hx rfl (hb hby at_253) rfl ?_
        refine st992 _ ?_
        refine XS.ifNo X992.here hx rfl (hb hby at_258) rfl ((if0 _ _).trans (feq (show ¬ ((1 : Int32) = (0 : Int32)) by decide)).1) ?_
        refine XS.iconst X992.here hx rfl (hb hby at_261) ?_
        show Steps p.tables e below (T992.setTop (mkF m 262 #[.val (.long x0), .second, .val (.long x1), .second, .val (.long x2), .second, .val (.long x3), .second, .val (.long pe), .second, .val (.int lens), .val (.ref b747), .val (.int l0), .val (.int off), .val (.int len), .val (.int vA), .val (.int vB), .val (.ref b763), .val (.ref b782), .val (.ref b806), .val (.int (0 : Int32)), .val (.int n1951), .val (.int l0), .val (.int len)] [(.int (1 : Int32))])) _
        refine XS.goto X992.here hx rfl (pc0 := 262) (pc' := 266) rfl (hb hby at_262) (by decide) (by decide) ?_
        exact own_retZ X992 hx rfl Bd.returns (hb hby at_266) hr
      · show rm_law_Q Z x0 x1 x2 x3 pe lens h0 n0 _ T992.heap _
        rw [eh992]
        exact ⟨rfl, N992⟩
set_option maxRecDepth 65536 in
set_option maxHeartbeats 40000000 in
theorem own_comes {Post : Tables → Env → Array Value → State → Outcome → State → Prop} (hpost : ∀ tb e args s v u, (limb_1_1.after args s (.returned v) u = true ∧ limb_1_2.after args s (.returned v) u = true ∧ True) → FrameEnd s (.returned v) u (Jvm.fieldLocs frame_1_writes args s ++ Jvm.arrayLocs frame_1_arrays args s ++ Jvm.staticLocs frame_1_statics s) 32 12416 → Post tb e args s (.returned v) u) :
    ArmFor flags0 classFile x code maxLocals ret World_1 tables_1 room_1 Calls_1 rest_1 Pre_1 Post := by
  intro l hfl _ _ p e ha hc hk s m args below hf hA hF happ hP
  obtain ⟨hcalls, hrest, hpre⟩ := hP
  obtain ⟨-, -, -, hnamed, -, -, -, hat⟩ := (Spec.applies_iff hf).mp happ
  obtain ⟨hg, hn⟩ := and_e (Cond.before_iff.mp (show (Jvm.Cond.and given_1 narrow_1).before args s = true from hpre))
  obtain ⟨h1, h2⟩ := and_e hg
  obtain ⟨w0, w1, w2, w3, w4, w5, rfl⟩ := own_arg6 h1
  have hw := fun d (hd : d ∈ tables_1) => atoms_spec (ws := Jvm.Cond.code x code maxLocals ret :: tables_1) hat d (List.mem_cons_of_mem _ hd)
  have hfit : Fit s := fun {y c} hc i hi => by
    obtain ⟨ha, rfl⟩ := Array.getElem?_eq_some_iff.mp hc
    have q := List.all_eq_true.mp ((Array.all_eq_true_iff_forall_mem.mp hF) _ (Array.getElem_mem ha)) i (List.mem_range.mpr hi)
    simpa [Array.getElem?_eq_getElem hi] using q
  obtain ⟨g0, h2⟩ := and_e h2
  obtain ⟨i0, e0⟩ := isL_v g0
  obtain rfl : w0 = (.long i0) := Option.some.inj e0
  obtain ⟨g1, h2⟩ := and_e h2
  obtain ⟨i1, e1⟩ := isL_v g1
  obtain rfl : w1 = (.long i1) := Option.some.inj e1
  obtain ⟨g2, h2⟩ := and_e h2
  obtain ⟨i2, e2⟩ := isL_v g2
  obtain rfl : w2 = (.long i2) := Option.some.inj e2
  obtain ⟨g3, h2⟩ := and_e h2
  obtain ⟨i3, e3⟩ := isL_v g3
  obtain rfl : w3 = (.long i3) := Option.some.inj e3
  obtain ⟨g4, h2⟩ := and_e h2
  obtain ⟨i4, e4⟩ := isL_v g4
  obtain rfl : w4 = (.long i4) := Option.some.inj e4
  have g5 := h2
  obtain ⟨i5, e5⟩ := is_v g5
  obtain rfl : w5 = (.int i5) := Option.some.inj e5
  have hsets := (atoms_of jdkStatics_1 (show (jdkStatics_1.foldr Jvm.Cond.and restOwn_1).before _ s = true from hrest)).1
  have j1 := hsets _ (List.mem_of_getElem? (i := 1) rfl)
  have j2 := Cond.before_iff.mp (hsets _ (List.mem_of_getElem? (i := 2) rfl))
  have S_A := Sta.start (own_sI j2) (Or.inl j1)
  obtain ⟨n, o, h1, h2, h3, _, L, rfl, ⟨rfl, N⟩, hq⟩ := rm_law l s _ hw tables_1 i0 i1 i2 i3 i4 i5 s.heap s.heap.size (Nat.le_refl _) ⟨rfl, own_ext_refl _⟩ S_A p e ha hc hk s m _ below hf ((Spec.applies_iff_loose hf).mp happ).1 ⟨rfl, State.Warmed39.refl s, rfl⟩ trivial
  exact ⟨n, _, h1, h2, h3, hpost _ _ _ _ _ _ ⟨Cond.after_iff.mpr rfl, Cond.after_iff.mpr (eq_i res_at (Term.int_eval (1)) rfl), trivial⟩ ⟨hq.1, hq.2.1, (hq.2.2.sift fun y hy => Or.inr (N y hy)).mono (by decide) (by decide)⟩⟩
theorem main_1_1 : Claimed_1_1 := own_comes fun _ _ _ _ _ _ h hF => ⟨h.1, hF⟩
theorem main_1_2 : Claimed_1_2 := own_comes fun _ _ _ _ _ _ h hF => ⟨h.2.1, hF⟩
end Jvm.Pilot.@@N@@
namespace Jvm.Pilot.@@N@@
open Jvm Jvm.ClassFile Sem Op Lib Jvm.Free Jvm.Stand Jvm.Pilot.@@N@@.Jvm.D
/-! MADE BY PROGRAM (witnessworld.py) out of the Statement's table words and the real class files: 22 classes; the members and pool entries that the words name. The judged class is class 1, her method 1. -/
namespace start1
open Jvm.ClassFile
def u (s : String) : CpInfo := .utf8 (stringToUtf16 s)
/-- a pool by its gaps: so many unusable entries, then the entry; so many at the end -/
def gap : Nat → List CpInfo → List CpInfo
  | 0, r => r
  | n + 1, r => .unusable :: gap n r
def poolList (es : List (Nat × CpInfo)) (last : Nat) : List CpInfo := es.foldr (fun e r => gap e.1 (e.2 :: r)) (gap last [])
def pool (es : List (Nat × CpInfo)) (last : Nat) : Array CpInfo := ⟨poolList es last⟩
def fileOf (pool : Array CpInfo) (this : Nat) (attrs : Array Attribute := #[]) (ms : Array MethodInfo := #[]) (fl : Nat := 33) (sup : Nat := 0) (ifs : Array Nat := #[]) (fds : Array FieldInfo := #[]) : ClassFile where
  minorVersion := 0
  majorVersion := 65
  constantPool := pool
  accessFlags := fl
  thisClass := this
  superClass := sup
  interfaces := ifs
  fields := fds
  methods := ms
  attributes := attrs
def plain (name : String) (sup : Option ClassId) : Class where
  name := name
  kind := .ordinary
  loader := none
  accessFlags := 33
  super := sup
  interfaces := #[]
  cf := none
  fields := #[]
  methods := #[]
  instanceTypes := #[]
  staticTypes := #[]
  resolved := #[]
  callSites := []
  init := .initialized
  statics := none
  mirror := none

def pool0 : Array CpInfo := pool [(5, u "<init>"), (0, u "()V"), (1, .class_ 10), (1, u "java/lang/Object")] 113

def k0c0 : Code := { maxStack := 0, maxLocals := 1, code := object_method_1_code, exceptionTable := #[], attributes := #[] }
def k0m0 : Method := { name := "<init>", desc := "()V", sig := { parameters := [], returnType := none }, accessFlags := 1, code := some k0c0 }
/-- java/lang/Object -/
def k0 : Class := { plain "java/lang/Object" none with
  accessFlags := 33
  interfaces := #[]
  cf := some (fileOf pool0 8 #[] #[{ accessFlags := 1, nameIndex := 5, descriptorIndex := 6, attributes := #[] }] 33 0 #[] #[])
  fields := #[]
  methods := #[k0m0]
  instanceTypes := #[]
  staticTypes := #[]
  resolved := Array.replicate 124 none
  statics := none }

def pool1 : Array CpInfo := pool [(2, .class_ 4), (0, .nameAndType 5 6), (0, u "java/lang/Object"), (0, u "<init>"), (0, u "()V"), (0, .class_ 8), (0, u "com/example/orbitfold/orbitfold/StateIndex"), (0, .methodref 7 3), (0, .methodref 7 11), (0, .nameAndType 12 13), (0, u "append"), (0, u "([JII)I"), (0, .methodref 7 15), (0, .nameAndType 16 13), (0, u "indexOf"), (0, .methodref 7 18), (0, .nameAndType 19 20), (0, u "copy"), (0, u "(I[J)I"), (0, .methodref 22 23), (0, .class_ 24), (0, .nameAndType 25 26), (0, u "com/example/orbitfold/orbitfold/StateIndexCopyPinLaw"), (0, u "check"), (0, u "([JII[JIJ)Z"), (2, u "law"), (0, u "(JJJJJI)Z")] 5

def k1m0 : Method := { name := "<init>", desc := "()V", sig := { parameters := [], returnType := none }, accessFlags := 1, code := none }
def k1c1 : Code := { maxStack := 7, maxLocals := 24, code := code, exceptionTable := #[], attributes := #[] }
def k1m1 : Method := { name := "law", desc := "(JJJJJI)Z", sig := { parameters := [.long, .long, .long, .long, .long, .int], returnType := some .boolean }, accessFlags := 9, code := some k1c1 }
def k1c2 : Code := { maxStack := 5, maxLocals := 7, code := method_3_code, exceptionTable := #[], attributes := #[] }
def k1m2 : Method := { name := "check", desc := "([JII[JIJ)Z", sig := { parameters := [(.array .long), .int, .int, (.array .long), .int, .long], returnType := some .boolean }, accessFlags := 10, code := some k1c2 }
/-- com/example/orbitfold/orbitfold/StateIndexCopyPinLaw -/
def k1 : Class := { plain "com/example/orbitfold/orbitfold/StateIndexCopyPinLaw" (some 0) with
  accessFlags := 49
  interfaces := #[]
  cf := some (fileOf pool1 22 #[] #[{ accessFlags := 1, nameIndex := 5, descriptorIndex := 6, attributes := #[] }, { accessFlags := 9, nameIndex := 29, descriptorIndex := 30, attributes := #[] }, { accessFlags := 10, nameIndex := 25, descriptorIndex := 26, attributes := #[] }] 49 2 #[] #[])
  fields := #[]
  methods := #[k1m0, k1m1, k1m2]
  instanceTypes := #[]
  staticTypes := #[]
  resolved := Array.replicate 36 none
  statics := none }

def pool2 : Array CpInfo := pool [(1, .class_ 2), (0, u "com/example/orbitfold/orbitfold/StateIndex"), (0, .methodref 4 5), (0, .class_ 6), (0, .nameAndType 7 8), (0, u "java/lang/Object"), (0, u "<init>"), (0, u "()V"), (0, .fieldref 1 10), (0, .nameAndType 11 12), (0, u "keys"), (0, u "[J"), (0, .fieldref 1 14), (0, .nameAndType 15 16), (0, u "starts"), (0, u "[I"), (0, .methodref 1 18), (0, .nameAndType 19 20), (0, u "emptySlots"), (0, u "(I)[I"), (0, .fieldref 1 22), (0, .nameAndType 23 16), (0, u "slots"), (0, .class_ 25), (0, u "java/util/BitSet"), (0, .methodref 24 5), (0, .fieldref 1 28), (0, .nameAndType 29 30), (0, u "appended"), (0, u "Ljava/util/BitSet;"), (0, .methodref 1 32), (0, .nameAndType 33 34), (0, u "hash"), (0, u "([JII)J"), (0, .methodref 1 36), (0, .nameAndType 37 38), (0, u "tagOf"), (0, u "(J)I"), (0, .methodref 1 40), (0, .nameAndType 41 38), (0, u "slotOf"), (0, .integer 536870911), (0, .methodref 1 44), (0, .nameAndType 45 46), (0, u "matches"), (0, u "(I[JII)Z"), (0, .methodref 1 48), (0, .nameAndType 49 50), (0, u "keep"), (0, u "([JII)I"), (0, .fieldref 1 52), (0, .nameAndType 53 54), (0, u "searchable"), (0, u "I"), (0, .long 2), (4, .methodref 24 61), (0, .nameAndType 62 63), (0, u "set"), (0, u "(I)V"), (0, .fieldref 1 65), (0, .nameAndType 66 54), (0, u "size"), (6, .long 2147483647), (1, .long 1024), (1, .class_ 78), (0, u "com/example/orbitfold/orbitfold/MarkovChain"), (0, .long 2147483639), (1, .methodref 82 83), (0, .class_ 84), (0, .nameAndType 85 86), (0, u "java/lang/Math"), (0, u "min"), (0, u "(JJ)J"), (0, .methodref 82 88), (0, .nameAndType 89 86), (0, u "max"), (0, .methodref 77 91), (0, .nameAndType 92 93), (0, u "grownLength"), (0, u "(II)I"), (0, .methodref 95 96), (0, .class_ 97), (0, .nameAndType 98 99), (0, u "java/util/Arrays"), (0, u "copyOf"), (0, u "([JI)[J"), (3, .methodref 104 105), (0, .class_ 106), (0, .nameAndType 107 108), (0, u "java/lang/System"), (0, u "arraycopy"), (0, u "(Ljava/lang/Object;ILjava/lang/Object;II)V"), (13, .methodref 95 123), (0, .nameAndType 124 125), (0, u "fill"), (0, u "([II)V"), (0, .long 11400714819323198485), (1, .methodref 129 130), (0, .class_ 131), (0, .nameAndType 132 38), (0, u "java/lang/Long"), (0, u "numberOfLeadingZeros"), (0, u "ABSENT"), (2, u "TAG_SHIFT"), (1, u "NUMBER"), (0, u "FIRST_STATES"), (3, u "indexOf"), (2, u "append"), (0, u "copy"), (0, u "(I[J)I")] 18

def k2c0 : Code := { maxStack := 3, maxLocals := 1, code := prog_34_method_1_code, exceptionTable := #[], attributes := #[] }
def k2m0 : Method := { name := "<init>", desc := "()V", sig := { parameters := [], returnType := none }, accessFlags := 0, code := some k2c0 }
def k2c1 : Code := { maxStack := 5, maxLocals := 10, code := prog_34_method_2_code, exceptionTable := #[], attributes := #[] }
def k2m1 : Method := { name := "indexOf", desc := "([JII)I", sig := { parameters := [(.array .long), .int, .int], returnType := some .int }, accessFlags := 0, code := some k2c1 }
def k2c2 : Code := { maxStack := 4, maxLocals := 5, code := prog_34_method_3_code, exceptionTable := #[], attributes := #[] }
def k2m2 : Method := { name := "append", desc := "([JII)I", sig := { parameters := [(.array .long), .int, .int], returnType := some .int }, accessFlags := 0, code := some k2c2 }
def k2c3 : Code := { maxStack := 7, maxLocals := 9, code := prog_34_method_4_code, exceptionTable := #[], attributes := #[] }
def k2m3 : Method := { name := "keep", desc := "([JII)I", sig := { parameters := [(.array .long), .int, .int], returnType := some .int }, accessFlags := 2, code := some k2c3 }
def k2c4 : Code := { maxStack := 5, maxLocals := 6, code := prog_34_method_5_code, exceptionTable := #[], attributes := #[] }
def k2m4 : Method := { name := "copy", desc := "(I[J)I", sig := { parameters := [.int, (.array .long)], returnType := some .int }, accessFlags := 0, code := some k2c4 }
def k2c5 : Code := { maxStack := 5, maxLocals := 7, code := prog_34_method_7_code, exceptionTable := #[], attributes := #[] }
def k2m5 : Method := { name := "matches", desc := "(I[JII)Z", sig := { parameters := [.int, (.array .long), .int, .int], returnType := some .boolean }, accessFlags := 2, code := some k2c5 }
def k2c6 : Code := { maxStack := 2, maxLocals := 2, code := prog_34_method_10_code, exceptionTable := #[], attributes := #[] }
def k2m6 : Method := { name := "emptySlots", desc := "(I)[I", sig := { parameters := [.int], returnType := some (.array .int) }, accessFlags := 10, code := some k2c6 }
def k2c7 : Code := { maxStack := 5, maxLocals := 6, code := prog_34_method_11_code, exceptionTable := #[], attributes := #[] }
def k2m7 : Method := { name := "hash", desc := "([JII)J", sig := { parameters := [(.array .long), .int, .int], returnType := some .long }, accessFlags := 10, code := some k2c7 }
def k2c8 : Code := { maxStack := 6, maxLocals := 3, code := prog_34_method_12_code, exceptionTable := #[], attributes := #[] }
def k2m8 : Method := { name := "slotOf", desc := "(J)I", sig := { parameters := [.long], returnType := some .int }, accessFlags := 2, code := some k2c8 }
def k2c9 : Code := { maxStack := 6, maxLocals := 3, code := prog_34_method_13_code, exceptionTable := #[], attributes := #[] }
def k2m9 : Method := { name := "tagOf", desc := "(J)I", sig := { parameters := [.long], returnType := some .int }, accessFlags := 2, code := some k2c9 }
/-- com/example/orbitfold/orbitfold/StateIndex -/
def k2 : Class := { plain "com/example/orbitfold/orbitfold/StateIndex" (some 0) with
  accessFlags := 48
  interfaces := #[]
  cf := some (fileOf pool2 1 #[] #[{ accessFlags := 0, nameIndex := 7, descriptorIndex := 8, attributes := #[] }, { accessFlags := 0, nameIndex := 143, descriptorIndex := 50, attributes := #[] }, { accessFlags := 0, nameIndex := 146, descriptorIndex := 50, attributes := #[] }, { accessFlags := 2, nameIndex := 49, descriptorIndex := 50, attributes := #[] }, { accessFlags := 0, nameIndex := 147, descriptorIndex := 148, attributes := #[] }, { accessFlags := 2, nameIndex := 45, descriptorIndex := 46, attributes := #[] }, { accessFlags := 10, nameIndex := 19, descriptorIndex := 20, attributes := #[] }, { accessFlags := 10, nameIndex := 33, descriptorIndex := 34, attributes := #[] }, { accessFlags := 2, nameIndex := 41, descriptorIndex := 38, attributes := #[] }, { accessFlags := 2, nameIndex := 37, descriptorIndex := 38, attributes := #[] }] 48 4 #[] #[{ accessFlags := 26, nameIndex := 133, descriptorIndex := 54, attributes := #[] }, { accessFlags := 26, nameIndex := 136, descriptorIndex := 54, attributes := #[] }, { accessFlags := 26, nameIndex := 138, descriptorIndex := 54, attributes := #[] }, { accessFlags := 26, nameIndex := 139, descriptorIndex := 54, attributes := #[] }, { accessFlags := 2, nameIndex := 11, descriptorIndex := 12, attributes := #[] }, { accessFlags := 2, nameIndex := 15, descriptorIndex := 16, attributes := #[] }, { accessFlags := 2, nameIndex := 23, descriptorIndex := 16, attributes := #[] }, { accessFlags := 18, nameIndex := 29, descriptorIndex := 30, attributes := #[] }, { accessFlags := 2, nameIndex := 66, descriptorIndex := 54, attributes := #[] }, { accessFlags := 2, nameIndex := 53, descriptorIndex := 54, attributes := #[] }])
  fields := #[{ name := "ABSENT", type := .int, accessFlags := 26, slot := 0, constantValue := 0 }, { name := "TAG_SHIFT", type := .int, accessFlags := 26, slot := 1, constantValue := 0 }, { name := "NUMBER", type := .int, accessFlags := 26, slot := 2, constantValue := 0 }, { name := "FIRST_STATES", type := .int, accessFlags := 26, slot := 3, constantValue := 0 }, { name := "keys", type := (.array .long), accessFlags := 2, slot := 0, constantValue := 0 }, { name := "starts", type := (.array .int), accessFlags := 2, slot := 1, constantValue := 0 }, { name := "slots", type := (.array .int), accessFlags := 2, slot := 2, constantValue := 0 }, { name := "appended", type := (.object "java/util/BitSet"), accessFlags := 18, slot := 3, constantValue := 0 }, { name := "size", type := .int, accessFlags := 2, slot := 4, constantValue := 0 }, { name := "searchable", type := .int, accessFlags := 2, slot := 5, constantValue := 0 }]
  methods := #[k2m0, k2m1, k2m2, k2m3, k2m4, k2m5, k2m6, k2m7, k2m8, k2m9]
  instanceTypes := #[(.array .long), (.array .int), (.array .int), (.object "java/util/BitSet"), .int, .int]
  staticTypes := #[.int, .int, .int, .int]
  resolved := Array.replicate 167 none
  statics := none }

def pool3 : Array CpInfo := pool [(2, .class_ 4), (1, u "java/lang/Object"), (0, u "<init>"), (0, u "()V"), (7, .class_ 16), (1, u "java/util/Arrays"), (57, .class_ 76), (1, u "java/util/Arrays$NaturalOrder"), (36, .class_ 115), (1, u "java/util/Arrays$LegacyMergeSort"), (1, u "Z"), (32, .methodref 151 152), (0, .class_ 153), (0, .nameAndType 154 155), (0, u "java/lang/System"), (0, u "arraycopy"), (0, u "(Ljava/lang/Object;ILjava/lang/Object;II)V"), (146, u "copyOf"), (1, .methodref 305 306), (0, .class_ 307), (0, .nameAndType 308 309), (0, u "java/lang/Math"), (0, u "min"), (0, u "(II)I"), (65, .class_ 376), (0, u "java/util/Arrays$ArrayList"), (68, u "$assertionsDisabled"), (269, u "MIN_ARRAY_SORT_GRAN"), (0, u "I"), (2, u "INSERTIONSORT_THRESHOLD"), (120, u "fill"), (4, u "([II)V"), (26, u "([JI)[J"), (102, .class_ 976), (0, u "java/util/Arrays$ArrayItr")] 52

def k3m0 : Method := { name := "<init>", desc := "()V", sig := { parameters := [], returnType := none }, accessFlags := 2, code := none }
def k3c1 : Code := { maxStack := 3, maxLocals := 4, code := jdk_65_method_103_code, exceptionTable := #[], attributes := #[] }
def k3m1 : Method := { name := "fill", desc := "([II)V", sig := { parameters := [(.array .int), .int], returnType := none }, accessFlags := 9, code := some k3c1 }
def k3c2 : Code := { maxStack := 6, maxLocals := 3, code := jdk_65_method_124_code, exceptionTable := #[], attributes := #[] }
def k3m2 : Method := { name := "copyOf", desc := "([JI)[J", sig := { parameters := [(.array .long), .int], returnType := some (.array .long) }, accessFlags := 9, code := some k3c2 }
/-- java/util/Arrays -/
def k3 : Class := { plain "java/util/Arrays" (some 0) with
  accessFlags := 49
  interfaces := #[]
  cf := some (fileOf pool3 14 #[.nestMembers #[975, 375, 113, 74]] #[{ accessFlags := 2, nameIndex := 5, descriptorIndex := 6, attributes := #[] }, { accessFlags := 9, nameIndex := 840, descriptorIndex := 845, attributes := #[] }, { accessFlags := 9, nameIndex := 302, descriptorIndex := 872, attributes := #[] }] 49 2 #[] #[{ accessFlags := 26, nameIndex := 715, descriptorIndex := 716, attributes := #[] }, { accessFlags := 26, nameIndex := 719, descriptorIndex := 716, attributes := #[] }, { accessFlags := 4120, nameIndex := 445, descriptorIndex := 117, attributes := #[] }])
  fields := #[{ name := "MIN_ARRAY_SORT_GRAN", type := .int, accessFlags := 26, slot := 0, constantValue := 0 }, { name := "INSERTIONSORT_THRESHOLD", type := .int, accessFlags := 26, slot := 1, constantValue := 0 }, { name := "$assertionsDisabled", type := .boolean, accessFlags := 4120, slot := 2, constantValue := 0 }]
  methods := #[k3m0, k3m1, k3m2]
  instanceTypes := #[]
  staticTypes := #[.int, .int, .boolean]
  resolved := Array.replicate 1029 none
  statics := none }

def pool4 : Array CpInfo := pool [(1, .class_ 2), (0, u "java/lang/Cloneable"), (0, .class_ 4), (0, u "java/lang/Object")] 2

/-- java/lang/Cloneable -/
def k4 : Class := { plain "java/lang/Cloneable" (some 0) with
  accessFlags := 1537
  interfaces := #[]
  cf := some (fileOf pool4 1 #[] #[] 1537 3 #[] #[])
  fields := #[]
  methods := #[]
  instanceTypes := #[]
  staticTypes := #[]
  resolved := Array.replicate 7 none
  statics := none }

def pool5 : Array CpInfo := pool [(1, .class_ 2), (0, u "java/io/Serializable"), (0, .class_ 4), (0, u "java/lang/Object")] 2

/-- java/io/Serializable -/
def k5 : Class := { plain "java/io/Serializable" (some 0) with
  accessFlags := 1537
  interfaces := #[]
  cf := some (fileOf pool5 1 #[] #[] 1537 3 #[] #[])
  fields := #[]
  methods := #[]
  instanceTypes := #[]
  staticTypes := #[]
  resolved := Array.replicate 7 none
  statics := none }

def pool6 : Array CpInfo := pool [(1, .class_ 2), (0, u "java/util/BitSet"), (0, .fieldref 1 4), (0, .nameAndType 5 6), (0, u "$assertionsDisabled"), (0, u "Z"), (0, .fieldref 1 8), (0, .nameAndType 9 10), (0, u "wordsInUse"), (0, u "I"), (0, .fieldref 1 12), (0, .nameAndType 13 14), (0, u "words"), (0, u "[J"), (3, .nameAndType 19 20), (0, u "<init>"), (0, u "()V"), (0, .methodref 22 18), (0, .class_ 23), (0, u "java/lang/Object"), (0, .fieldref 1 25), (0, .nameAndType 26 6), (0, u "sizeIsSticky"), (0, .methodref 1 28), (0, .nameAndType 29 30), (0, u "initWords"), (0, u "(I)V"), (21, .methodref 1 53), (0, .nameAndType 54 55), (0, u "wordIndex"), (0, u "(I)I"), (0, .methodref 1 57), (0, .nameAndType 58 20), (0, u "checkInvariants"), (80, .methodref 1 140), (0, .nameAndType 141 30), (0, u "ensureCapacity"), (13, .methodref 1 156), (0, .nameAndType 157 30), (0, u "expandTo"), (11, u "set"), (99, .class_ 270), (0, u "java/util/BitSet$1BitSetSpliterator"), (22, u "serialPersistentFields"), (0, u "[Ljava/io/ObjectStreamField;"), (0, .class_ 296), (0, u "java/lang/Cloneable"), (0, .class_ 298), (0, u "java/io/Serializable"), (0, u "ADDRESS_BITS_PER_WORD"), (2, u "BITS_PER_WORD"), (1, u "BIT_INDEX_MASK"), (1, u "WORD_MASK"), (0, u "J"), (0, u "serialVersionUID")] 108

def k6c0 : Code := { maxStack := 2, maxLocals := 1, code := jdk_92_method_1_code, exceptionTable := #[], attributes := #[] }
def k6m0 : Method := { name := "wordIndex", desc := "(I)I", sig := { parameters := [.int], returnType := some .int }, accessFlags := 10, code := some k6c0 }
def k6c1 : Code := { maxStack := 4, maxLocals := 1, code := jdk_92_method_2_code, exceptionTable := #[], attributes := #[] }
def k6m1 : Method := { name := "checkInvariants", desc := "()V", sig := { parameters := [], returnType := none }, accessFlags := 2, code := some k6c1 }
def k6c2 : Code := { maxStack := 2, maxLocals := 1, code := jdk_92_method_4_code, exceptionTable := #[], attributes := #[] }
def k6m2 : Method := { name := "<init>", desc := "()V", sig := { parameters := [], returnType := none }, accessFlags := 1, code := some k6c2 }
def k6c3 : Code := { maxStack := 3, maxLocals := 2, code := jdk_92_method_6_code, exceptionTable := #[], attributes := #[] }
def k6m3 : Method := { name := "initWords", desc := "(I)V", sig := { parameters := [.int], returnType := none }, accessFlags := 2, code := some k6c3 }
def k6c4 : Code := { maxStack := 3, maxLocals := 3, code := jdk_92_method_14_code, exceptionTable := #[], attributes := #[] }
def k6m4 : Method := { name := "ensureCapacity", desc := "(I)V", sig := { parameters := [.int], returnType := none }, accessFlags := 2, code := some k6c4 }
def k6c5 : Code := { maxStack := 2, maxLocals := 3, code := jdk_92_method_15_code, exceptionTable := #[], attributes := #[] }
def k6m5 : Method := { name := "expandTo", desc := "(I)V", sig := { parameters := [.int], returnType := none }, accessFlags := 2, code := some k6c5 }
def k6c6 : Code := { maxStack := 7, maxLocals := 3, code := jdk_92_method_19_code, exceptionTable := #[], attributes := #[] }
def k6m6 : Method := { name := "set", desc := "(I)V", sig := { parameters := [.int], returnType := none }, accessFlags := 1, code := some k6c6 }
/-- java/util/BitSet -/
def k6 : Class := { plain "java/util/BitSet" (some 0) with
  accessFlags := 33
  interfaces := #[4, 5]
  cf := some (fileOf pool6 1 #[.nestMembers #[269]] #[{ accessFlags := 10, nameIndex := 54, descriptorIndex := 55, attributes := #[] }, { accessFlags := 2, nameIndex := 58, descriptorIndex := 20, attributes := #[] }, { accessFlags := 1, nameIndex := 19, descriptorIndex := 20, attributes := #[] }, { accessFlags := 2, nameIndex := 29, descriptorIndex := 30, attributes := #[] }, { accessFlags := 2, nameIndex := 141, descriptorIndex := 30, attributes := #[] }, { accessFlags := 2, nameIndex := 157, descriptorIndex := 30, attributes := #[] }, { accessFlags := 1, nameIndex := 169, descriptorIndex := 30, attributes := #[] }] 33 22 #[295, 297] #[{ accessFlags := 26, nameIndex := 299, descriptorIndex := 10, attributes := #[] }, { accessFlags := 26, nameIndex := 302, descriptorIndex := 10, attributes := #[] }, { accessFlags := 26, nameIndex := 304, descriptorIndex := 10, attributes := #[] }, { accessFlags := 26, nameIndex := 306, descriptorIndex := 307, attributes := #[] }, { accessFlags := 26, nameIndex := 293, descriptorIndex := 294, attributes := #[] }, { accessFlags := 2, nameIndex := 13, descriptorIndex := 14, attributes := #[] }, { accessFlags := 130, nameIndex := 9, descriptorIndex := 10, attributes := #[] }, { accessFlags := 130, nameIndex := 26, descriptorIndex := 6, attributes := #[] }, { accessFlags := 26, nameIndex := 308, descriptorIndex := 307, attributes := #[] }, { accessFlags := 4120, nameIndex := 5, descriptorIndex := 6, attributes := #[] }])
  fields := #[{ name := "ADDRESS_BITS_PER_WORD", type := .int, accessFlags := 26, slot := 0, constantValue := 0 }, { name := "BITS_PER_WORD", type := .int, accessFlags := 26, slot := 1, constantValue := 0 }, { name := "BIT_INDEX_MASK", type := .int, accessFlags := 26, slot := 2, constantValue := 0 }, { name := "WORD_MASK", type := .long, accessFlags := 26, slot := 3, constantValue := 0 }, { name := "serialPersistentFields", type := (.array (.object "java/io/ObjectStreamField")), accessFlags := 26, slot := 4, constantValue := 0 }, { name := "words", type := (.array .long), accessFlags := 2, slot := 0, constantValue := 0 }, { name := "wordsInUse", type := .int, accessFlags := 130, slot := 1, constantValue := 0 }, { name := "sizeIsSticky", type := .boolean, accessFlags := 130, slot := 2, constantValue := 0 }, { name := "serialVersionUID", type := .long, accessFlags := 26, slot := 5, constantValue := 0 }, { name := "$assertionsDisabled", type := .boolean, accessFlags := 4120, slot := 6, constantValue := 0 }]
  methods := #[k6m0, k6m1, k6m2, k6m3, k6m4, k6m5, k6m6]
  instanceTypes := #[(.array .long), .int, .boolean]
  staticTypes := #[.int, .int, .int, .long, (.array (.object "java/io/ObjectStreamField")), .long, .boolean]
  resolved := Array.replicate 417 none
  statics := some 0 }

def pool7 : Array CpInfo := pool [(2, .class_ 4), (1, u "java/lang/Object"), (0, u "<init>"), (0, u "()V"), (1, .class_ 10), (1, u "java/lang/Number"), (2, .class_ 14), (0, u "java/io/Serializable"), (0, u "serialVersionUID"), (0, u "J")] 20

def k7m0 : Method := { name := "<init>", desc := "()V", sig := { parameters := [], returnType := none }, accessFlags := 1, code := none }
/-- java/lang/Number -/
def k7 : Class := { plain "java/lang/Number" (some 0) with
  accessFlags := 1057
  interfaces := #[5]
  cf := some (fileOf pool7 8 #[] #[{ accessFlags := 1, nameIndex := 5, descriptorIndex := 6, attributes := #[] }] 1057 2 #[13] #[{ accessFlags := 26, nameIndex := 15, descriptorIndex := 16, attributes := #[] }])
  fields := #[{ name := "serialVersionUID", type := .long, accessFlags := 26, slot := 0, constantValue := 0 }]
  methods := #[k7m0]
  instanceTypes := #[]
  staticTypes := #[.long]
  resolved := Array.replicate 37 none
  statics := none }

def pool8 : Array CpInfo := pool [(1, .class_ 2), (0, u "java/lang/Comparable"), (0, .class_ 4), (0, u "java/lang/Object")] 7

/-- java/lang/Comparable -/
def k8 : Class := { plain "java/lang/Comparable" (some 0) with
  accessFlags := 1537
  interfaces := #[]
  cf := some (fileOf pool8 1 #[] #[] 1537 3 #[] #[])
  fields := #[]
  methods := #[]
  instanceTypes := #[]
  staticTypes := #[]
  resolved := Array.replicate 12 none
  statics := none }

def pool9 : Array CpInfo := pool [(1, .class_ 2), (0, u "java/lang/constant/Constable"), (0, .class_ 4), (0, u "java/lang/Object")] 6

/-- java/lang/constant/Constable -/
def k9 : Class := { plain "java/lang/constant/Constable" (some 0) with
  accessFlags := 1537
  interfaces := #[]
  cf := some (fileOf pool9 1 #[] #[] 1537 3 #[] #[])
  fields := #[]
  methods := #[]
  instanceTypes := #[]
  staticTypes := #[]
  resolved := Array.replicate 11 none
  statics := none }

def pool10 : Array CpInfo := pool [(1, .class_ 2), (0, u "java/lang/constant/ConstantDesc"), (0, .class_ 4), (0, u "java/lang/Object")] 32

/-- java/lang/constant/ConstantDesc -/
def k10 : Class := { plain "java/lang/constant/ConstantDesc" (some 0) with
  accessFlags := 1537
  interfaces := #[]
  cf := some (fileOf pool10 1 #[] #[] 1537 3 #[] #[])
  fields := #[]
  methods := #[]
  instanceTypes := #[]
  staticTypes := #[]
  resolved := Array.replicate 37 none
  statics := none }

def pool11 : Array CpInfo := pool [(1, .class_ 2), (0, u "java/lang/Long"), (15, .class_ 20), (1, u "java/lang/Integer"), (79, u "numberOfLeadingZeros"), (0, u "(J)I"), (133, .class_ 237), (1, u "java/lang/Long$LongCache"), (33, .class_ 272), (0, u "java/lang/Number"), (2, u "value"), (0, u "J"), (31, .methodref 18 309), (0, .nameAndType 100 310), (0, u "(I)I"), (50, u "TYPE"), (0, u "Ljava/lang/Class;"), (0, .class_ 364), (0, u "java/lang/Comparable"), (0, .class_ 366), (0, u "java/lang/constant/Constable"), (0, .class_ 368), (0, u "java/lang/constant/ConstantDesc"), (0, u "MIN_VALUE"), (1, u "MAX_VALUE"), (4, u "SIZE"), (0, u "I"), (1, u "BYTES"), (1, u "serialVersionUID")] 142

def k11c0 : Code := { maxStack := 3, maxLocals := 3, code := jdk_35_method_48_code, exceptionTable := #[], attributes := #[] }
def k11m0 : Method := { name := "numberOfLeadingZeros", desc := "(J)I", sig := { parameters := [.long], returnType := some .int }, accessFlags := 9, code := some k11c0 }
/-- java/lang/Long -/
def k11 : Class := { plain "java/lang/Long" (some 7) with
  accessFlags := 49
  interfaces := #[8, 9, 10]
  cf := some (fileOf pool11 1 #[.nestMembers #[235]] #[{ accessFlags := 9, nameIndex := 100, descriptorIndex := 101, attributes := #[] }] 49 271 #[363, 365, 367] #[{ accessFlags := 25, nameIndex := 369, descriptorIndex := 276, attributes := #[] }, { accessFlags := 25, nameIndex := 371, descriptorIndex := 276, attributes := #[] }, { accessFlags := 25, nameIndex := 361, descriptorIndex := 362, attributes := #[] }, { accessFlags := 18, nameIndex := 275, descriptorIndex := 276, attributes := #[] }, { accessFlags := 25, nameIndex := 376, descriptorIndex := 377, attributes := #[] }, { accessFlags := 25, nameIndex := 379, descriptorIndex := 377, attributes := #[] }, { accessFlags := 26, nameIndex := 381, descriptorIndex := 276, attributes := #[] }])
  fields := #[{ name := "MIN_VALUE", type := .long, accessFlags := 25, slot := 0, constantValue := 0 }, { name := "MAX_VALUE", type := .long, accessFlags := 25, slot := 1, constantValue := 0 }, { name := "TYPE", type := (.object "java/lang/Class"), accessFlags := 25, slot := 2, constantValue := 0 }, { name := "value", type := .long, accessFlags := 18, slot := 0, constantValue := 0 }, { name := "SIZE", type := .int, accessFlags := 25, slot := 3, constantValue := 0 }, { name := "BYTES", type := .int, accessFlags := 25, slot := 4, constantValue := 0 }, { name := "serialVersionUID", type := .long, accessFlags := 26, slot := 5, constantValue := 0 }]
  methods := #[k11m0]
  instanceTypes := #[.long]
  staticTypes := #[.long, .long, (.object "java/lang/Class"), .int, .int, .long]
  resolved := Array.replicate 524 none
  statics := none }

def pool12 : Array CpInfo := pool [(1, .class_ 2), (0, u "java/lang/Integer"), (16, u "digits"), (0, u "[C"), (32, u "numberOfLeadingZeros"), (0, u "(I)I"), (30, u "DigitOnes"), (0, u "[B"), (2, u "DigitTens"), (99, .class_ 190), (0, u "java/lang/Integer$IntegerCache"), (3, u "I"), (8, .class_ 204), (0, u "java/lang/Number"), (2, u "value"), (56, .integer 65536), (37, u "TYPE"), (0, u "Ljava/lang/Class;"), (0, .class_ 305), (0, u "java/lang/Comparable"), (0, .class_ 307), (0, u "java/lang/constant/Constable"), (0, .class_ 309), (0, u "java/lang/constant/ConstantDesc"), (0, u "MIN_VALUE"), (1, u "MAX_VALUE"), (3, u "SIZE"), (1, u "BYTES"), (1, u "serialVersionUID"), (0, u "J")] 131

def k12c0 : Code := { maxStack := 3, maxLocals := 2, code := jdk_33_method_47_code, exceptionTable := #[], attributes := #[] }
def k12m0 : Method := { name := "numberOfLeadingZeros", desc := "(I)I", sig := { parameters := [.int], returnType := some .int }, accessFlags := 9, code := some k12c0 }
/-- java/lang/Integer -/
def k12 : Class := { plain "java/lang/Integer" (some 7) with
  accessFlags := 49
  interfaces := #[8, 9, 10]
  cf := some (fileOf pool12 1 #[.nestMembers #[189]] #[{ accessFlags := 9, nameIndex := 53, descriptorIndex := 54, attributes := #[] }] 49 203 #[304, 306, 308] #[{ accessFlags := 25, nameIndex := 310, descriptorIndex := 194, attributes := #[] }, { accessFlags := 25, nameIndex := 312, descriptorIndex := 194, attributes := #[] }, { accessFlags := 25, nameIndex := 302, descriptorIndex := 303, attributes := #[] }, { accessFlags := 24, nameIndex := 19, descriptorIndex := 20, attributes := #[] }, { accessFlags := 24, nameIndex := 89, descriptorIndex := 86, attributes := #[] }, { accessFlags := 24, nameIndex := 85, descriptorIndex := 86, attributes := #[] }, { accessFlags := 18, nameIndex := 207, descriptorIndex := 194, attributes := #[] }, { accessFlags := 25, nameIndex := 316, descriptorIndex := 194, attributes := #[] }, { accessFlags := 25, nameIndex := 318, descriptorIndex := 194, attributes := #[] }, { accessFlags := 26, nameIndex := 320, descriptorIndex := 321, attributes := #[] }])
  fields := #[{ name := "MIN_VALUE", type := .int, accessFlags := 25, slot := 0, constantValue := 0 }, { name := "MAX_VALUE", type := .int, accessFlags := 25, slot := 1, constantValue := 0 }, { name := "TYPE", type := (.object "java/lang/Class"), accessFlags := 25, slot := 2, constantValue := 0 }, { name := "digits", type := (.array .char), accessFlags := 24, slot := 3, constantValue := 0 }, { name := "DigitTens", type := (.array .byte), accessFlags := 24, slot := 4, constantValue := 0 }, { name := "DigitOnes", type := (.array .byte), accessFlags := 24, slot := 5, constantValue := 0 }, { name := "value", type := .int, accessFlags := 18, slot := 0, constantValue := 0 }, { name := "SIZE", type := .int, accessFlags := 25, slot := 6, constantValue := 0 }, { name := "BYTES", type := .int, accessFlags := 25, slot := 7, constantValue := 0 }, { name := "serialVersionUID", type := .long, accessFlags := 26, slot := 8, constantValue := 0 }]
  methods := #[k12m0]
  instanceTypes := #[.int]
  staticTypes := #[.int, .int, (.object "java/lang/Class"), (.array .char), (.array .byte), (.array .byte), .int, .int, .long]
  resolved := Array.replicate 453 none
  statics := none }

def pool13 : Array CpInfo := pool [(1, .class_ 2), (0, u "java/lang/Math"), (1, .class_ 6), (1, u "java/lang/Object"), (0, u "<init>"), (0, u "()V"), (89, .class_ 100), (1, u "java/lang/Math$RandomNumberGeneratorHolder"), (20, u "(JJ)J"), (50, u "negativeZeroFloatBits"), (0, u "J"), (2, u "negativeZeroDoubleBits"), (21, u "max"), (2, u "min"), (43, u "$assertionsDisabled"), (0, u "Z"), (88, u "(II)I"), (2, u "twoToTheDoubleScaleDown"), (0, u "D"), (4, u "twoToTheDoubleScaleUp"), (9, u "E"), (3, u "PI"), (2, u "TAU"), (2, u "DEGREES_TO_RADIANS"), (0, u "RADIANS_TO_DEGREES")] 94

def k13m0 : Method := { name := "<init>", desc := "()V", sig := { parameters := [], returnType := none }, accessFlags := 2, code := none }
def k13c1 : Code := { maxStack := 4, maxLocals := 4, code := jdk_29_method_66_code, exceptionTable := #[], attributes := #[] }
def k13m1 : Method := { name := "max", desc := "(JJ)J", sig := { parameters := [.long, .long], returnType := some .long }, accessFlags := 9, code := some k13c1 }
def k13c2 : Code := { maxStack := 2, maxLocals := 2, code := jdk_29_method_69_code, exceptionTable := #[], attributes := #[] }
def k13m2 : Method := { name := "min", desc := "(II)I", sig := { parameters := [.int, .int], returnType := some .int }, accessFlags := 9, code := some k13c2 }
def k13c3 : Code := { maxStack := 4, maxLocals := 4, code := jdk_29_method_70_code, exceptionTable := #[], attributes := #[] }
def k13m3 : Method := { name := "min", desc := "(JJ)J", sig := { parameters := [.long, .long], returnType := some .long }, accessFlags := 9, code := some k13c3 }
/-- java/lang/Math -/
def k13 : Class := { plain "java/lang/Math" (some 0) with
  accessFlags := 49
  interfaces := #[]
  cf := some (fileOf pool13 1 #[.nestMembers #[98]] #[{ accessFlags := 2, nameIndex := 7, descriptorIndex := 8, attributes := #[] }, { accessFlags := 9, nameIndex := 198, descriptorIndex := 121, attributes := #[] }, { accessFlags := 9, nameIndex := 201, descriptorIndex := 335, attributes := #[] }, { accessFlags := 9, nameIndex := 201, descriptorIndex := 121, attributes := #[] }] 49 4 #[] #[{ accessFlags := 25, nameIndex := 354, descriptorIndex := 339, attributes := #[] }, { accessFlags := 25, nameIndex := 358, descriptorIndex := 339, attributes := #[] }, { accessFlags := 25, nameIndex := 361, descriptorIndex := 339, attributes := #[] }, { accessFlags := 26, nameIndex := 364, descriptorIndex := 339, attributes := #[] }, { accessFlags := 26, nameIndex := 365, descriptorIndex := 339, attributes := #[] }, { accessFlags := 26, nameIndex := 172, descriptorIndex := 173, attributes := #[] }, { accessFlags := 26, nameIndex := 176, descriptorIndex := 173, attributes := #[] }, { accessFlags := 8, nameIndex := 344, descriptorIndex := 339, attributes := #[] }, { accessFlags := 8, nameIndex := 338, descriptorIndex := 339, attributes := #[] }, { accessFlags := 4120, nameIndex := 245, descriptorIndex := 246, attributes := #[] }])
  fields := #[{ name := "E", type := .double, accessFlags := 25, slot := 0, constantValue := 0 }, { name := "PI", type := .double, accessFlags := 25, slot := 1, constantValue := 0 }, { name := "TAU", type := .double, accessFlags := 25, slot := 2, constantValue := 0 }, { name := "DEGREES_TO_RADIANS", type := .double, accessFlags := 26, slot := 3, constantValue := 0 }, { name := "RADIANS_TO_DEGREES", type := .double, accessFlags := 26, slot := 4, constantValue := 0 }, { name := "negativeZeroFloatBits", type := .long, accessFlags := 26, slot := 5, constantValue := 0 }, { name := "negativeZeroDoubleBits", type := .long, accessFlags := 26, slot := 6, constantValue := 0 }, { name := "twoToTheDoubleScaleUp", type := .double, accessFlags := 8, slot := 7, constantValue := 0 }, { name := "twoToTheDoubleScaleDown", type := .double, accessFlags := 8, slot := 8, constantValue := 0 }, { name := "$assertionsDisabled", type := .boolean, accessFlags := 4120, slot := 9, constantValue := 0 }]
  methods := #[k13m0, k13m1, k13m2, k13m3]
  instanceTypes := #[]
  staticTypes := #[.double, .double, .double, .double, .double, .long, .long, .double, .double, .boolean]
  resolved := Array.replicate 460 none
  statics := none }

def pool14 : Array CpInfo := pool [(4, .class_ 6), (1, u "java/lang/Object"), (3, .class_ 12), (1, u "com/example/orbitfold/orbitfold/MarkovChain"), (0, u "initialStates"), (0, u "[I"), (2, u "rowStart"), (2, u "targets"), (2, u "probabilities"), (0, u "[D"), (5, .integer 2147483639), (7, .long 2147483639), (1, .methodref 41 42), (0, .class_ 43), (0, .nameAndType 44 45), (0, u "java/lang/Math"), (0, u "max"), (0, u "(JJ)J"), (0, .methodref 41 47), (0, .nameAndType 48 45), (0, u "min"), (0, u "LONGEST_ARRAY"), (0, u "I"), (13, u "grownLength"), (0, u "(II)I"), (4, .class_ 71), (0, u "com/example/orbitfold/orbitfold/MarkovChain$Builder")] 2

def k14c0 : Code := { maxStack := 8, maxLocals := 2, code := prog_24_method_9_code, exceptionTable := #[], attributes := #[] }
def k14m0 : Method := { name := "grownLength", desc := "(II)I", sig := { parameters := [.int, .int], returnType := some .int }, accessFlags := 8, code := some k14c0 }
/-- com/example/orbitfold/orbitfold/MarkovChain -/
def k14 : Class := { plain "com/example/orbitfold/orbitfold/MarkovChain" (some 0) with
  accessFlags := 49
  interfaces := #[]
  cf := some (fileOf pool14 10 #[.nestMembers #[70]] #[{ accessFlags := 8, nameIndex := 64, descriptorIndex := 65, attributes := #[] }] 49 4 #[] #[{ accessFlags := 24, nameIndex := 49, descriptorIndex := 50, attributes := #[] }, { accessFlags := 18, nameIndex := 13, descriptorIndex := 14, attributes := #[] }, { accessFlags := 18, nameIndex := 17, descriptorIndex := 14, attributes := #[] }, { accessFlags := 18, nameIndex := 20, descriptorIndex := 14, attributes := #[] }, { accessFlags := 18, nameIndex := 23, descriptorIndex := 24, attributes := #[] }])
  fields := #[{ name := "LONGEST_ARRAY", type := .int, accessFlags := 24, slot := 0, constantValue := 0 }, { name := "initialStates", type := (.array .int), accessFlags := 18, slot := 0, constantValue := 0 }, { name := "rowStart", type := (.array .int), accessFlags := 18, slot := 1, constantValue := 0 }, { name := "targets", type := (.array .int), accessFlags := 18, slot := 2, constantValue := 0 }, { name := "probabilities", type := (.array .double), accessFlags := 18, slot := 3, constantValue := 0 }]
  methods := #[k14m0]
  instanceTypes := #[(.array .int), (.array .int), (.array .int), (.array .double)]
  staticTypes := #[.int]
  resolved := Array.replicate 74 none
  statics := none }

def pool15 : Array CpInfo := pool [(2, .class_ 4), (1, u "java/lang/Object"), (0, u "<init>"), (0, u "()V"), (1, .class_ 10), (1, u "java/lang/System"), (0, u "allowSecurityManager"), (0, u "I"), (16, u "cons"), (0, u "Ljava/io/Console;"), (77, .class_ 110), (1, u "java/lang/System$CallersHolder"), (43, u "initialErrStream"), (0, u "Ljava/io/PrintStream;"), (19, u "security"), (0, u "Ljava/lang/SecurityManager;"), (31, .class_ 209), (0, u "java/lang/System$1"), (7, u "props"), (0, u "Ljava/util/Properties;"), (2, u "lineSeparator"), (0, u "Ljava/lang/String;"), (96, .class_ 321), (1, u "java/lang/System$LoggerFinder"), (5, .class_ 328), (0, u "java/lang/System$Logger"), (67, u "err"), (2, u "out"), (91, u "notSupportedJnuEncoding"), (15, u "in"), (17, u "initialIn"), (0, u "Ljava/io/InputStream;"), (35, u "bootLayer"), (0, u "Ljava/lang/ModuleLayer;"), (99, .class_ 664), (0, u "java/lang/System$2"), (9, u "NEVER"), (2, u "MAYBE"), (49, u "arraycopy"), (0, u "(Ljava/lang/Object;ILjava/lang/Object;II)V"), (72, .class_ 802), (0, u "java/lang/System$Logger$Level")] 31

def k15m0 : Method := { name := "<init>", desc := "()V", sig := { parameters := [], returnType := none }, accessFlags := 2, code := none }
def k15m1 : Method := { name := "arraycopy", desc := "(Ljava/lang/Object;ILjava/lang/Object;II)V", sig := { parameters := [(.object "java/lang/Object"), .int, (.object "java/lang/Object"), .int, .int], returnType := none }, accessFlags := 265, code := none }
/-- java/lang/System -/
def k15 : Class := { plain "java/lang/System" (some 0) with
  accessFlags := 49
  interfaces := #[]
  cf := some (fileOf pool15 8 #[.nestMembers #[319, 327, 801, 108, 663, 208]] #[{ accessFlags := 2, nameIndex := 5, descriptorIndex := 6, attributes := #[] }, { accessFlags := 265, nameIndex := 727, descriptorIndex := 728, attributes := #[] }] 49 2 #[] #[{ accessFlags := 25, nameIndex := 507, descriptorIndex := 526, attributes := #[] }, { accessFlags := 25, nameIndex := 399, descriptorIndex := 155, attributes := #[] }, { accessFlags := 25, nameIndex := 396, descriptorIndex := 155, attributes := #[] }, { accessFlags := 10, nameIndex := 525, descriptorIndex := 526, attributes := #[] }, { accessFlags := 26, nameIndex := 674, descriptorIndex := 12, attributes := #[] }, { accessFlags := 26, nameIndex := 677, descriptorIndex := 12, attributes := #[] }, { accessFlags := 10, nameIndex := 11, descriptorIndex := 12, attributes := #[] }, { accessFlags := 74, nameIndex := 175, descriptorIndex := 176, attributes := #[] }, { accessFlags := 10, nameIndex := 491, descriptorIndex := 222, attributes := #[] }, { accessFlags := 74, nameIndex := 29, descriptorIndex := 30, attributes := #[] }, { accessFlags := 74, nameIndex := 154, descriptorIndex := 155, attributes := #[] }, { accessFlags := 10, nameIndex := 217, descriptorIndex := 218, attributes := #[] }, { accessFlags := 10, nameIndex := 221, descriptorIndex := 222, attributes := #[] }, { accessFlags := 8, nameIndex := 562, descriptorIndex := 563, attributes := #[] }])
  fields := #[{ name := "in", type := (.object "java/io/InputStream"), accessFlags := 25, slot := 0, constantValue := 0 }, { name := "out", type := (.object "java/io/PrintStream"), accessFlags := 25, slot := 1, constantValue := 0 }, { name := "err", type := (.object "java/io/PrintStream"), accessFlags := 25, slot := 2, constantValue := 0 }, { name := "initialIn", type := (.object "java/io/InputStream"), accessFlags := 10, slot := 3, constantValue := 0 }, { name := "NEVER", type := .int, accessFlags := 26, slot := 4, constantValue := 0 }, { name := "MAYBE", type := .int, accessFlags := 26, slot := 5, constantValue := 0 }, { name := "allowSecurityManager", type := .int, accessFlags := 10, slot := 6, constantValue := 0 }, { name := "security", type := (.object "java/lang/SecurityManager"), accessFlags := 74, slot := 7, constantValue := 0 }, { name := "notSupportedJnuEncoding", type := (.object "java/lang/String"), accessFlags := 10, slot := 8, constantValue := 0 }, { name := "cons", type := (.object "java/io/Console"), accessFlags := 74, slot := 9, constantValue := 0 }, { name := "initialErrStream", type := (.object "java/io/PrintStream"), accessFlags := 74, slot := 10, constantValue := 0 }, { name := "props", type := (.object "java/util/Properties"), accessFlags := 10, slot := 11, constantValue := 0 }, { name := "lineSeparator", type := (.object "java/lang/String"), accessFlags := 10, slot := 12, constantValue := 0 }, { name := "bootLayer", type := (.object "java/lang/ModuleLayer"), accessFlags := 8, slot := 13, constantValue := 0 }]
  methods := #[k15m0, k15m1]
  instanceTypes := #[]
  staticTypes := #[(.object "java/io/InputStream"), (.object "java/io/PrintStream"), (.object "java/io/PrintStream"), (.object "java/io/InputStream"), .int, .int, .int, (.object "java/lang/SecurityManager"), (.object "java/lang/String"), (.object "java/io/Console"), (.object "java/io/PrintStream"), (.object "java/util/Properties"), (.object "java/lang/String"), (.object "java/lang/ModuleLayer")]
  resolved := Array.replicate 834 none
  statics := none }

/-- the primitive byte -/
def k16 : Class := { plain "byte" none with kind := .primitive 'B', accessFlags := 0x411 }
/-- [B -/
def k17 : Class := { plain "[B" (some 0) with kind := .array 16 .byte, interfaces := #[4, 5], accessFlags := 1041 }

/-- the primitive int -/
def k18 : Class := { plain "int" none with kind := .primitive 'I', accessFlags := 0x411 }
/-- [I -/
def k19 : Class := { plain "[I" (some 0) with kind := .array 18 .int, interfaces := #[4, 5], accessFlags := 1041 }

/-- the primitive long -/
def k20 : Class := { plain "long" none with kind := .primitive 'J', accessFlags := 0x411 }
/-- [J -/
def k21 : Class := { plain "[J" (some 0) with kind := .array 20 .long, interfaces := #[4, 5], accessFlags := 1041 }

def heap : Heap := #[{ cls := 6, slots := #[.int 0, .int 0, .int 0, .long 0, .null, .long 0, .int 1], vm := .statics 6 }]
def classes : Array Class := #[k0, k1, k2, k3, k4, k5, k6, k7, k8, k9, k10, k11, k12, k13, k14, k15, k16, k17, k18, k19, k20, k21]
def interned : List (Array UInt16 × Addr) := []
def slotsUsed : Nat := 7
def theMethod : MethodId := ⟨1, 1⟩
def args0 : Array Value := #[.long 5, .long 5, .long 5, .long 5, .long 5, .int 5]
def aboutOver (below : List Frame) : State where
  vm := { classes := classes, interned := interned.toArray }
  heap := heap
  slotsUsed := slotsUsed
  threads := #[{ frames := .invoking theMethod args0 :: below }]
def below0 : List Frame := [.native { method := ⟨0, 0⟩, args := #[] }]
def about1 : State := aboutOver below0
def p0 : Program := .bare "" "" ""
def e0 : Env := launch0.env 0 0 0
theorem w_frames : about1.frames = Frame.invoking theMethod args0 :: below0 := rfl
set_option maxRecDepth 65536 in
theorem w_args : argsFit about1.vm theMethod args0 = true := by decide +kernel
set_option maxRecDepth 65536 in
theorem w_heap : heapFits about1 = true := by decide +kernel
set_option maxRecDepth 65536 in
theorem w_runnable : about1.curStatus? = some .runnable := by decide +kernel
set_option maxRecDepth 65536 in
theorem w_alone : about1.alone = true := by decide +kernel
set_option maxRecDepth 65536 in
theorem w_named : about1.methodNamed? x = some theMethod := by decide +kernel
set_option maxRecDepth 65536 in
theorem w_hears : about1.hears theMethod below0 = true := by decide +kernel
set_option maxRecDepth 65536 in
theorem w_ripe : about1.ripe theMethod args0 below0 = true := by decide +kernel
theorem w_running : about1.status = .running := rfl
set_option maxRecDepth 65536 in
theorem w_room : about1.hasRoom e0.platform room_1 = true :=
  launch0.hasRoom_least _ room_1 (by decide +kernel) (by decide +kernel) (by decide +kernel) (by decide +kernel) (by decide +kernel) (by decide +kernel)
theorem allAtoms_all (ts : List Jvm.Cond) (a : Array Jvm.Value) (st : Jvm.State) : (allAtoms ts).before a st = ts.all (fun c => c.before a st) := by
  induction ts with
  | nil => rfl
  | cons c t ih =>
    show (Jvm.Cond.and c (allAtoms t)).before a st = _
    rw [Jvm.Cond.before_and, ih, List.all_cons]
def words1 : List Jvm.Cond := Jvm.Cond.code x code maxLocals ret :: tables_1
/-- a 'code' word, met by the world's own term for the bytes: nothing is compared byte by byte -/
theorem code_word {y : MethodName} {bytes : ByteArray} {mx : Nat} {rt : Option FieldType} {a : Array Value} {s : State} {m : MethodId} {meth : Method} {c : Code} (h1 : s.methodNamed? y = some m) (h2 : s.vm.method? m = some meth) (h3 : meth.code = some c) (h4 : c.code = bytes)
    (h5 : (c.maxLocals == mx && c.exceptionTable.isEmpty && decide (c.maxStack ≤ mostOperands) && decide (meth.sig.returnType = rt) && !meth.locks && decide (parseMethodDescriptor y.desc = some meth.sig)) = true) : (Jvm.Cond.code y bytes mx rt).before a s = true := by
  simp only [Bool.and_eq_true, beq_iff_eq, Bool.not_eq_true', decide_eq_true_eq] at h5
  obtain ⟨⟨⟨⟨⟨g1, g2⟩, g3⟩, g4⟩, g5⟩, g6⟩ := h5
  simp [Cond.before, Cond.holds, Cond.value, h1, h2, h3, h4, g1, g2, g3, g4, g5, g6]
def isCode : Jvm.Cond → Bool
  | .code _ _ _ _ => true
  | _ => false
theorem all_split {L : List Jvm.Cond} {P : Jvm.Cond → Bool} (h1 : L.all (fun c => isCode c || P c) = true) (h2 : ∀ c ∈ L.filter isCode, P c = true) : L.all P = true := by
  refine List.all_eq_true.mpr fun c hc => ?_
  have h := List.all_eq_true.mp h1 c hc
  rcases Bool.eq_false_or_eq_true (isCode c) with hi | hi
  · exact h2 c (List.mem_filter.mpr ⟨hc, hi⟩)
  · simpa [hi] using h
set_option maxRecDepth 65536 in
theorem w_c0 : (Jvm.Cond.code x code maxLocals ret).before args0 about1 = true := code_word (m := ⟨1, 1⟩) (meth := k1m1) (c := k1c1) (by decide +kernel) rfl rfl rfl (by decide +kernel)
set_option maxRecDepth 65536 in
theorem w_c1 : (Jvm.Cond.code ({ cls := "com/example/orbitfold/orbitfold/StateIndex", name := "<init>", desc := "()V" } : Jvm.MethodName) prog_34_method_1_code (1 : Nat) (Option.none : Option Jvm.ClassFile.FieldType)).before args0 about1 = true := code_word (m := ⟨2, 0⟩) (meth := k2m0) (c := k2c0) (by decide +kernel) rfl rfl rfl (by decide +kernel)
set_option maxRecDepth 65536 in
theorem w_c2 : (Jvm.Cond.code ({ cls := "java/lang/Object", name := "<init>", desc := "()V" } : Jvm.MethodName) object_method_1_code (1 : Nat) (Option.none : Option Jvm.ClassFile.FieldType)).before args0 about1 = true := code_word (m := ⟨0, 0⟩) (meth := k0m0) (c := k0c0) (by decide +kernel) rfl rfl rfl (by decide +kernel)
set_option maxRecDepth 65536 in
theorem w_c3 : (Jvm.Cond.code ({ cls := "com/example/orbitfold/orbitfold/StateIndex", name := "emptySlots", desc := "(I)[I" } : Jvm.MethodName) prog_34_method_10_code (2 : Nat) (Option.some (Jvm.ClassFile.FieldType.array Jvm.ClassFile.FieldType.int))).before args0 about1 = true := code_word (m := ⟨2, 6⟩) (meth := k2m6) (c := k2c6) (by decide +kernel) rfl rfl rfl (by decide +kernel)
set_option maxRecDepth 65536 in
theorem w_c4 : (Jvm.Cond.code ({ cls := "java/util/Arrays", name := "fill", desc := "([II)V" } : Jvm.MethodName) jdk_65_method_103_code (4 : Nat) (Option.none : Option Jvm.ClassFile.FieldType)).before args0 about1 = true := code_word (m := ⟨3, 1⟩) (meth := k3m1) (c := k3c1) (by decide +kernel) rfl rfl rfl (by decide +kernel)
set_option maxRecDepth 65536 in
theorem w_c5 : (Jvm.Cond.code ({ cls := "java/util/BitSet", name := "<init>", desc := "()V" } : Jvm.MethodName) jdk_92_method_4_code (1 : Nat) (Option.none : Option Jvm.ClassFile.FieldType)).before args0 about1 = true := code_word (m := ⟨6, 2⟩) (meth := k6m2) (c := k6c2) (by decide +kernel) rfl rfl rfl (by decide +kernel)
set_option maxRecDepth 65536 in
theorem w_c6 : (Jvm.Cond.code ({ cls := "java/util/BitSet", name := "initWords", desc := "(I)V" } : Jvm.MethodName) jdk_92_method_6_code (2 : Nat) (Option.none : Option Jvm.ClassFile.FieldType)).before args0 about1 = true := code_word (m := ⟨6, 3⟩) (meth := k6m3) (c := k6c3) (by decide +kernel) rfl rfl rfl (by decide +kernel)
set_option maxRecDepth 65536 in
theorem w_c7 : (Jvm.Cond.code ({ cls := "java/util/BitSet", name := "wordIndex", desc := "(I)I" } : Jvm.MethodName) jdk_92_method_1_code (1 : Nat) (Option.some Jvm.ClassFile.FieldType.int)).before args0 about1 = true := code_word (m := ⟨6, 0⟩) (meth := k6m0) (c := k6c0) (by decide +kernel) rfl rfl rfl (by decide +kernel)
set_option maxRecDepth 65536 in
theorem w_c8 : (Jvm.Cond.code ({ cls := "com/example/orbitfold/orbitfold/StateIndex", name := "indexOf", desc := "([JII)I" } : Jvm.MethodName) prog_34_method_2_code (10 : Nat) (Option.some Jvm.ClassFile.FieldType.int)).before args0 about1 = true := code_word (m := ⟨2, 1⟩) (meth := k2m1) (c := k2c1) (by decide +kernel) rfl rfl rfl (by decide +kernel)
set_option maxRecDepth 65536 in
theorem w_c9 : (Jvm.Cond.code ({ cls := "com/example/orbitfold/orbitfold/StateIndex", name := "hash", desc := "([JII)J" } : Jvm.MethodName) prog_34_method_11_code (6 : Nat) (Option.some Jvm.ClassFile.FieldType.long)).before args0 about1 = true := code_word (m := ⟨2, 7⟩) (meth := k2m7) (c := k2c7) (by decide +kernel) rfl rfl rfl (by decide +kernel)
set_option maxRecDepth 65536 in
theorem w_c10 : (Jvm.Cond.code ({ cls := "com/example/orbitfold/orbitfold/StateIndex", name := "tagOf", desc := "(J)I" } : Jvm.MethodName) prog_34_method_13_code (3 : Nat) (Option.some Jvm.ClassFile.FieldType.int)).before args0 about1 = true := code_word (m := ⟨2, 9⟩) (meth := k2m9) (c := k2c9) (by decide +kernel) rfl rfl rfl (by decide +kernel)
set_option maxRecDepth 65536 in
theorem w_c11 : (Jvm.Cond.code ({ cls := "java/lang/Long", name := "numberOfLeadingZeros", desc := "(J)I" } : Jvm.MethodName) jdk_35_method_48_code (3 : Nat) (Option.some Jvm.ClassFile.FieldType.int)).before args0 about1 = true := code_word (m := ⟨11, 0⟩) (meth := k11m0) (c := k11c0) (by decide +kernel) rfl rfl rfl (by decide +kernel)
set_option maxRecDepth 65536 in
theorem w_c12 : (Jvm.Cond.code ({ cls := "java/lang/Integer", name := "numberOfLeadingZeros", desc := "(I)I" } : Jvm.MethodName) jdk_33_method_47_code (2 : Nat) (Option.some Jvm.ClassFile.FieldType.int)).before args0 about1 = true := code_word (m := ⟨12, 0⟩) (meth := k12m0) (c := k12c0) (by decide +kernel) rfl rfl rfl (by decide +kernel)
set_option maxRecDepth 65536 in
theorem w_c13 : (Jvm.Cond.code ({ cls := "com/example/orbitfold/orbitfold/StateIndex", name := "slotOf", desc := "(J)I" } : Jvm.MethodName) prog_34_method_12_code (3 : Nat) (Option.some Jvm.ClassFile.FieldType.int)).before args0 about1 = true := code_word (m := ⟨2, 8⟩) (meth := k2m8) (c := k2c8) (by decide +kernel) rfl rfl rfl (by decide +kernel)
set_option maxRecDepth 65536 in
theorem w_c14 : (Jvm.Cond.code ({ cls := "com/example/orbitfold/orbitfold/StateIndex", name := "keep", desc := "([JII)I" } : Jvm.MethodName) prog_34_method_4_code (9 : Nat) (Option.some Jvm.ClassFile.FieldType.int)).before args0 about1 = true := code_word (m := ⟨2, 3⟩) (meth := k2m3) (c := k2c3) (by decide +kernel) rfl rfl rfl (by decide +kernel)
set_option maxRecDepth 65536 in
theorem w_c15 : (Jvm.Cond.code ({ cls := "java/lang/Math", name := "min", desc := "(JJ)J" } : Jvm.MethodName) jdk_29_method_70_code (4 : Nat) (Option.some Jvm.ClassFile.FieldType.long)).before args0 about1 = true := code_word (m := ⟨13, 3⟩) (meth := k13m3) (c := k13c3) (by decide +kernel) rfl rfl rfl (by decide +kernel)
set_option maxRecDepth 65536 in
theorem w_c16 : (Jvm.Cond.code ({ cls := "java/lang/Math", name := "max", desc := "(JJ)J" } : Jvm.MethodName) jdk_29_method_66_code (4 : Nat) (Option.some Jvm.ClassFile.FieldType.long)).before args0 about1 = true := code_word (m := ⟨13, 1⟩) (meth := k13m1) (c := k13c1) (by decide +kernel) rfl rfl rfl (by decide +kernel)
set_option maxRecDepth 65536 in
theorem w_c17 : (Jvm.Cond.code ({ cls := "com/example/orbitfold/orbitfold/MarkovChain", name := "grownLength", desc := "(II)I" } : Jvm.MethodName) prog_24_method_9_code (2 : Nat) (Option.some Jvm.ClassFile.FieldType.int)).before args0 about1 = true := code_word (m := ⟨14, 0⟩) (meth := k14m0) (c := k14c0) (by decide +kernel) rfl rfl rfl (by decide +kernel)
set_option maxRecDepth 65536 in
theorem w_c18 : (Jvm.Cond.code ({ cls := "java/util/Arrays", name := "copyOf", desc := "([JI)[J" } : Jvm.MethodName) jdk_65_method_124_code (3 : Nat) (Option.some (Jvm.ClassFile.FieldType.array Jvm.ClassFile.FieldType.long))).before args0 about1 = true := code_word (m := ⟨3, 2⟩) (meth := k3m2) (c := k3c2) (by decide +kernel) rfl rfl rfl (by decide +kernel)
set_option maxRecDepth 65536 in
theorem w_c19 : (Jvm.Cond.code ({ cls := "java/lang/Math", name := "min", desc := "(II)I" } : Jvm.MethodName) jdk_29_method_69_code (2 : Nat) (Option.some Jvm.ClassFile.FieldType.int)).before args0 about1 = true := code_word (m := ⟨13, 2⟩) (meth := k13m2) (c := k13c2) (by decide +kernel) rfl rfl rfl (by decide +kernel)
set_option maxRecDepth 65536 in
theorem w_c20 : (Jvm.Cond.code ({ cls := "com/example/orbitfold/orbitfold/StateIndex", name := "copy", desc := "(I[J)I" } : Jvm.MethodName) prog_34_method_5_code (6 : Nat) (Option.some Jvm.ClassFile.FieldType.int)).before args0 about1 = true := code_word (m := ⟨2, 4⟩) (meth := k2m4) (c := k2c4) (by decide +kernel) rfl rfl rfl (by decide +kernel)
set_option maxRecDepth 65536 in
theorem w_c21 : (Jvm.Cond.code ({ cls := "com/example/orbitfold/orbitfold/StateIndexCopyPinLaw", name := "check", desc := "([JII[JIJ)Z" } : Jvm.MethodName) method_3_code (7 : Nat) (Option.some Jvm.ClassFile.FieldType.boolean)).before args0 about1 = true := code_word (m := ⟨1, 2⟩) (meth := k1m2) (c := k1c2) (by decide +kernel) rfl rfl rfl (by decide +kernel)
set_option maxRecDepth 65536 in
theorem w_c22 : (Jvm.Cond.code ({ cls := "com/example/orbitfold/orbitfold/StateIndex", name := "append", desc := "([JII)I" } : Jvm.MethodName) prog_34_method_3_code (5 : Nat) (Option.some Jvm.ClassFile.FieldType.int)).before args0 about1 = true := code_word (m := ⟨2, 2⟩) (meth := k2m2) (c := k2c2) (by decide +kernel) rfl rfl rfl (by decide +kernel)
set_option maxRecDepth 65536 in
theorem w_c23 : (Jvm.Cond.code ({ cls := "java/util/BitSet", name := "set", desc := "(I)V" } : Jvm.MethodName) jdk_92_method_19_code (3 : Nat) (Option.none : Option Jvm.ClassFile.FieldType)).before args0 about1 = true := code_word (m := ⟨6, 6⟩) (meth := k6m6) (c := k6c6) (by decide +kernel) rfl rfl rfl (by decide +kernel)
set_option maxRecDepth 65536 in
theorem w_c24 : (Jvm.Cond.code ({ cls := "java/util/BitSet", name := "expandTo", desc := "(I)V" } : Jvm.MethodName) jdk_92_method_15_code (3 : Nat) (Option.none : Option Jvm.ClassFile.FieldType)).before args0 about1 = true := code_word (m := ⟨6, 5⟩) (meth := k6m5) (c := k6c5) (by decide +kernel) rfl rfl rfl (by decide +kernel)
set_option maxRecDepth 65536 in
theorem w_c25 : (Jvm.Cond.code ({ cls := "java/util/BitSet", name := "ensureCapacity", desc := "(I)V" } : Jvm.MethodName) jdk_92_method_14_code (3 : Nat) (Option.none : Option Jvm.ClassFile.FieldType)).before args0 about1 = true := code_word (m := ⟨6, 4⟩) (meth := k6m4) (c := k6c4) (by decide +kernel) rfl rfl rfl (by decide +kernel)
set_option maxRecDepth 65536 in
theorem w_c26 : (Jvm.Cond.code ({ cls := "java/util/BitSet", name := "checkInvariants", desc := "()V" } : Jvm.MethodName) jdk_92_method_2_code (1 : Nat) (Option.none : Option Jvm.ClassFile.FieldType)).before args0 about1 = true := code_word (m := ⟨6, 1⟩) (meth := k6m1) (c := k6c1) (by decide +kernel) rfl rfl rfl (by decide +kernel)
set_option maxRecDepth 65536 in
theorem w_c27 : (Jvm.Cond.code ({ cls := "com/example/orbitfold/orbitfold/StateIndex", name := "matches", desc := "(I[JII)Z" } : Jvm.MethodName) prog_34_method_7_code (7 : Nat) (Option.some Jvm.ClassFile.FieldType.boolean)).before args0 about1 = true := code_word (m := ⟨2, 5⟩) (meth := k2m5) (c := k2c5) (by decide +kernel) rfl rfl rfl (by decide +kernel)
def codes1 : List Jvm.Cond := [Jvm.Cond.code x code maxLocals ret, Jvm.Cond.code ({ cls := "com/example/orbitfold/orbitfold/StateIndex", name := "<init>", desc := "()V" } : Jvm.MethodName) prog_34_method_1_code (1 : Nat) (Option.none : Option Jvm.ClassFile.FieldType), Jvm.Cond.code ({ cls := "java/lang/Object", name := "<init>", desc := "()V" } : Jvm.MethodName) object_method_1_code (1 : Nat) (Option.none : Option Jvm.ClassFile.FieldType), Jvm.Cond.code ({ cls := "com/example/orbitfold/orbitfold/StateIndex", name := "emptySlots", desc := "(I)[I" } : Jvm.MethodName) prog_34_method_10_code (2 : Nat) (Option.some (Jvm.ClassFile.FieldType.array Jvm.ClassFile.FieldType.int)), Jvm.Cond.code ({ cls := "java/util/Arrays", name := "fill", desc := "([II)V" } : Jvm.MethodName) jdk_65_method_103_code (4 : Nat) (Option.none : Option Jvm.ClassFile.FieldType), Jvm.Cond.code ({ cls := "java/util/BitSet", name := "<init>", desc := "()V" } : Jvm.MethodName) jdk_92_method_4_code (1 : Nat) (Option.none : Option Jvm.ClassFile.FieldType), Jvm.Cond.code ({ cls := "java/util/BitSet", name := "initWords", desc := "(I)V" } : Jvm.MethodName) jdk_92_method_6_code (2 : Nat) (Option.none : Option Jvm.ClassFile.FieldType), Jvm.Cond.code ({ cls := "java/util/BitSet", name := "wordIndex", desc := "(I)I" } : Jvm.MethodName) jdk_92_method_1_code (1 : Nat) (Option.some Jvm.ClassFile.FieldType.int), Jvm.Cond.code ({ cls := "com/example/orbitfold/orbitfold/StateIndex", name := "indexOf", desc := "([JII)I" } : Jvm.MethodName) prog_34_method_2_code (10 : Nat) (Option.some Jvm.ClassFile.FieldType.int), Jvm.Cond.code ({ cls := "com/example/orbitfold/orbitfold/StateIndex", name := "hash", desc := "([JII)J" } : Jvm.MethodName) prog_34_method_11_code (6 : Nat) (Option.some Jvm.ClassFile.FieldType.long), Jvm.Cond.code ({ cls := "com/example/orbitfold/orbitfold/StateIndex", name := "tagOf", desc := "(J)I" } : Jvm.MethodName) prog_34_method_13_code (3 : Nat) (Option.some Jvm.ClassFile.FieldType.int), Jvm.Cond.code ({ cls := "java/lang/Long", name := "numberOfLeadingZeros", desc := "(J)I" } : Jvm.MethodName) jdk_35_method_48_code (3 : Nat) (Option.some Jvm.ClassFile.FieldType.int), Jvm.Cond.code ({ cls := "java/lang/Integer", name := "numberOfLeadingZeros", desc := "(I)I" } : Jvm.MethodName) jdk_33_method_47_code (2 : Nat) (Option.some Jvm.ClassFile.FieldType.int), Jvm.Cond.code ({ cls := "com/example/orbitfold/orbitfold/StateIndex", name := "slotOf", desc := "(J)I" } : Jvm.MethodName) prog_34_method_12_code (3 : Nat) (Option.some Jvm.ClassFile.FieldType.int), Jvm.Cond.code ({ cls := "com/example/orbitfold/orbitfold/StateIndex", name := "keep", desc := "([JII)I" } : Jvm.MethodName) prog_34_method_4_code (9 : Nat) (Option.some Jvm.ClassFile.FieldType.int), Jvm.Cond.code ({ cls := "java/lang/Math", name := "min", desc := "(JJ)J" } : Jvm.MethodName) jdk_29_method_70_code (4 : Nat) (Option.some Jvm.ClassFile.FieldType.long), Jvm.Cond.code ({ cls := "java/lang/Math", name := "max", desc := "(JJ)J" } : Jvm.MethodName) jdk_29_method_66_code (4 : Nat) (Option.some Jvm.ClassFile.FieldType.long), Jvm.Cond.code ({ cls := "com/example/orbitfold/orbitfold/MarkovChain", name := "grownLength", desc := "(II)I" } : Jvm.MethodName) prog_24_method_9_code (2 : Nat) (Option.some Jvm.ClassFile.FieldType.int), Jvm.Cond.code ({ cls := "java/util/Arrays", name := "copyOf", desc := "([JI)[J" } : Jvm.MethodName) jdk_65_method_124_code (3 : Nat) (Option.some (Jvm.ClassFile.FieldType.array Jvm.ClassFile.FieldType.long)), Jvm.Cond.code ({ cls := "java/lang/Math", name := "min", desc := "(II)I" } : Jvm.MethodName) jdk_29_method_69_code (2 : Nat) (Option.some Jvm.ClassFile.FieldType.int), Jvm.Cond.code ({ cls := "com/example/orbitfold/orbitfold/StateIndex", name := "copy", desc := "(I[J)I" } : Jvm.MethodName) prog_34_method_5_code (6 : Nat) (Option.some Jvm.ClassFile.FieldType.int), Jvm.Cond.code ({ cls := "com/example/orbitfold/orbitfold/StateIndexCopyPinLaw", name := "check", desc := "([JII[JIJ)Z" } : Jvm.MethodName) method_3_code (7 : Nat) (Option.some Jvm.ClassFile.FieldType.boolean), Jvm.Cond.code ({ cls := "com/example/orbitfold/orbitfold/StateIndex", name := "append", desc := "([JII)I" } : Jvm.MethodName) prog_34_method_3_code (5 : Nat) (Option.some Jvm.ClassFile.FieldType.int), Jvm.Cond.code ({ cls := "java/util/BitSet", name := "set", desc := "(I)V" } : Jvm.MethodName) jdk_92_method_19_code (3 : Nat) (Option.none : Option Jvm.ClassFile.FieldType), Jvm.Cond.code ({ cls := "java/util/BitSet", name := "expandTo", desc := "(I)V" } : Jvm.MethodName) jdk_92_method_15_code (3 : Nat) (Option.none : Option Jvm.ClassFile.FieldType), Jvm.Cond.code ({ cls := "java/util/BitSet", name := "ensureCapacity", desc := "(I)V" } : Jvm.MethodName) jdk_92_method_14_code (3 : Nat) (Option.none : Option Jvm.ClassFile.FieldType), Jvm.Cond.code ({ cls := "java/util/BitSet", name := "checkInvariants", desc := "()V" } : Jvm.MethodName) jdk_92_method_2_code (1 : Nat) (Option.none : Option Jvm.ClassFile.FieldType), Jvm.Cond.code ({ cls := "com/example/orbitfold/orbitfold/StateIndex", name := "matches", desc := "(I[JII)Z" } : Jvm.MethodName) prog_34_method_7_code (7 : Nat) (Option.some Jvm.ClassFile.FieldType.boolean)]
set_option maxRecDepth 65536 in
theorem codes_eq : words1.filter isCode = codes1 := rfl
theorem w_codes : ∀ c ∈ words1.filter isCode, c.before args0 about1 = true := by
  rw [codes_eq]
  intro c hc
  simp only [codes1, List.mem_cons, List.not_mem_nil, or_false] at hc
  rcases hc with rfl | rfl | rfl | rfl | rfl | rfl | rfl | rfl | rfl | rfl | rfl | rfl | rfl | rfl | rfl | rfl | rfl | rfl | rfl | rfl | rfl | rfl | rfl | rfl | rfl | rfl | rfl | rfl
  · exact w_c0
  · exact w_c1
  · exact w_c2
  · exact w_c3
  · exact w_c4
  · exact w_c5
  · exact w_c6
  · exact w_c7
  · exact w_c8
  · exact w_c9
  · exact w_c10
  · exact w_c11
  · exact w_c12
  · exact w_c13
  · exact w_c14
  · exact w_c15
  · exact w_c16
  · exact w_c17
  · exact w_c18
  · exact w_c19
  · exact w_c20
  · exact w_c21
  · exact w_c22
  · exact w_c23
  · exact w_c24
  · exact w_c25
  · exact w_c26
  · exact w_c27
set_option maxRecDepth 65536 in
theorem w_t1 : (words1.take 24).all (fun c => isCode c || c.before args0 about1) = true := by decide +kernel
set_option maxRecDepth 65536 in
theorem w_t2 : ((words1.drop 24).take 24).all (fun c => isCode c || c.before args0 about1) = true := by decide +kernel
set_option maxRecDepth 65536 in
theorem w_t3 : (((words1.drop 24).drop 24).take 24).all (fun c => isCode c || c.before args0 about1) = true := by decide +kernel
set_option maxRecDepth 65536 in
theorem w_t4 : ((((words1.drop 24).drop 24).drop 24).take 24).all (fun c => isCode c || c.before args0 about1) = true := by decide +kernel
set_option maxRecDepth 65536 in
theorem w_t5 : (((((words1.drop 24).drop 24).drop 24).drop 24).take 24).all (fun c => isCode c || c.before args0 about1) = true := by decide +kernel
set_option maxRecDepth 65536 in
theorem w_t6 : ((((((words1.drop 24).drop 24).drop 24).drop 24).drop 24).take 24).all (fun c => isCode c || c.before args0 about1) = true := by decide +kernel
set_option maxRecDepth 65536 in
theorem w_t7 : ((((((words1.drop 24).drop 24).drop 24).drop 24).drop 24).drop 24).all (fun c => isCode c || c.before args0 about1) = true := by decide +kernel
theorem w_tables : (allAtoms (Jvm.Cond.code x code maxLocals ret :: tables_1)).before args0 about1 = true := by
  rw [allAtoms_all]
  show words1.all (fun c => c.before args0 about1) = true
  refine all_split ?_ w_codes
  rw [← List.take_append_drop 24 words1, List.all_append, w_t1, ← List.take_append_drop 24 (words1.drop 24), List.all_append, w_t2, ← List.take_append_drop 24 ((words1.drop 24).drop 24), List.all_append, w_t3, ← List.take_append_drop 24 (((words1.drop 24).drop 24).drop 24), List.all_append, w_t4, ← List.take_append_drop 24 ((((words1.drop 24).drop 24).drop 24).drop 24), List.all_append, w_t5, ← List.take_append_drop 24 (((((words1.drop 24).drop 24).drop 24).drop 24).drop 24), List.all_append, w_t6, w_t7]
  rfl
set_option maxRecDepth 65536 in
theorem w_rest : rest_1_c.before args0 about1 = true := by decide +kernel
set_option maxRecDepth 65536 in
theorem w_case : (Jvm.Cond.and given_1 narrow_1).before args0 about1 = true := by decide +kernel
theorem w_applies : (headSpec (Jvm.Cond.code x code maxLocals ret :: tables_1) room_1).applies x e0.platform about1 = true :=
  (Spec.applies_iff w_frames).mpr ⟨w_running, w_runnable, w_alone, w_named, w_hears, w_ripe, w_room, w_tables⟩
theorem atStart : AtStart classFile x code maxLocals ret World_1 tables_1 room_1 Calls_1 rest_1 Pre_1 launch0 p0 e0 about1 theMethod args0 below0 :=
  ⟨lists_1, trivial, launch0.admits_env _ _ _, launch0.least_env, fairChoices_fair.cas, fairChoices_fair.clock, w_frames, w_args, w_heap, w_applies, trivial, w_rest, w_case⟩
end start1
theorem witness_1 : WitnessClaimed_1 := ⟨start1.p0, start1.e0, start1.about1, start1.theMethod, start1.args0, start1.below0, start1.atStart⟩
end Jvm.Pilot.@@N@@
