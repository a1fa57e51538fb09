import JvmDerived
import JvmDerived.Pilot.@@N@@Statement
import JvmDerived.Pilot.@@N@@Code
set_option linter.unusedVariables false
set_option linter.unusedSimpArgs false
namespace Jvm.Pilot.@@N@@
open Jvm Jvm.ClassFile Sem Op Lib Jvm.Free Jvm.Stand Jvm.LawKit Jvm.RoadKit Bundle Jvm.Pilot.@@N@@.Jvm.D
section OwnKit
variable {p : Program} {l : Launch} {e : Env} {R : Room} {s : State} {m : MethodId} {args : Array Value} {below : List Frame} {meth : Method} {c : Code} {T : State} {locs : List Loc} {cells slots : Nat} {Z : State} {a0 : Array Value} {h h' h0 : Heap} {a b : Addr} {sl : Nat} {v w : Value} {C n d : String}
theorem own_retZ (X : Stand p l e R s m args below meth c T locs cells slots) (hx : p.tables.exec = Jvm.exec) {pc : Nat} {Ls : Array Slot} {z : Int32} {rest : List Value} (hz : nar .boolean z = z) (hret : meth.sig.returnType = some .boolean) (hd : decode c.code pc = .ok (.ireturn, 1)) {fs : List Frame}
    (hl : ∀ (f : JFrame) (acts : List Action), f.method = m → f.locked = none → f.entered = [] → (doReturn e (T.setTop f) acts (some (.int z))).1 = T.setFrames fs) : Steps p.tables e below (T.setTop (mkF m pc Ls (.int z :: rest))) (T.setFrames fs) :=
  retN X hx hret (Or.inl rfl) hd (by rw [hz]; exact hl)
theorem own_retI (X : Stand p l e R s m args below meth c T locs cells slots) (hx : p.tables.exec = Jvm.exec) {pc : Nat} {Ls : Array Slot} {z : Int32} {rest : List Value} (hret : meth.sig.returnType = some .int) (hd : decode c.code pc = .ok (.ireturn, 1)) {fs : List Frame}
    (hl : ∀ (f : JFrame) (acts : List Action), f.method = m → f.locked = none → f.entered = [] → (doReturn e (T.setTop f) acts (some (.int z))).1 = T.setFrames fs) : Steps p.tables e below (T.setTop (mkF m pc Ls (.int z :: rest))) (T.setFrames fs) :=
  retOut X hx hret rfl (Or.inl ⟨rfl, Or.inl rfl, z, rfl⟩) hd hl
theorem own_retJ (X : Stand p l e R s m args below meth c T locs cells slots) (hx : p.tables.exec = Jvm.exec) {pc : Nat} {Ls : Array Slot} {z : Int64} {rest : List Value} (hret : meth.sig.returnType = some .long) (hd : decode c.code pc = .ok (.lreturn, 1)) {fs : List Frame}
    (hl : ∀ (f : JFrame) (acts : List Action), f.method = m → f.locked = none → f.entered = [] → (doReturn e (T.setTop f) acts (some (.long z))).1 = T.setFrames fs) : Steps p.tables e below (T.setTop (mkF m pc Ls (.long z :: rest))) (T.setFrames fs) :=
  retOut X hx hret rfl (Or.inr (Or.inl ⟨rfl, rfl, z, rfl⟩)) hd hl
theorem own_narR {t : FieldType} (ht : t.isReference = true) (hw : w.isRef = true) : narrow t w = w := by
  cases t <;> first | (cases ht; done) | (cases w <;> first | rfl | (cases hw; done))
theorem own_retA (X : Stand p l e R s m args below meth c T locs cells slots) (hx : p.tables.exec = Jvm.exec) {pc : Nat} {Ls : Array Slot} {t : FieldType} {rest : List Value} (ht : t.isReference = true) (hw : w.isRef = true) (hret : meth.sig.returnType = some t) (hd : decode c.code pc = .ok (.areturn, 1)) {fs : List Frame}
    (hl : ∀ (f : JFrame) (acts : List Action), f.method = m → f.locked = none → f.entered = [] → (doReturn e (T.setTop f) acts (some w)).1 = T.setFrames fs) : Steps p.tables e below (T.setTop (mkF m pc Ls (w :: rest))) (T.setFrames fs) :=
  retOut X hx hret (own_narR ht hw) (Or.inr (Or.inr (Or.inr (Or.inr ⟨rfl, ht, hw⟩)))) hd hl
theorem own_join (X : Stand p l e R s m args below meth c T locs cells slots) {h : Heap} {g g' : JFrame} (K : ∃ T', Stand p l e R s m args below meth c T' locs cells slots ∧ T'.heap = h ∧ ∀ target, Steps p.tables e below (T'.setTop g') target → Steps p.tables e below (T.setTop g) target) :
    ∃ T', Stand p l e R s m args below meth c T' locs cells slots ∧ T'.heap = h ∧ ∀ target, Steps p.tables e below (T'.setTop g') target → Steps p.tables e below (T.setTop g) target := K
theorem own_ext_refl (h : Heap) : Ext h h := ⟨Nat.le_refl _, fun _ _ q => q⟩
theorem own_ext_tr (E : Ext h0 h) (E' : Ext h h') : Ext h0 h' := ⟨Nat.le_trans E.1 E'.1, fun x y q => E'.2 x y (E.2 x y q)⟩
theorem own_ext_wr (E : Ext h0 h) (W : Wr h h' a sl v) (g : h0.size ≤ a) : Ext h0 h' := ⟨by rw [W.size]; exact E.1, fun x y q => by
  obtain ⟨cb', h1, -, -, -, h5, -⟩ := wr_at W (E.2 x y q)
  rw [h1, h5 (fun r => by subst r; exact absurd (Array.getElem?_eq_some_iff.mp q).1 (Nat.not_lt.mpr g))]⟩
theorem own_fld_inj (F : Fld Z h a C n d v) (G : Fld Z h a C n d w) : v = w := by
  obtain ⟨cell, cf, k, i, f, h1, h2, h3, h4, h5, h6, h7⟩ := F
  obtain ⟨cell', cf', k', i', f', g1, g2, g3, g4, g5, g6, g7⟩ := G
  cases h1.symm.trans g1
  cases h2.symm.trans g2
  exact Option.some.inj (h7.symm.trans g7)
theorem own_fld_ne (F : Fld Z h a C n d v) (G : Fld Z h b C n d w) (q : v ≠ w) : a ≠ b := fun r => by subst r; exact q (own_fld_inj F G)
theorem own_ref_ne (q : a ≠ b) : ¬ Value.ref a = Value.ref b := fun r => q (Value.ref.inj r)
theorem own_ref_eq (q : a = b) : Value.ref a = Value.ref b := congrArg Value.ref q
/-- the array at a, of class k, holds just xs -/
def OwnLst (Z : State) (h : Heap) (a : Addr) (ty : FieldType) (k : ClassId) (xs : List Value) : Prop := ∃ cl : Cell, Arr Z h a cl ty ∧ cl.cls = k ∧ cl.slots.toList = xs
theorem OwnLst.ext {ty : FieldType} {k : ClassId} {xs : List Value} (F : OwnLst Z h a ty k xs) (E : Ext h h') : OwnLst Z h' a ty k xs := by obtain ⟨cl, A, q, G⟩ := F; exact ⟨cl, A.ext E, q, G⟩
theorem OwnLst.other {ty : FieldType} {k : ClassId} {xs : List Value} (F : OwnLst Z h b ty k xs) (W : Wr h h' a sl v) (q : b ≠ a) : OwnLst Z h' b ty k xs := by obtain ⟨cl, A, q1, G⟩ := F; exact ⟨cl, A.other W q, q1, G⟩
theorem OwnLst.keep {ty : FieldType} {k : ClassId} {xs : List Value} {ws : List Addr} (F : OwnLst Z h a ty k xs) (K : Keep h h' ws) (q : a ∉ ws) : OwnLst Z h' a ty k xs := by obtain ⟨cl, A, q1, G⟩ := F; exact ⟨cl, ⟨K.2.1 _ _ A.1 q, A.2⟩, q1, G⟩
theorem own_lst_set {ty : FieldType} {k : ClassId} {xs : List Value} {cl : Cell} (A : Arr Z h a cl ty) (q : cl.cls = k) (G : cl.slots.toList = xs) (W : Wr h h' a sl v) : OwnLst Z h' a ty k (xs.set sl v) :=
  ⟨cl.setSlot sl v, A.same W, q, by rw [← G]; simp [Cell.setSlot]⟩
theorem own_lst_new {ty : FieldType} {k : ClassId} {z : Int32} (A : Arr Z h a (newA k ty z) ty) : OwnLst Z h a ty k (List.replicate z.toNatClampNeg (defaultValue ty)) := ⟨_, A, rfl, by simp [newA]⟩
theorem own_inb {xs : List Value} {cl : Cell} {j : Int32} (G : cl.slots.toList = xs) (k : Nat) (hk : xs.length = k) (q : ¬ (j < 0 ∨ k ≤ j.toNatClampNeg)) : ¬ (j < 0 ∨ cl.slots.size ≤ j.toNatClampNeg) := by
  have r : cl.slots.size = k := by rw [← hk, ← G]; simp
  rw [r]; exact q
theorem own_get {xs : List Value} {cl : Cell} {i : Nat} (G : cl.slots.toList = xs) (q : xs[i]? = some v) : cl.slots[i]? = some v := by rw [← Array.getElem?_toList, G]; exact q
theorem own_len {xs : List Value} {cl : Cell} {z : Int32} (G : cl.slots.toList = xs) (q : xs.length.toInt32 = z) : cl.slots.size.toInt32 = z := by rw [← q, ← G]; simp
theorem own_fI {t : Term} {k : Int32} (ht : t.eval args s none [] s = some (.ref a)) (q : (Jvm.Cond.eq (Term.field t C n d) (Term.int k)).value args s none s [] = some true) : Fld s s.heap a C n d (.int k) := by
  obtain ⟨x, y, e1, e2, -, e4⟩ := cmp_v (Or.inl q)
  cases (Term.int_eval k).symm.trans e2
  obtain ⟨z, rfl⟩ := e4
  have r := gotT (Cond.eq_ints e1 (Term.int_eval k)) q
  subst r
  rw [fld_at ht] at e1
  exact Fld.start e1
theorem own_fR {t u : Term} (hu : u.eval args s none [] s = some (.ref b)) (ht : t.eval args s none [] s = some (.ref a)) (q : (Jvm.Cond.eq (Term.field t C n d) u).value args s none s [] = some true) : Fld s s.heap a C n d (.ref b) := by
  obtain ⟨x, y, e1, e2, -, e4⟩ := cmp_v (Or.inl q)
  cases hu.symm.trans e2
  have r := gotT (eq_R e1 hu e4.2 rfl) q
  subst r
  rw [fld_at ht] at e1
  exact Fld.start e1
theorem own_fN {t : Term} (ht : t.eval args s none [] s = some (.ref a)) (q : (Jvm.Cond.eq (Term.field t C n d) Term.null).value args s none s [] = some true) : Fld s s.heap a C n d .null := by
  have e1 := null_v q
  rw [fld_at ht] at e1
  exact Fld.start e1
theorem own_arg1 {args : Array Value} (h1 : (Jvm.Cond.count 1).value args s none s [] = some true) : ∃ w0 : Value, args = #[w0] := by
  have hs : args.size = 1 := by simpa [Cond.value] using h1
  obtain ⟨L⟩ := args
  match L, hs with
  | [w0], _ => exact ⟨w0, rfl⟩
theorem own_arg2 {args : Array Value} (h1 : (Jvm.Cond.count 2).value args s none s [] = some true) : ∃ w0 w1 : Value, args = #[w0, w1] := by
  have hs : args.size = 2 := by simpa [Cond.value] using h1
  obtain ⟨L⟩ := args
  match L, hs with
  | [w0, w1], _ => exact ⟨w0, w1, rfl⟩
theorem own_arg3 {args : Array Value} (h1 : (Jvm.Cond.count 3).value args s none s [] = some true) : ∃ w0 w1 w2 : Value, args = #[w0, w1, w2] := by
  have hs : args.size = 3 := by simpa [Cond.value] using h1
  obtain ⟨L⟩ := args
  match L, hs with
  | [w0, w1, w2], _ => exact ⟨w0, w1, w2, rfl⟩
theorem own_narB (q : Prop) [Decidable q] : nar .boolean (if q then (1 : Int32) else (0 : Int32)) = if q then (1 : Int32) else (0 : Int32) := by split <;> rfl
theorem own_mod (x k : Int32) (z : Int) (hk : k.toInt = z) (hz : 0 < z) : 0 ≤ ((x &&& (2147483647 : Int32)) % k).toInt ∧ ((x &&& (2147483647 : Int32)) % k).toInt < z := by
  have h1 := c_and x (2147483647 : Int32) (by decide)
  rw [(c_irem (x &&& (2147483647 : Int32)) k z hk).1 h1.1]
  exact ⟨Int.emod_nonneg _ (by omega), Int.emod_lt_of_pos _ hz⟩
theorem own_and3 (x : Int32) : (x &&& (3 : Int32)) = 0 ∨ (x &&& (3 : Int32)) = 1 ∨ (x &&& (3 : Int32)) = 2 ∨ (x &&& (3 : Int32)) = 3 := by
  have h1 := c_and x (3 : Int32) (by decide)
  have e3 : (3 : Int32).toInt = 3 := by decide
  rw [e3] at h1
  have e : (x &&& (3 : Int32)).toInt = 0 ∨ (x &&& (3 : Int32)).toInt = 1 ∨ (x &&& (3 : Int32)).toInt = 2 ∨ (x &&& (3 : Int32)).toInt = 3 := by omega
  rcases e with e | e | e | e
  · exact Or.inl (Int32.toInt_inj.mp e)
  · exact Or.inr (Or.inl (Int32.toInt_inj.mp e))
  · exact Or.inr (Or.inr (Or.inl (Int32.toInt_inj.mp e)))
  · exact Or.inr (Or.inr (Or.inr (Int32.toInt_inj.mp e)))
end OwnKit
section OwnKit2
variable {args : Array Value} {s : State} {a b : Addr} {cl : Cell}
theorem own_slen {t : Term} {z : Int32} (hz : ¬ z < 0) (q : (Jvm.Cond.eq (Term.length t) (Term.int z)).value args s none s [] = some true) (ht : t.eval args s none [] s = some (.ref a)) (hc : s.heap[a]? = some cl) : cl.slots.size = z.toNatClampNeg := by
  obtain ⟨x, y, e1, e2, -, e4⟩ := cmp_v (Or.inl q)
  cases (Term.int_eval z).symm.trans e2
  obtain ⟨k, rfl⟩ := e4
  have r := gotT (Cond.eq_ints e1 (Term.int_eval z)) q
  subst r
  obtain ⟨a', c', g1, g2, g3⟩ := Term.length_spec e1
  have g6 := SBG.length_lt g1 g2 e1
  cases ht.symm.trans g1
  have g5 : c' = cl := Option.some.inj ((State.arrayAt?_spec g2).1.symm.trans hc)
  subst g5
  have h3 : c'.slots.size.toInt32 = k := (Value.int.inj g3).symm
  have h1 := back32 hz
  have h4 : c'.slots.size.toInt32.toInt = (c'.slots.size : Int) := len_toInt g6
  have h5 : k.toNatClampNeg.toInt32.toInt = (k.toNatClampNeg : Int) := len_toInt h1.2
  rw [h1.1] at h5
  rw [h3] at h4
  omega
theorem own_selem {t u : Term} {j : Int32} (hu : u.eval args s none [] s = some (.ref b)) (ht : t.eval args s none [] s = some (.ref a)) (hc : s.heap[a]? = some cl) (q : (Jvm.Cond.eq (Term.elem t (Term.int j)) u).value args s none s [] = some true) : cl.slots[j.toNatClampNeg]? = some (.ref b) := by
  obtain ⟨x, y, e1, e2, -, e4⟩ := cmp_v (Or.inl q)
  cases hu.symm.trans e2
  have r := gotT (eq_R e1 hu e4.2 rfl) q
  subst r
  exact (elem_in e1 ht (Term.int_eval j) hc).2
theorem own_nil {A : Array Value} (hs : A.size = (0 : Int32).toNatClampNeg) : A.toList = [] := by
  have q : (0 : Int32).toNatClampNeg = 0 := by decide
  rw [q] at hs
  exact List.eq_nil_of_length_eq_zero (by rw [Array.length_toList]; exact hs)
theorem own_list6 {A : Array Value} (hs : A.size = 6) {v0 v1 v2 v3 v4 v5 : Value} (h0 : A[0]? = some v0) (h1 : A[1]? = some v1) (h2 : A[2]? = some v2) (h3 : A[3]? = some v3) (h4 : A[4]? = some v4) (h5 : A[5]? = some v5) : A.toList = [v0, v1, v2, v3, v4, v5] := by
  obtain ⟨l⟩ := A
  match l, hs with
  | [a, b, c, d, e, f], _ =>
    simp at h0 h1 h2 h3 h4 h5
    simp [h0, h1, h2, h3, h4, h5]
theorem own_list4 {A : Array Value} (hs : A.size = 4) {v0 v1 v2 v3 : Value} (h0 : A[0]? = some v0) (h1 : A[1]? = some v1) (h2 : A[2]? = some v2) (h3 : A[3]? = some v3) : A.toList = [v0, v1, v2, v3] := by
  obtain ⟨l⟩ := A
  match l, hs with
  | [a, b, c, d], _ =>
    simp at h0 h1 h2 h3
    simp [h0, h1, h2, h3]
end OwnKit2
section OwnKit3
variable {Z : State} {h h' h0 : Heap} {a b : Addr} {v : Value} {ty : FieldType} {k : ClassId} {xs : List Value} {n0 : Nat} {ws : List Addr} {sl : Nat}
theorem OwnLst.lt (F : OwnLst Z h a ty k xs) : a < h.size := by obtain ⟨cl, A, -⟩ := F; exact A.lt
theorem own_old_ext (O : Old Z n0 h) (E : Ext h h') : Old Z n0 h' := ⟨O.1, own_ext_tr O.2 E⟩
theorem own_ne_lt (q : a < h.size) (g : b = h.size) : a ≠ b := fun r => by rw [r, g] at q; exact Nat.lt_irrefl _ q
theorem own_ne_le (q : a < h.size) (g : h.size ≤ b) : a ≠ b := fun r => by rw [r] at q; exact Nat.lt_irrefl _ (Nat.lt_of_lt_of_le q g)
theorem own_lst_eq {xs' : List Value} (F : OwnLst Z h a ty k xs) (q : xs = xs') : OwnLst Z h a ty k xs' := q ▸ F
end OwnKit3
theorem own_d_prog_35_method_1_0 : decode prog_35_method_1_code 0 = .ok (.getstatic 22, 3) := by decide +kernel
theorem own_d_prog_35_method_1_3 : decode prog_35_method_1_code 3 = .ok (.invokevirtual 26, 3) := by decide +kernel
theorem own_d_prog_35_method_1_6 : decode prog_35_method_1_code 6 = .ok (.checkcast 27, 3) := by decide +kernel
theorem own_d_prog_35_method_1_9 : decode prog_35_method_1_code 9 = .ok (.areturn, 1) := by decide +kernel
theorem own_d_prog_35_method_5_0 : decode prog_35_method_5_code 0 = .ok (.invokestatic 55, 3) := by decide +kernel
theorem own_d_prog_35_method_5_3 : decode prog_35_method_5_code 3 = .ok (.astore_n 1, 1) := by decide +kernel
theorem own_d_prog_35_method_5_4 : decode prog_35_method_5_code 4 = .ok (.aload_n 1, 1) := by decide +kernel
theorem own_d_prog_35_method_5_5 : decode prog_35_method_5_code 5 = .ok (.arraylength, 1) := by decide +kernel
theorem own_d_prog_35_method_5_6 : decode prog_35_method_5_code 6 = .ok (.istore_n 2, 1) := by decide +kernel
theorem own_d_prog_35_method_5_7 : decode prog_35_method_5_code 7 = .ok (.iconst 0, 1) := by decide +kernel
theorem own_d_prog_35_method_5_8 : decode prog_35_method_5_code 8 = .ok (.istore_n 3, 1) := by decide +kernel
theorem own_d_prog_35_method_5_9 : decode prog_35_method_5_code 9 = .ok (.iload_n 3, 1) := by decide +kernel
theorem own_d_prog_35_method_5_10 : decode prog_35_method_5_code 10 = .ok (.iload_n 2, 1) := by decide +kernel
theorem own_d_prog_35_method_5_11 : decode prog_35_method_5_code 11 = .ok (.if_icmp .ge 26, 3) := by decide +kernel
theorem own_d_prog_35_method_5_14 : decode prog_35_method_5_code 14 = .ok (.aload_n 1, 1) := by decide +kernel
theorem own_d_prog_35_method_5_15 : decode prog_35_method_5_code 15 = .ok (.iload_n 3, 1) := by decide +kernel
theorem own_d_prog_35_method_5_16 : decode prog_35_method_5_code 16 = .ok (.aaload, 1) := by decide +kernel
theorem own_d_prog_35_method_5_17 : decode prog_35_method_5_code 17 = .ok (.astore 4, 2) := by decide +kernel
theorem own_d_prog_35_method_5_19 : decode prog_35_method_5_code 19 = .ok (.aload 4, 2) := by decide +kernel
theorem own_d_prog_35_method_5_21 : decode prog_35_method_5_code 21 = .ok (.getfield 45, 3) := by decide +kernel
theorem own_d_prog_35_method_5_24 : decode prog_35_method_5_code 24 = .ok (.aload_n 0, 1) := by decide +kernel
theorem own_d_prog_35_method_5_25 : decode prog_35_method_5_code 25 = .ok (.if_acmp .ne 6, 3) := by decide +kernel
theorem own_d_prog_35_method_5_28 : decode prog_35_method_5_code 28 = .ok (.aload 4, 2) := by decide +kernel
theorem own_d_prog_35_method_5_30 : decode prog_35_method_5_code 30 = .ok (.areturn, 1) := by decide +kernel
theorem own_d_prog_35_method_5_31 : decode prog_35_method_5_code 31 = .ok (.iinc 3 1, 3) := by decide +kernel
theorem own_d_prog_35_method_5_34 : decode prog_35_method_5_code 34 = .ok (.goto (-25), 3) := by decide +kernel
theorem own_d_prog_35_method_5_37 : decode prog_35_method_5_code 37 = .ok (.aconst_null, 1) := by decide +kernel
theorem own_d_prog_35_method_5_38 : decode prog_35_method_5_code 38 = .ok (.areturn, 1) := by decide +kernel
theorem own_pn0 : plainName "com/example/urashima/urashima/Problem$Kind" = true := by first | (simp [plainName, overriddenIn]; done) | decide +kernel
theorem own_pn1 : plainName "com/example/urashima/urashima/KindOfPinLaw" = true := by first | (simp [plainName, overriddenIn]; done) | decide +kernel
theorem own_pd0 : parseMethodDescriptor "()[Lcom/example/urashima/urashima/Problem$Kind;" = some ⟨[], some (.array (.object "com/example/urashima/urashima/Problem$Kind"))⟩ := by decide +kernel
theorem own_pd1 : parseMethodDescriptor "(Lcom/example/urashima/urashima/MigrationState;)Lcom/example/urashima/urashima/Problem$Kind;" = some ⟨[(.object "com/example/urashima/urashima/MigrationState")], some (.object "com/example/urashima/urashima/Problem$Kind")⟩ := by decide +kernel
theorem rm_values_ef (m : MethodId)  : entryFrame m #[] 0 = mkF m 0 #[] [] := by first | (simp [entryFrame, mkF, argsToLocals, Value.category]; done) | rfl
def rm_values_Q (Z : State) (aV : Addr) (cV : Cell) (b_K_PENDING : Addr) (b_K_EDITED : Addr) (b_K_MISSING : Addr) (b_K_OUT_OF_ORDER : Addr) (b_K_FAILED : Addr) (b_K_INTERRUPTED : Addr) (h0 : Heap) (n0 : Nat) (v : Option Value) (h : Heap) (L : List Loc) : Prop := v = some (.ref h0.size) ∧ Fr n0 L ∧ Ext h0 h ∧ OwnLst Z h h0.size (.object "com/example/urashima/urashima/Problem$Kind") cV.cls [.ref b_K_PENDING, .ref b_K_EDITED, .ref b_K_MISSING, .ref b_K_OUT_OF_ORDER, .ref b_K_FAILED, .ref b_K_INTERRUPTED]
set_option maxRecDepth 65536 in
set_option maxHeartbeats 40000000 in
theorem rm_values (l : Launch) (Z : State) (a0 : Array Value) (hw : ∀ d ∈ tables_1, d.before a0 Z = true) (ws : List Jvm.Cond) (aV : Addr) (cV : Cell) (b_K_PENDING : Addr) (b_K_EDITED : Addr) (b_K_MISSING : Addr) (b_K_OUT_OF_ORDER : Addr) (b_K_FAILED : Addr) (b_K_INTERRUPTED : Addr) (h0 : Heap) (n0 : Nat) (Z0 : n0 ≤ h0.size) (S_V : Sta Z h0 "com/example/urashima/urashima/Problem$Kind" "$VALUES" "[Lcom/example/urashima/urashima/Problem$Kind;" (.ref aV)) (A_V : Arr Z h0 aV cV (.object "com/example/urashima/urashima/Problem$Kind")) (E_V : Exa Z h0 aV "[Lcom/example/urashima/urashima/Problem$Kind;") (FC_V : FitC Z cV) (L_V : cV.slots.toList = [.ref b_K_PENDING, .ref b_K_EDITED, .ref b_K_MISSING, .ref b_K_OUT_OF_ORDER, .ref b_K_FAILED, .ref b_K_INTERRUPTED]) :
    MetFree l (⟨"com/example/urashima/urashima/Problem$Kind", "values", "()[Lcom/example/urashima/urashima/Problem$Kind;"⟩ : MethodName) (head1 (Jvm.Cond.code (⟨"com/example/urashima/urashima/Problem$Kind", "values", "()[Lcom/example/urashima/urashima/Problem$Kind;"⟩ : MethodName) prog_35_method_1_code 0 (some (.array (.object "com/example/urashima/urashima/Problem$Kind"))) :: ws) ({ frames := 1, cells := 1, slots := 6, locals := 14 } : Room)) (fun a₀ U₀ => a₀ = #[] ∧ Z.Warmed39 U₀.vm ∧ U₀.heap = h0) (fun _ _ _ _ _ => True) (fun _ U₀ o₀ U₁ => ∃ v₀ L₀, o₀ = .returned v₀ ∧ rm_values_Q Z aV cV b_K_PENDING b_K_EDITED b_K_MISSING b_K_OUT_OF_ORDER b_K_FAILED b_K_INTERRUPTED h0 n0 v₀ U₁.heap L₀ ∧ FrameEnd U₀ o₀ U₁ L₀ ({ frames := 1, cells := 1, slots := 6, locals := 14 } : Room).cells ({ frames := 1, cells := 1, slots := 6, locals := 14 } : Room).slots) := by
  refine MetFree.of_bodySF (plainFor_of_name own_pn0) hisR ?_
  intro p e s m args below meth c s₁ Bd hml0 hP hK
  obtain ⟨rfl, hZ, hh⟩ := hP
  have hx := Bd.exec
  have hby := Bd.bytes
  have hml : c.maxLocals = 0 := hml0
  have hown : s.vm.findClass "com/example/urashima/urashima/Problem$Kind" = some m.cls := findClass_of_methodNamed Bd.named
  have hnm := (name_of_methodNamed Bd.named Bd.method).1
  have X0 : Stand p l e ({ frames := 1, cells := 1, slots := 6, locals := 14 } : Room) s m #[] below meth c s₁ [] 0 0 := Stand.of_body Bd
  have e0 : s₁.heap = h0 := by rw [← hh, Bd.state]; rfl
  have N0 := Fr.nil n0
  have pre0 : ∀ t, Steps p.tables e below (s₁.setTop (mkF m 0 #[] [])) t → Steps p.tables e below (s₁.setTop (entryFrame m #[] 0)) t := fun t kk₀ => castTop (rm_values_ef m ) kk₀
  obtain ⟨T1, X1, e1, st1⟩ := getS X0 hx hZ (host := "") hown (hw _ (List.mem_of_getElem? (i := 10) rfl)) Via.refl e0 S_V (g := (mkF m 0 #[] [])) rfl (hb hby own_d_prog_35_method_1_0)
  obtain ⟨T2, h2, X2, e2, E2, A2, Ex2, st2⟩ := cloneA X1 hx hZ hown (hw _ (List.mem_of_getElem? (i := 12) rfl)) (hw _ (List.mem_of_getElem? (i := 13) rfl)) (hw _ (List.mem_of_getElem? (i := 17) rfl)) (hw _ (List.mem_of_getElem? (i := 15) rfl)) (hw _ (List.mem_of_getElem? (i := 16) rfl)) (hw _ (List.mem_of_getElem? (i := 18) rfl)) e1 A_V E_V FC_V (g := (mkF m 3 #[] [(.ref aV)])) rfl (by rw [hml]; rfl) rfl (hb hby own_d_prog_35_method_1_3) (by decide) (W := 0) (cap := 6) (by show 2 * 0 + _ ≤ _; exact Nat.le_of_eq rfl) (by decide) (by rw [← Array.length_toList, L_V]; exact Nat.le_refl _) (by decide) (by decide)
  obtain ⟨T3, X3, e3, st3⟩ := castY X2 hx hZ hown (hw _ (List.mem_of_getElem? (i := 26) rfl)) e2 (Ins.self Ex2) (g := (mkF m 6 #[] [(.ref h0.size)])) rfl rfl (hb hby own_d_prog_35_method_1_6)
  obtain ⟨fs, hr, hrun, hended, hW, hsame⟩ := X3.leave (v := some (.ref h0.size)) (fun h => by rw [Bd.returns] at h; cases h)
  refine ⟨_, _, pre0 _ ?_, hrun, hended, _, _, rfl, ?_, ⟨_, rfl⟩, hW, hsame.mono (by decide) (by decide)⟩
  · show Steps p.tables e below (s₁.setTop (mkF m 0 #[] [])) _
    refine st1 _ ?_
    show Steps p.tables e below (T1.setTop (mkF m 3 #[] [(.ref aV)])) _
    refine st2 _ ?_
    show Steps p.tables e below (T2.setTop (mkF m 6 #[] [(.ref h0.size)])) _
    refine st3 _ ?_
    show Steps p.tables e below (T3.setTop (mkF m 9 #[] [(.ref h0.size)])) _
    exact own_retA X3 hx (by first | rfl | decide) rfl Bd.returns (hb hby own_d_prog_35_method_1_9) hr
  · show rm_values_Q Z aV cV b_K_PENDING b_K_EDITED b_K_MISSING b_K_OUT_OF_ORDER b_K_FAILED b_K_INTERRUPTED h0 n0 _ T3.heap _
    rw [e3]
    exact ⟨rfl, N0, E2, ⟨_, A2, rfl, L_V⟩⟩
theorem rm_of_ef (m : MethodId) (x0 : Addr) : entryFrame m #[(.ref x0)] 5 = mkF m 0 #[.val (.ref x0), .unset, .unset, .unset, .unset] [] := by first | (simp [entryFrame, mkF, argsToLocals, Value.category]; done) | rfl
def rm_of_Q (Z : State) (ob : Addr) (wv : Value) (aV : Addr) (cV : Cell) (b_M_APPLIED : Addr) (b_K_PENDING : Addr) (b_K_EDITED : Addr) (b_K_MISSING : Addr) (b_K_OUT_OF_ORDER : Addr) (b_K_FAILED : Addr) (b_K_INTERRUPTED : Addr) (b_M_PENDING : Addr) (b_M_FAILED : Addr) (b_M_INTERRUPTED : Addr) (h0 : Heap) (n0 : Nat) (v : Option Value) (h : Heap) (L : List Loc) : Prop := v = some wv ∧ Fr n0 L ∧ Ext h0 h
set_option maxRecDepth 65536 in
set_option maxHeartbeats 40000000 in
theorem rm_of (l : Launch) (Z : State) (a0 : Array Value) (hw : ∀ d ∈ tables_1, d.before a0 Z = true) (ws : List Jvm.Cond) (ob : Addr) (wv : Value) (aV : Addr) (cV : Cell) (b_M_APPLIED : Addr) (b_K_PENDING : Addr) (b_K_EDITED : Addr) (b_K_MISSING : Addr) (b_K_OUT_OF_ORDER : Addr) (b_K_FAILED : Addr) (b_K_INTERRUPTED : Addr) (b_M_PENDING : Addr) (b_M_FAILED : Addr) (b_M_INTERRUPTED : Addr) (h0 : Heap) (n0 : Nat) (Z0 : n0 ≤ h0.size) (S_V : Sta Z h0 "com/example/urashima/urashima/Problem$Kind" "$VALUES" "[Lcom/example/urashima/urashima/Problem$Kind;" (.ref aV)) (A_V : Arr Z h0 aV cV (.object "com/example/urashima/urashima/Problem$Kind")) (E_V : Exa Z h0 aV "[Lcom/example/urashima/urashima/Problem$Kind;") (FC_V : FitC Z cV) (L_V : cV.slots.toList = [.ref b_K_PENDING, .ref b_K_EDITED, .ref b_K_MISSING, .ref b_K_OUT_OF_ORDER, .ref b_K_FAILED, .ref b_K_INTERRUPTED]) (F_K_PENDING_state : Fld Z h0 b_K_PENDING "com/example/urashima/urashima/Problem$Kind" "state" "Lcom/example/urashima/urashima/MigrationState;" (.ref b_M_PENDING)) (F_M_PENDING_ordinal : Fld Z h0 b_M_PENDING "java/lang/Enum" "ordinal" "I" (.int (1 : Int32))) (F_M_APPLIED_ordinal : Fld Z h0 b_M_APPLIED "java/lang/Enum" "ordinal" "I" (.int (0 : Int32))) (F_K_EDITED_state : Fld Z h0 b_K_EDITED "com/example/urashima/urashima/Problem$Kind" "state" "Lcom/example/urashima/urashima/MigrationState;" .null) (F_K_MISSING_state : Fld Z h0 b_K_MISSING "com/example/urashima/urashima/Problem$Kind" "state" "Lcom/example/urashima/urashima/MigrationState;" .null) (F_K_OUT_OF_ORDER_state : Fld Z h0 b_K_OUT_OF_ORDER "com/example/urashima/urashima/Problem$Kind" "state" "Lcom/example/urashima/urashima/MigrationState;" .null) (F_K_FAILED_state : Fld Z h0 b_K_FAILED "com/example/urashima/urashima/Problem$Kind" "state" "Lcom/example/urashima/urashima/MigrationState;" (.ref b_M_FAILED)) (F_M_FAILED_ordinal : Fld Z h0 b_M_FAILED "java/lang/Enum" "ordinal" "I" (.int (2 : Int32))) (F_K_INTERRUPTED_state : Fld Z h0 b_K_INTERRUPTED "com/example/urashima/urashima/Problem$Kind" "state" "Lcom/example/urashima/urashima/MigrationState;" (.ref b_M_INTERRUPTED)) (F_M_INTERRUPTED_ordinal : Fld Z h0 b_M_INTERRUPTED "java/lang/Enum" "ordinal" "I" (.int (3 : Int32))) (E_K_PENDING : Exa Z h0 b_K_PENDING "com/example/urashima/urashima/Problem$Kind") (E_K_EDITED : Exa Z h0 b_K_EDITED "com/example/urashima/urashima/Problem$Kind") (E_K_MISSING : Exa Z h0 b_K_MISSING "com/example/urashima/urashima/Problem$Kind") (E_K_OUT_OF_ORDER : Exa Z h0 b_K_OUT_OF_ORDER "com/example/urashima/urashima/Problem$Kind") (E_K_FAILED : Exa Z h0 b_K_FAILED "com/example/urashima/urashima/Problem$Kind") (E_K_INTERRUPTED : Exa Z h0 b_K_INTERRUPTED "com/example/urashima/urashima/Problem$Kind") (hst : (ob = b_M_APPLIED ∧ wv = .null) ∨ (ob = b_M_PENDING ∧ wv = (.ref b_K_PENDING)) ∨ (ob = b_M_FAILED ∧ wv = (.ref b_K_FAILED)) ∨ (ob = b_M_INTERRUPTED ∧ wv = (.ref b_K_INTERRUPTED))) :
    MetFree l (⟨"com/example/urashima/urashima/Problem$Kind", "of", "(Lcom/example/urashima/urashima/MigrationState;)Lcom/example/urashima/urashima/Problem$Kind;"⟩ : MethodName) (head1 (Jvm.Cond.code (⟨"com/example/urashima/urashima/Problem$Kind", "of", "(Lcom/example/urashima/urashima/MigrationState;)Lcom/example/urashima/urashima/Problem$Kind;"⟩ : MethodName) prog_35_method_5_code 5 (some (.object "com/example/urashima/urashima/Problem$Kind")) :: ws) ({ frames := 2, cells := 1, slots := 6, locals := 25 } : Room)) (fun a₀ U₀ => a₀ = #[(.ref ob)] ∧ Z.Warmed39 U₀.vm ∧ U₀.heap = h0) (fun _ _ _ _ _ => True) (fun _ U₀ o₀ U₁ => ∃ v₀ L₀, o₀ = .returned v₀ ∧ rm_of_Q Z ob wv aV cV b_M_APPLIED b_K_PENDING b_K_EDITED b_K_MISSING b_K_OUT_OF_ORDER b_K_FAILED b_K_INTERRUPTED b_M_PENDING b_M_FAILED b_M_INTERRUPTED h0 n0 v₀ U₁.heap L₀ ∧ FrameEnd U₀ o₀ U₁ L₀ ({ frames := 2, cells := 1, slots := 6, locals := 25 } : Room).cells ({ frames := 2, cells := 1, slots := 6, locals := 25 } : Room).slots) := by
  refine MetFree.of_bodySF (plainFor_of_name own_pn0) hisR ?_
  intro p e s m args below meth c s₁ Bd hml0 hP hK
  obtain ⟨rfl, hZ, hh⟩ := hP
  have hx := Bd.exec
  have hby := Bd.bytes
  have hml : c.maxLocals = 5 := hml0
  have hown : s.vm.findClass "com/example/urashima/urashima/Problem$Kind" = some m.cls := findClass_of_methodNamed Bd.named
  have hnm := (name_of_methodNamed Bd.named Bd.method).1
  have X0 : Stand p l e ({ frames := 2, cells := 1, slots := 6, locals := 25 } : Room) s m #[(.ref ob)] below meth c s₁ [] 0 0 := Stand.of_body Bd
  have e0 : s₁.heap = h0 := by rw [← hh, Bd.state]; rfl
  have N0 := Fr.nil n0
  have pre0 : ∀ t, Steps p.tables e below (s₁.setTop (mkF m 0 #[.val (.ref ob), .unset, .unset, .unset, .unset] [])) t → Steps p.tables e below (s₁.setTop (entryFrame m #[(.ref ob)] 5)) t := fun t kk₀ => castTop (rm_of_ef m ob) kk₀
  have ne_APPLIED_PENDING : b_M_APPLIED ≠ b_M_PENDING := own_fld_ne F_M_APPLIED_ordinal F_M_PENDING_ordinal (by decide)
  have ne_APPLIED_FAILED : b_M_APPLIED ≠ b_M_FAILED := own_fld_ne F_M_APPLIED_ordinal F_M_FAILED_ordinal (by decide)
  have ne_APPLIED_INTERRUPTED : b_M_APPLIED ≠ b_M_INTERRUPTED := own_fld_ne F_M_APPLIED_ordinal F_M_INTERRUPTED_ordinal (by decide)
  have ne_PENDING_APPLIED : b_M_PENDING ≠ b_M_APPLIED := own_fld_ne F_M_PENDING_ordinal F_M_APPLIED_ordinal (by decide)
  have ne_PENDING_FAILED : b_M_PENDING ≠ b_M_FAILED := own_fld_ne F_M_PENDING_ordinal F_M_FAILED_ordinal (by decide)
  have ne_PENDING_INTERRUPTED : b_M_PENDING ≠ b_M_INTERRUPTED := own_fld_ne F_M_PENDING_ordinal F_M_INTERRUPTED_ordinal (by decide)
  have ne_FAILED_APPLIED : b_M_FAILED ≠ b_M_APPLIED := own_fld_ne F_M_FAILED_ordinal F_M_APPLIED_ordinal (by decide)
  have ne_FAILED_PENDING : b_M_FAILED ≠ b_M_PENDING := own_fld_ne F_M_FAILED_ordinal F_M_PENDING_ordinal (by decide)
  have ne_FAILED_INTERRUPTED : b_M_FAILED ≠ b_M_INTERRUPTED := own_fld_ne F_M_FAILED_ordinal F_M_INTERRUPTED_ordinal (by decide)
  have ne_INTERRUPTED_APPLIED : b_M_INTERRUPTED ≠ b_M_APPLIED := own_fld_ne F_M_INTERRUPTED_ordinal F_M_APPLIED_ordinal (by decide)
  have ne_INTERRUPTED_PENDING : b_M_INTERRUPTED ≠ b_M_PENDING := own_fld_ne F_M_INTERRUPTED_ordinal F_M_PENDING_ordinal (by decide)
  have ne_INTERRUPTED_FAILED : b_M_INTERRUPTED ≠ b_M_FAILED := own_fld_ne F_M_INTERRUPTED_ordinal F_M_FAILED_ordinal (by decide)
  rcases hst with ⟨q, r⟩ | ⟨q, r⟩ | ⟨q, r⟩ | ⟨q, r⟩
  · obtain ⟨_, _, ⟨T4, L4, k4, n4⟩, -, X4, ⟨Lc4, hQ4, l4, y4, z4⟩, st4⟩ := Jvm.LawKit.callS X0 hx (y := (⟨"com/example/urashima/urashima/Problem$Kind", "values", "()[Lcom/example/urashima/urashima/Problem$Kind;"⟩ : MethodName)) hown (mvT hZ (hw _ (List.mem_of_getElem? (i := 7) rfl))) (mvT hZ (hw _ (List.mem_of_getElem? (i := 8) rfl))) (mvT hZ (hw _ (List.mem_of_getElem? (i := 5) rfl))) (mvT hZ (hw _ (List.mem_of_getElem? (i := 9) rfl))) (by decide) (backOf (W := 0) (rm_values l Z a0 hw [] aV cV b_K_PENDING b_K_EDITED b_K_MISSING b_K_OUT_OF_ORDER b_K_FAILED b_K_INTERRUPTED h0 n0 Z0 S_V A_V E_V FC_V L_V) hZ (hw _ (List.mem_of_getElem? (i := 9) rfl)) (hw _ (List.mem_of_getElem? (i := 5) rfl)) (by decide) (by decide)) (g := (mkF m 0 #[.val (.ref ob), .unset, .unset, .unset, .unset] [])) rfl (by rw [hml]; rfl) (argsL := []) (rest := []) (lenOf own_pd0 rfl) rfl (by show 2 * 0 + _ ≤ _; exact Nat.le_of_eq rfl) (hb hby own_d_prog_35_method_5_0) (fun _ _ => ⟨rfl, e0, (by decide : 0 + 1 ≤ _), (by decide : 0 + 6 ≤ _)⟩)
    dsimp only [Pt.U, Pt.locs, Pt.cells, Pt.slots] at X4 l4 y4 z4 st4 hQ4
    subst l4 y4 z4
    obtain ⟨rfl, Nq4, xe4, vl4⟩ := hQ4
    have N4 := Fr.app N0 Nq4
    have XE4 : Ext h0 T4.heap := xe4
    obtain ⟨cl5, Ar5, q5, G5⟩ := id vl4
    obtain ⟨cl6, Ar6, q6, G6⟩ := id vl4
    obtain ⟨T7, X7, e7, st7⟩ := getF X4 hx hZ hown (host := "") (Or.inl (hw _ (List.mem_of_getElem? (i := 28) rfl))) Via.refl rfl (F_K_PENDING_state.ext XE4) (g := (mkF m 21 #[.val (.ref ob), .val (.ref h0.size), .val (.int (6 : Int32)), .val (.int (0 : Int32)), .val (.ref b_K_PENDING)] [(.ref b_K_PENDING)])) rfl rfl (hb hby own_d_prog_35_method_5_21)
    obtain ⟨cl8, Ar8, q8, G8⟩ := id vl4
    obtain ⟨T9, X9, e9, st9⟩ := getF X7 hx hZ hown (host := "") (Or.inl (hw _ (List.mem_of_getElem? (i := 28) rfl))) Via.refl e7 (F_K_EDITED_state.ext XE4) (g := (mkF m 21 #[.val (.ref ob), .val (.ref h0.size), .val (.int (6 : Int32)), .val (.int ((0 : Int32) + (1 : Int32))), .val (.ref b_K_EDITED)] [(.ref b_K_EDITED)])) rfl rfl (hb hby own_d_prog_35_method_5_21)
    obtain ⟨cl10, Ar10, q10, G10⟩ := id vl4
    obtain ⟨T11, X11, e11, st11⟩ := getF X9 hx hZ hown (host := "") (Or.inl (hw _ (List.mem_of_getElem? (i := 28) rfl))) Via.refl e9 (F_K_MISSING_state.ext XE4) (g := (mkF m 21 #[.val (.ref ob), .val (.ref h0.size), .val (.int (6 : Int32)), .val (.int (((0 : Int32) + (1 : Int32)) + (1 : Int32))), .val (.ref b_K_MISSING)] [(.ref b_K_MISSING)])) rfl rfl (hb hby own_d_prog_35_method_5_21)
    obtain ⟨cl12, Ar12, q12, G12⟩ := id vl4
    obtain ⟨T13, X13, e13, st13⟩ := getF X11 hx hZ hown (host := "") (Or.inl (hw _ (List.mem_of_getElem? (i := 28) rfl))) Via.refl e11 (F_K_OUT_OF_ORDER_state.ext XE4) (g := (mkF m 21 #[.val (.ref ob), .val (.ref h0.size), .val (.int (6 : Int32)), .val (.int ((((0 : Int32) + (1 : Int32)) + (1 : Int32)) + (1 : Int32))), .val (.ref b_K_OUT_OF_ORDER)] [(.ref b_K_OUT_OF_ORDER)])) rfl rfl (hb hby own_d_prog_35_method_5_21)
    obtain ⟨cl14, Ar14, q14, G14⟩ := id vl4
    obtain ⟨T15, X15, e15, st15⟩ := getF X13 hx hZ hown (host := "") (Or.inl (hw _ (List.mem_of_getElem? (i := 28) rfl))) Via.refl e13 (F_K_FAILED_state.ext XE4) (g := (mkF m 21 #[.val (.ref ob), .val (.ref h0.size), .val (.int (6 : Int32)), .val (.int (((((0 : Int32) + (1 : Int32)) + (1 : Int32)) + (1 : Int32)) + (1 : Int32))), .val (.ref b_K_FAILED)] [(.ref b_K_FAILED)])) rfl rfl (hb hby own_d_prog_35_method_5_21)
    obtain ⟨cl16, Ar16, q16, G16⟩ := id vl4
    obtain ⟨T17, X17, e17, st17⟩ := getF X15 hx hZ hown (host := "") (Or.inl (hw _ (List.mem_of_getElem? (i := 28) rfl))) Via.refl e15 (F_K_INTERRUPTED_state.ext XE4) (g := (mkF m 21 #[.val (.ref ob), .val (.ref h0.size), .val (.int (6 : Int32)), .val (.int ((((((0 : Int32) + (1 : Int32)) + (1 : Int32)) + (1 : Int32)) + (1 : Int32)) + (1 : Int32))), .val (.ref b_K_INTERRUPTED)] [(.ref b_K_INTERRUPTED)])) rfl rfl (hb hby own_d_prog_35_method_5_21)
    obtain ⟨fs, hr, hrun, hended, hW, hsame⟩ := X17.leave (v := some .null) (fun h => by rw [Bd.returns] at h; cases h)
    refine ⟨_, _, pre0 _ ?_, hrun, hended, _, _, rfl, ?_, ⟨_, rfl⟩, hW, hsame.mono (by decide) (by decide)⟩
    · show Steps p.tables e below (s₁.setTop (mkF m 0 #[.val (.ref ob), .unset, .unset, .unset, .unset] [])) _
      refine st4 _ ?_
      show Steps p.tables e below (T4.setTop (mkF m 3 #[.val (.ref ob), .unset, .unset, .unset, .unset] [(.ref h0.size)])) _
      refine XS.astoreN X4.here hx rfl (hb hby own_d_prog_35_method_5_3) rfl rfl (l' := #[.val (.ref ob), .val (.ref h0.size), .unset, .unset, .unset]) rfl ?_
      show Steps p.tables e below (T4.setTop (mkF m 4 #[.val (.ref ob), .val (.ref h0.size), .unset, .unset, .unset] [])) _
      refine XS.aloadN X4.here hx rfl (hb hby own_d_prog_35_method_5_4) rfl rfl ?_
      show Steps p.tables e below (T4.setTop (mkF m 5 #[.val (.ref ob), .val (.ref h0.size), .unset, .unset, .unset] [(.ref h0.size)])) _
      refine X4.arraylength hx (cell := cl5) Ar5.1 (State.isArrayOf_alike hZ.alike Ar5.2.1) (g := (mkF m 5 #[.val (.ref ob), .val (.ref h0.size), .unset, .unset, .unset] [(.ref h0.size)])) rfl (rest := []) rfl (hb hby own_d_prog_35_method_5_5) _ ?_
      rw [own_len (z := (6 : Int32)) G5 rfl]
      show Steps p.tables e below (T4.setTop (mkF m 6 #[.val (.ref ob), .val (.ref h0.size), .unset, .unset, .unset] [(.int (6 : Int32))])) _
      refine XS.istoreN X4.here hx rfl (hb hby own_d_prog_35_method_5_6) rfl (l' := #[.val (.ref ob), .val (.ref h0.size), .val (.int (6 : Int32)), .unset, .unset]) rfl ?_
      show Steps p.tables e below (T4.setTop (mkF m 7 #[.val (.ref ob), .val (.ref h0.size), .val (.int (6 : Int32)), .unset, .unset] [])) _
      refine XS.iconst X4.here hx rfl (hb hby own_d_prog_35_method_5_7) ?_
      show Steps p.tables e below (T4.setTop (mkF m 8 #[.val (.ref ob), .val (.ref h0.size), .val (.int (6 : Int32)), .unset, .unset] [(.int (0 : Int32))])) _
      refine XS.istoreN X4.here hx rfl (hb hby own_d_prog_35_method_5_8) rfl (l' := #[.val (.ref ob), .val (.ref h0.size), .val (.int (6 : Int32)), .val (.int (0 : Int32)), .unset]) rfl ?_
      show Steps p.tables e below (T4.setTop (mkF m 9 #[.val (.ref ob), .val (.ref h0.size), .val (.int (6 : Int32)), .val (.int (0 : Int32)), .unset] [])) _
      refine XS.iloadN X4.here hx rfl (hb hby own_d_prog_35_method_5_9) rfl ?_
      show Steps p.tables e below (T4.setTop (mkF m 10 #[.val (.ref ob), .val (.ref h0.size), .val (.int (6 : Int32)), .val (.int (0 : Int32)), .unset] [(.int (0 : Int32))])) _
      refine XS.iloadN X4.here hx rfl (hb hby own_d_prog_35_method_5_10) rfl ?_
      show Steps p.tables e below (T4.setTop (mkF m 11 #[.val (.ref ob), .val (.ref h0.size), .val (.int (6 : Int32)), .val (.int (0 : Int32)), .unset] [(.int (6 : Int32)), (.int (0 : Int32))])) _
      refine XS.icmpNo X4.here hx rfl (hb hby own_d_prog_35_method_5_11) rfl (tlt (show (0 : Int32) < (6 : Int32) by decide)).2.1 ?_
      show Steps p.tables e below (T4.setTop (mkF m 14 #[.val (.ref ob), .val (.ref h0.size), .val (.int (6 : Int32)), .val (.int (0 : Int32)), .unset] [])) _
      refine XS.aloadN X4.here hx rfl (hb hby own_d_prog_35_method_5_14) rfl rfl ?_
      show Steps p.tables e below (T4.setTop (mkF m 15 #[.val (.ref ob), .val (.ref h0.size), .val (.int (6 : Int32)), .val (.int (0 : Int32)), .unset] [(.ref h0.size)])) _
      refine XS.iloadN X4.here hx rfl (hb hby own_d_prog_35_method_5_15) rfl ?_
      show Steps p.tables e below (T4.setTop (mkF m 16 #[.val (.ref ob), .val (.ref h0.size), .val (.int (6 : Int32)), .val (.int (0 : Int32)), .unset] [(.int (0 : Int32)), (.ref h0.size)])) _
      refine X4.aaload hx (j := (0 : Int32)) (v := (.ref b_K_PENDING)) Ar6.1 (State.isArrayOf_alike hZ.alike Ar6.2.1) rfl Ar6.2.2 (own_inb G6 6 rfl (show ¬ ((0 : Int32) < 0 ∨ 6 ≤ ((0 : Int32)).toNatClampNeg) by decide)) (own_get G6 rfl) (g := (mkF m 16 #[.val (.ref ob), .val (.ref h0.size), .val (.int (6 : Int32)), .val (.int (0 : Int32)), .unset] [(.int (0 : Int32)), (.ref h0.size)])) rfl rfl (hb hby own_d_prog_35_method_5_16) _ ?_
      show Steps p.tables e below (T4.setTop (mkF m 17 #[.val (.ref ob), .val (.ref h0.size), .val (.int (6 : Int32)), .val (.int (0 : Int32)), .unset] [(.ref b_K_PENDING)])) _
      refine XS.astore X4.here hx rfl (hb hby own_d_prog_35_method_5_17) rfl rfl (l' := #[.val (.ref ob), .val (.ref h0.size), .val (.int (6 : Int32)), .val (.int (0 : Int32)), .val (.ref b_K_PENDING)]) rfl ?_
      show Steps p.tables e below (T4.setTop (mkF m 19 #[.val (.ref ob), .val (.ref h0.size), .val (.int (6 : Int32)), .val (.int (0 : Int32)), .val (.ref b_K_PENDING)] [])) _
      refine XS.aload X4.here hx rfl (hb hby own_d_prog_35_method_5_19) rfl rfl ?_
      show Steps p.tables e below (T4.setTop (mkF m 21 #[.val (.ref ob), .val (.ref h0.size), .val (.int (6 : Int32)), .val (.int (0 : Int32)), .val (.ref b_K_PENDING)] [(.ref b_K_PENDING)])) _
      refine st7 _ ?_
      show Steps p.tables e below (T7.setTop (mkF m 24 #[.val (.ref ob), .val (.ref h0.size), .val (.int (6 : Int32)), .val (.int (0 : Int32)), .val (.ref b_K_PENDING)] [(.ref b_M_PENDING)])) _
      refine XS.aloadN X7.here hx rfl (hb hby own_d_prog_35_method_5_24) rfl rfl ?_
      show Steps p.tables e below (T7.setTop (mkF m 25 #[.val (.ref ob), .val (.ref h0.size), .val (.int (6 : Int32)), .val (.int (0 : Int32)), .val (.ref b_K_PENDING)] [(.ref ob), (.ref b_M_PENDING)])) _
      refine Jvm.RoadKit.acmp (g := (mkF m 25 #[.val (.ref ob), .val (.ref h0.size), .val (.int (6 : Int32)), .val (.int (0 : Int32)), .val (.ref b_K_PENDING)] [(.ref ob), (.ref b_M_PENDING)])) X7 hx rfl rfl rfl (pc0 := 25) (pc' := 31) (same := false) rfl (hb hby own_d_prog_35_method_5_25) rfl (decide_eq_false (own_ref_ne (fun z => ne_PENDING_APPLIED (z.trans q)))) (by decide) (by decide) ?_
      show Steps p.tables e below (T7.setTop (mkF m 31 #[.val (.ref ob), .val (.ref h0.size), .val (.int (6 : Int32)), .val (.int (0 : Int32)), .val (.ref b_K_PENDING)] [])) _
      refine XS.iinc X7.here hx rfl (hb hby own_d_prog_35_method_5_31) rfl (l' := #[.val (.ref ob), .val (.ref h0.size), .val (.int (6 : Int32)), .val (.int ((0 : Int32) + (1 : Int32))), .val (.ref b_K_PENDING)]) rfl ?_
      show Steps p.tables e below (T7.setTop (mkF m 34 #[.val (.ref ob), .val (.ref h0.size), .val (.int (6 : Int32)), .val (.int ((0 : Int32) + (1 : Int32))), .val (.ref b_K_PENDING)] [])) _
      refine XS.goto X7.here hx rfl (pc0 := 34) (pc' := 9) rfl (hb hby own_d_prog_35_method_5_34) (by decide) (by decide) ?_
      show Steps p.tables e below (T7.setTop (mkF m 9 #[.val (.ref ob), .val (.ref h0.size), .val (.int (6 : Int32)), .val (.int ((0 : Int32) + (1 : Int32))), .val (.ref b_K_PENDING)] [])) _
      refine XS.iloadN X7.here hx rfl (hb hby own_d_prog_35_method_5_9) rfl ?_
      show Steps p.tables e below (T7.setTop (mkF m 10 #[.val (.ref ob), .val (.ref h0.size), .val (.int (6 : Int32)), .val (.int ((0 : Int32) + (1 : Int32))), .val (.ref b_K_PENDING)] [(.int ((0 : Int32) + (1 : Int32)))])) _
      refine XS.iloadN X7.here hx rfl (hb hby own_d_prog_35_method_5_10) rfl ?_
      show Steps p.tables e below (T7.setTop (mkF m 11 #[.val (.ref ob), .val (.ref h0.size), .val (.int (6 : Int32)), .val (.int ((0 : Int32) + (1 : Int32))), .val (.ref b_K_PENDING)] [(.int (6 : Int32)), (.int ((0 : Int32) + (1 : Int32)))])) _
      refine XS.icmpNo X7.here hx rfl (hb hby own_d_prog_35_method_5_11) rfl (tlt (show ((0 : Int32) + (1 : Int32)) < (6 : Int32) by decide)).2.1 ?_
      show Steps p.tables e below (T7.setTop (mkF m 14 #[.val (.ref ob), .val (.ref h0.size), .val (.int (6 : Int32)), .val (.int ((0 : Int32) + (1 : Int32))), .val (.ref b_K_PENDING)] [])) _
      refine XS.aloadN X7.here hx rfl (hb hby own_d_prog_35_method_5_14) rfl rfl ?_
      show Steps p.tables e below (T7.setTop (mkF m 15 #[.val (.ref ob), .val (.ref h0.size), .val (.int (6 : Int32)), .val (.int ((0 : Int32) + (1 : Int32))), .val (.ref b_K_PENDING)] [(.ref h0.size)])) _
      refine XS.iloadN X7.here hx rfl (hb hby own_d_prog_35_method_5_15) rfl ?_
      show Steps p.tables e below (T7.setTop (mkF m 16 #[.val (.ref ob), .val (.ref h0.size), .val (.int (6 : Int32)), .val (.int ((0 : Int32) + (1 : Int32))), .val (.ref b_K_PENDING)] [(.int ((0 : Int32) + (1 : Int32))), (.ref h0.size)])) _
      refine X7.aaload hx (j := ((0 : Int32) + (1 : Int32))) (v := (.ref b_K_EDITED)) (by rw [e7]; exact Ar8.1) (State.isArrayOf_alike hZ.alike Ar8.2.1) rfl Ar8.2.2 (own_inb G8 6 rfl (show ¬ (((0 : Int32) + (1 : Int32)) < 0 ∨ 6 ≤ (((0 : Int32) + (1 : Int32))).toNatClampNeg) by decide)) (own_get G8 rfl) (g := (mkF m 16 #[.val (.ref ob), .val (.ref h0.size), .val (.int (6 : Int32)), .val (.int ((0 : Int32) + (1 : Int32))), .val (.ref b_K_PENDING)] [(.int ((0 : Int32) + (1 : Int32))), (.ref h0.size)])) rfl rfl (hb hby own_d_prog_35_method_5_16) _ ?_
      show Steps p.tables e below (T7.setTop (mkF m 17 #[.val (.ref ob), .val (.ref h0.size), .val (.int (6 : Int32)), .val (.int ((0 : Int32) + (1 : Int32))), .val (.ref b_K_PENDING)] [(.ref b_K_EDITED)])) _
      refine XS.astore X7.here hx rfl (hb hby own_d_prog_35_method_5_17) rfl rfl (l' := #[.val (.ref ob), .val (.ref h0.size), .val (.int (6 : Int32)), .val (.int ((0 : Int32) + (1 : Int32))), .val (.ref b_K_EDITED)]) rfl ?_
      show Steps p.tables e below (T7.setTop (mkF m 19 #[.val (.ref ob), .val (.ref h0.size), .val (.int (6 : Int32)), .val (.int ((0 : Int32) + (1 : Int32))), .val (.ref b_K_EDITED)] [])) _
      refine XS.aload X7.here hx rfl (hb hby own_d_prog_35_method_5_19) rfl rfl ?_
      show Steps p.tables e below (T7.setTop (mkF m 21 #[.val (.ref ob), .val (.ref h0.size), .val (.int (6 : Int32)), .val (.int ((0 : Int32) + (1 : Int32))), .val (.ref b_K_EDITED)] [(.ref b_K_EDITED)])) _
      refine st9 _ ?_
      show Steps p.tables e below (T9.setTop (mkF m 24 #[.val (.ref ob), .val (.ref h0.size), .val (.int (6 : Int32)), .val (.int ((0 : Int32) + (1 : Int32))), .val (.ref b_K_EDITED)] [.null])) _
      refine XS.aloadN X9.here hx rfl (hb hby own_d_prog_35_method_5_24) rfl rfl ?_
      show Steps p.tables e below (T9.setTop (mkF m 25 #[.val (.ref ob), .val (.ref h0.size), .val (.int (6 : Int32)), .val (.int ((0 : Int32) + (1 : Int32))), .val (.ref b_K_EDITED)] [(.ref ob), .null])) _
      refine Jvm.RoadKit.acmp (g := (mkF m 25 #[.val (.ref ob), .val (.ref h0.size), .val (.int (6 : Int32)), .val (.int ((0 : Int32) + (1 : Int32))), .val (.ref b_K_EDITED)] [(.ref ob), .null])) X9 hx rfl rfl rfl (pc0 := 25) (pc' := 31) (same := false) rfl (hb hby own_d_prog_35_method_5_25) rfl (decide_eq_false nofun) (by decide) (by decide) ?_
      show Steps p.tables e below (T9.setTop (mkF m 31 #[.val (.ref ob), .val (.ref h0.size), .val (.int (6 : Int32)), .val (.int ((0 : Int32) + (1 : Int32))), .val (.ref b_K_EDITED)] [])) _
      refine XS.iinc X9.here hx rfl (hb hby own_d_prog_35_method_5_31) rfl (l' := #[.val (.ref ob), .val (.ref h0.size), .val (.int (6 : Int32)), .val (.int (((0 : Int32) + (1 : Int32)) + (1 : Int32))), .val (.ref b_K_EDITED)]) rfl ?_
      show Steps p.tables e below (T9.setTop (mkF m 34 #[.val (.ref ob), .val (.ref h0.size), .val (.int (6 : Int32)), .val (.int (((0 : Int32) + (1 : Int32)) + (1 : Int32))), .val (.ref b_K_EDITED)] [])) _
      refine XS.goto X9.here hx rfl (pc0 := 34) (pc' := 9) rfl (hb hby own_d_prog_35_method_5_34) (by decide) (by decide) ?_
      show Steps p.tables e below (T9.setTop (mkF m 9 #[.val (.ref ob), .val (.ref h0.size), .val (.int (6 : Int32)), .val (.int (((0 : Int32) + (1 : Int32)) + (1 : Int32))), .val (.ref b_K_EDITED)] [])) _
      refine XS.iloadN X9.here hx rfl (hb hby own_d_prog_35_method_5_9) rfl ?_
      show Steps p.tables e below (T9.setTop (mkF m 10 #[.val (.ref ob), .val (.ref h0.size), .val (.int (6 : Int32)), .val (.int (((0 : Int32) + (1 : Int32)) + (1 : Int32))), .val (.ref b_K_EDITED)] [(.int (((0 : Int32) + (1 : Int32)) + (1 : Int32)))])) _
      refine XS.iloadN X9.here hx rfl (hb hby own_d_prog_35_method_5_10) rfl ?_
      show Steps p.tables e below (T9.setTop (mkF m 11 #[.val (.ref ob), .val (.ref h0.size), .val (.int (6 : Int32)), .val (.int (((0 : Int32) + (1 : Int32)) + (1 : Int32))), .val (.ref b_K_EDITED)] [(.int (6 : Int32)), (.int (((0 : Int32) + (1 : Int32)) + (1 : Int32)))])) _
      refine XS.icmpNo X9.here hx rfl (hb hby own_d_prog_35_method_5_11) rfl (tlt (show (((0 : Int32) + (1 : Int32)) + (1 : Int32)) < (6 : Int32) by decide)).2.1 ?_
      show Steps p.tables e below (T9.setTop (mkF m 14 #[.val (.ref ob), .val (.ref h0.size), .val (.int (6 : Int32)), .val (.int (((0 : Int32) + (1 : Int32)) + (1 : Int32))), .val (.ref b_K_EDITED)] [])) _
      refine XS.aloadN X9.here hx rfl (hb hby own_d_prog_35_method_5_14) rfl rfl ?_
      show Steps p.tables e below (T9.setTop (mkF m 15 #[.val (.ref ob), .val (.ref h0.size), .val (.int (6 : Int32)), .val (.int (((0 : Int32) + (1 : Int32)) + (1 : Int32))), .val (.ref b_K_EDITED)] [(.ref h0.size)])) _
      refine XS.iloadN X9.here hx rfl (hb hby own_d_prog_35_method_5_15) rfl ?_
      show Steps p.tables e below (T9.setTop (mkF m 16 #[.val (.ref ob), .val (.ref h0.size), .val (.int (6 : Int32)), .val (.int (((0 : Int32) + (1 : Int32)) + (1 : Int32))), .val (.ref b_K_EDITED)] [(.int (((0 : Int32) + (1 : Int32)) + (1 : Int32))), (.ref h0.size)])) _
      refine X9.aaload hx (j := (((0 : Int32) + (1 : Int32)) + (1 : Int32))) (v := (.ref b_K_MISSING)) (by rw [e9]; exact Ar10.1) (State.isArrayOf_alike hZ.alike Ar10.2.1) rfl Ar10.2.2 (own_inb G10 6 rfl (show ¬ ((((0 : Int32) + (1 : Int32)) + (1 : Int32)) < 0 ∨ 6 ≤ ((((0 : Int32) + (1 : Int32)) + (1 : Int32))).toNatClampNeg) by decide)) (own_get G10 rfl) (g := (mkF m 16 #[.val (.ref ob), .val (.ref h0.size), .val (.int (6 : Int32)), .val (.int (((0 : Int32) + (1 : Int32)) + (1 : Int32))), .val (.ref b_K_EDITED)] [(.int (((0 : Int32) + (1 : Int32)) + (1 : Int32))), (.ref h0.size)])) rfl rfl (hb hby own_d_prog_35_method_5_16) _ ?_
      show Steps p.tables e below (T9.setTop (mkF m 17 #[.val (.ref ob), .val (.ref h0.size), .val (.int (6 : Int32)), .val (.int (((0 : Int32) + (1 : Int32)) + (1 : Int32))), .val (.ref b_K_EDITED)] [(.ref b_K_MISSING)])) _
      refine XS.astore X9.here hx rfl (hb hby own_d_prog_35_method_5_17) rfl rfl (l' := #[.val (.ref ob), .val (.ref h0.size), .val (.int (6 : Int32)), .val (.int (((0 : Int32) + (1 : Int32)) + (1 : Int32))), .val (.ref b_K_MISSING)]) rfl ?_
      show Steps p.tables e below (T9.setTop (mkF m 19 #[.val (.ref ob), .val (.ref h0.size), .val (.int (6 : Int32)), .val (.int (((0 : Int32) + (1 : Int32)) + (1 : Int32))), .val (.ref b_K_MISSING)] [])) _
      refine XS.aload X9.here hx rfl (hb hby own_d_prog_35_method_5_19) rfl rfl ?_
      show Steps p.tables e below (T9.setTop (mkF m 21 #[.val (.ref ob), .val (.ref h0.size), .val (.int (6 : Int32)), .val (.int (((0 : Int32) + (1 : Int32)) + (1 : Int32))), .val (.ref b_K_MISSING)] [(.ref b_K_MISSING)])) _
      refine st11 _ ?_
      show Steps p.tables e below (T11.setTop (mkF m 24 #[.val (.ref ob), .val (.ref h0.size), .val (.int (6 : Int32)), .val (.int (((0 : Int32) + (1 : Int32)) + (1 : Int32))), .val (.ref b_K_MISSING)] [.null])) _
      refine XS.aloadN X11.here hx rfl (hb hby own_d_prog_35_method_5_24) rfl rfl ?_
      show Steps p.tables e below (T11.setTop (mkF m 25 #[.val (.ref ob), .val (.ref h0.size), .val (.int (6 : Int32)), .val (.int (((0 : Int32) + (1 : Int32)) + (1 : Int32))), .val (.ref b_K_MISSING)] [(.ref ob), .null])) _
      refine Jvm.RoadKit.acmp (g := (mkF m 25 #[.val (.ref ob), .val (.ref h0.size), .val (.int (6 : Int32)), .val (.int (((0 : Int32) + (1 : Int32)) + (1 : Int32))), .val (.ref b_K_MISSING)] [(.ref ob), .null])) X11 hx rfl rfl rfl (pc0 := 25) (pc' := 31) (same := false) rfl (hb hby own_d_prog_35_method_5_25) rfl (decide_eq_false nofun) (by decide) (by decide) ?_
      show Steps p.tables e below (T11.setTop (mkF m 31 #[.val (.ref ob), .val (.ref h0.size), .val (.int (6 : Int32)), .val (.int (((0 : Int32) + (1 : Int32)) + (1 : Int32))), .val (.ref b_K_MISSING)] [])) _
      refine XS.iinc X11.here hx rfl (hb hby own_d_prog_35_method_5_31) rfl (l' := #[.val (.ref ob), .val (.ref h0.size), .val (.int (6 : Int32)), .val (.int ((((0 : Int32) + (1 : Int32)) + (1 : Int32)) + (1 : Int32))), .val (.ref b_K_MISSING)]) rfl ?_
      show Steps p.tables e below (T11.setTop (mkF m 34 #[.val (.ref ob), .val (.ref h0.size), .val (.int (6 : Int32)), .val (.int ((((0 : Int32) + (1 : Int32)) + (1 : Int32)) + (1 : Int32))), .val (.ref b_K_MISSING)] [])) _
      refine XS.goto X11.here hx rfl (pc0 := 34) (pc' := 9) rfl (hb hby own_d_prog_35_method_5_34) (by decide) (by decide) ?_
      show Steps p.tables e below (T11.setTop (mkF m 9 #[.val (.ref ob), .val (.ref h0.size), .val (.int (6 : Int32)), .val (.int ((((0 : Int32) + (1 : Int32)) + (1 : Int32)) + (1 : Int32))), .val (.ref b_K_MISSING)] [])) _
      refine XS.iloadN X11.here hx rfl (hb hby own_d_prog_35_method_5_9) rfl ?_
      show Steps p.tables e below (T11.setTop (mkF m 10 #[.val (.ref ob), .val (.ref h0.size), .val (.int (6 : Int32)), .val (.int ((((0 : Int32) + (1 : Int32)) + (1 : Int32)) + (1 : Int32))), .val (.ref b_K_MISSING)] [(.int ((((0 : Int32) + (1 : Int32)) + (1 : Int32)) + (1 : Int32)))])) _
      refine XS.iloadN X11.here hx rfl (hb hby own_d_prog_35_method_5_10) rfl ?_
      show Steps p.tables e below (T11.setTop (mkF m 11 #[.val (.ref ob), .val (.ref h0.size), .val (.int (6 : Int32)), .val (.int ((((0 : Int32) + (1 : Int32)) + (1 : Int32)) + (1 : Int32))), .val (.ref b_K_MISSING)] [(.int (6 : Int32)), (.int ((((0 : Int32) + (1 : Int32)) + (1 : Int32)) + (1 : Int32)))])) _
      refine XS.icmpNo X11.here hx rfl (hb hby own_d_prog_35_method_5_11) rfl (tlt (show ((((0 : Int32) + (1 : Int32)) + (1 : Int32)) + (1 : Int32)) < (6 : Int32) by decide)).2.1 ?_
      show Steps p.tables e below (T11.setTop (mkF m 14 #[.val (.ref ob), .val (.ref h0.size), .val (.int (6 : Int32)), .val (.int ((((0 : Int32) + (1 : Int32)) + (1 : Int32)) + (1 : Int32))), .val (.ref b_K_MISSING)] [])) _
      refine XS.aloadN X11.here hx rfl (hb hby own_d_prog_35_method_5_14) rfl rfl ?_
      show Steps p.tables e below (T11.setTop (mkF m 15 #[.val (.ref ob), .val (.ref h0.size), .val (.int (6 : Int32)), .val (.int ((((0 : Int32) + (1 : Int32)) + (1 : Int32)) + (1 : Int32))), .val (.ref b_K_MISSING)] [(.ref h0.size)])) _
      refine XS.iloadN X11.here hx rfl (hb hby own_d_prog_35_method_5_15) rfl ?_
      show Steps p.tables e below (T11.setTop (mkF m 16 #[.val (.ref ob), .val (.ref h0.size), .val (.int (6 : Int32)), .val (.int ((((0 : Int32) + (1 : Int32)) + (1 : Int32)) + (1 : Int32))), .val (.ref b_K_MISSING)] [(.int ((((0 : Int32) + (1 : Int32)) + (1 : Int32)) + (1 : Int32))), (.ref h0.size)])) _
      refine X11.aaload hx (j := ((((0 : Int32) + (1 : Int32)) + (1 : Int32)) + (1 : Int32))) (v := (.ref b_K_OUT_OF_ORDER)) (by rw [e11]; exact Ar12.1) (State.isArrayOf_alike hZ.alike Ar12.2.1) rfl Ar12.2.2 (own_inb G12 6 rfl (show ¬ (((((0 : Int32) + (1 : Int32)) + (1 : Int32)) + (1 : Int32)) < 0 ∨ 6 ≤ (((((0 : Int32) + (1 : Int32)) + (1 : Int32)) + (1 : Int32))).toNatClampNeg) by decide)) (own_get G12 rfl) (g := (mkF m 16 #[.val (.ref ob), .val (.ref h0.size), .val (.int (6 : Int32)), .val (.int ((((0 : Int32) + (1 : Int32)) + (1 : Int32)) + (1 : Int32))), .val (.ref b_K_MISSING)] [(.int ((((0 : Int32) + (1 : Int32)) + (1 : Int32)) + (1 : Int32))), (.ref h0.size)])) rfl rfl (hb hby own_d_prog_35_method_5_16) _ ?_
      show Steps p.tables e below (T11.setTop (mkF m 17 #[.val (.ref ob), .val (.ref h0.size), .val (.int (6 : Int32)), .val (.int ((((0 : Int32) + (1 : Int32)) + (1 : Int32)) + (1 : Int32))), .val (.ref b_K_MISSING)] [(.ref b_K_OUT_OF_ORDER)])) _
      refine XS.astore X11.here hx rfl (hb hby own_d_prog_35_method_5_17) rfl rfl (l' := #[.val (.ref ob), .val (.ref h0.size), .val (.int (6 : Int32)), .val (.int ((((0 : Int32) + (1 : Int32)) + (1 : Int32)) + (1 : Int32))), .val (.ref b_K_OUT_OF_ORDER)]) rfl ?_
      show Steps p.tables e below (T11.setTop (mkF m 19 #[.val (.ref ob), .val (.ref h0.size), .val (.int (6 : Int32)), .val (.int ((((0 : Int32) + (1 : Int32)) + (1 : Int32)) + (1 : Int32))), .val (.ref b_K_OUT_OF_ORDER)] [])) _
      refine XS.aload X11.here hx rfl (hb hby own_d_prog_35_method_5_19) rfl rfl ?_
      show Steps p.tables e below (T11.setTop (mkF m 21 #[.val (.ref ob), .val (.ref h0.size), .val (.int (6 : Int32)), .val (.int ((((0 : Int32) + (1 : Int32)) + (1 : Int32)) + (1 : Int32))), .val (.ref b_K_OUT_OF_ORDER)] [(.ref b_K_OUT_OF_ORDER)])) _
      refine st13 _ ?_
      show Steps p.tables e below (T13.setTop (mkF m 24 #[.val (.ref ob), .val (.ref h0.size), .val (.int (6 : Int32)), .val (.int ((((0 : Int32) + (1 : Int32)) + (1 : Int32)) + (1 : Int32))), .val (.ref b_K_OUT_OF_ORDER)] [.null])) _
      refine XS.aloadN X13.here hx rfl (hb hby own_d_prog_35_method_5_24) rfl rfl ?_
      show Steps p.tables e below (T13.setTop (mkF m 25 #[.val (.ref ob), .val (.ref h0.size), .val (.int (6 : Int32)), .val (.int ((((0 : Int32) + (1 : Int32)) + (1 : Int32)) + (1 : Int32))), .val (.ref b_K_OUT_OF_ORDER)] [(.ref ob), .null])) _
      refine Jvm.RoadKit.acmp (g := (mkF m 25 #[.val (.ref ob), .val (.ref h0.size), .val (.int (6 : Int32)), .val (.int ((((0 : Int32) + (1 : Int32)) + (1 : Int32)) + (1 : Int32))), .val (.ref b_K_OUT_OF_ORDER)] [(.ref ob), .null])) X13 hx rfl rfl rfl (pc0 := 25) (pc' := 31) (same := false) rfl (hb hby own_d_prog_35_method_5_25) rfl (decide_eq_false nofun) (by decide) (by decide) ?_
      show Steps p.tables e below (T13.setTop (mkF m 31 #[.val (.ref ob), .val (.ref h0.size), .val (.int (6 : Int32)), .val (.int ((((0 : Int32) + (1 : Int32)) + (1 : Int32)) + (1 : Int32))), .val (.ref b_K_OUT_OF_ORDER)] [])) _
      refine XS.iinc X13.here hx rfl (hb hby own_d_prog_35_method_5_31) rfl (l' := #[.val (.ref ob), .val (.ref h0.size), .val (.int (6 : Int32)), .val (.int (((((0 : Int32) + (1 : Int32)) + (1 : Int32)) + (1 : Int32)) + (1 : Int32))), .val (.ref b_K_OUT_OF_ORDER)]) rfl ?_
      show Steps p.tables e below (T13.setTop (mkF m 34 #[.val (.ref ob), .val (.ref h0.size), .val (.int (6 : Int32)), .val (.int (((((0 : Int32) + (1 : Int32)) + (1 : Int32)) + (1 : Int32)) + (1 : Int32))), .val (.ref b_K_OUT_OF_ORDER)] [])) _
      refine XS.goto X13.here hx rfl (pc0 := 34) (pc' := 9) rfl (hb hby own_d_prog_35_method_5_34) (by decide) (by decide) ?_
      show Steps p.tables e below (T13.setTop (mkF m 9 #[.val (.ref ob), .val (.ref h0.size), .val (.int (6 : Int32)), .val (.int (((((0 : Int32) + (1 : Int32)) + (1 : Int32)) + (1 : Int32)) + (1 : Int32))), .val (.ref b_K_OUT_OF_ORDER)] [])) _
      refine XS.iloadN X13.here hx rfl (hb hby own_d_prog_35_method_5_9) rfl ?_
      show Steps p.tables e below (T13.setTop (mkF m 10 #[.val (.ref ob), .val (.ref h0.size), .val (.int (6 : Int32)), .val (.int (((((0 : Int32) + (1 : Int32)) + (1 : Int32)) + (1 : Int32)) + (1 : Int32))), .val (.ref b_K_OUT_OF_ORDER)] [(.int (((((0 : Int32) + (1 : Int32)) + (1 : Int32)) + (1 : Int32)) + (1 : Int32)))])) _
      refine XS.iloadN X13.here hx rfl (hb hby own_d_prog_35_method_5_10) rfl ?_
      show Steps p.tables e below (T13.setTop (mkF m 11 #[.val (.ref ob), .val (.ref h0.size), .val (.int (6 : Int32)), .val (.int (((((0 : Int32) + (1 : Int32)) + (1 : Int32)) + (1 : Int32)) + (1 : Int32))), .val (.ref b_K_OUT_OF_ORDER)] [(.int (6 : Int32)), (.int (((((0 : Int32) + (1 : Int32)) + (1 : Int32)) + (1 : Int32)) + (1 : Int32)))])) _
      refine XS.icmpNo X13.here hx rfl (hb hby own_d_prog_35_method_5_11) rfl (tlt (show (((((0 : Int32) + (1 : Int32)) + (1 : Int32)) + (1 : Int32)) + (1 : Int32)) < (6 : Int32) by decide)).2.1 ?_
      show Steps p.tables e below (T13.setTop (mkF m 14 #[.val (.ref ob), .val (.ref h0.size), .val (.int (6 : Int32)), .val (.int (((((0 : Int32) + (1 : Int32)) + (1 : Int32)) + (1 : Int32)) + (1 : Int32))), .val (.ref b_K_OUT_OF_ORDER)] [])) _
      refine XS.aloadN X13.here hx rfl (hb hby own_d_prog_35_method_5_14) rfl rfl ?_
      show Steps p.tables e below (T13.setTop (mkF m 15 #[.val (.ref ob), .val (.ref h0.size), .val (.int (6 : Int32)), .val (.int (((((0 : Int32) + (1 : Int32)) + (1 : Int32)) + (1 : Int32)) + (1 : Int32))), .val (.ref b_K_OUT_OF_ORDER)] [(.ref h0.size)])) _
      refine XS.iloadN X13.here hx rfl (hb hby own_d_prog_35_method_5_15) rfl ?_
      show Steps p.tables e below (T13.setTop (mkF m 16 #[.val (.ref ob), .val (.ref h0.size), .val (.int (6 : Int32)), .val (.int (((((0 : Int32) + (1 : Int32)) + (1 : Int32)) + (1 : Int32)) + (1 : Int32))), .val (.ref b_K_OUT_OF_ORDER)] [(.int (((((0 : Int32) + (1 : Int32)) + (1 : Int32)) + (1 : Int32)) + (1 : Int32))), (.ref h0.size)])) _
      refine X13.aaload hx (j := (((((0 : Int32) + (1 : Int32)) + (1 : Int32)) + (1 : Int32)) + (1 : Int32))) (v := (.ref b_K_FAILED)) (by rw [e13]; exact Ar14.1) (State.isArrayOf_alike hZ.alike Ar14.2.1) rfl Ar14.2.2 (own_inb G14 6 rfl (show ¬ ((((((0 : Int32) + (1 : Int32)) + (1 : Int32)) + (1 : Int32)) + (1 : Int32)) < 0 ∨ 6 ≤ ((((((0 : Int32) + (1 : Int32)) + (1 : Int32)) + (1 : Int32)) + (1 : Int32))).toNatClampNeg) by decide)) (own_get G14 rfl) (g := (mkF m 16 #[.val (.ref ob), .val (.ref h0.size), .val (.int (6 : Int32)), .val (.int (((((0 : Int32) + (1 : Int32)) + (1 : Int32)) + (1 : Int32)) + (1 : Int32))), .val (.ref b_K_OUT_OF_ORDER)] [(.int (((((0 : Int32) + (1 : Int32)) + (1 : Int32)) + (1 : Int32)) + (1 : Int32))), (.ref h0.size)])) rfl rfl (hb hby own_d_prog_35_method_5_16) _ ?_
      show Steps p.tables e below (T13.setTop (mkF m 17 #[.val (.ref ob), .val (.ref h0.size), .val (.int (6 : Int32)), .val (.int (((((0 : Int32) + (1 : Int32)) + (1 : Int32)) + (1 : Int32)) + (1 : Int32))), .val (.ref b_K_OUT_OF_ORDER)] [(.ref b_K_FAILED)])) _
      refine XS.astore X13.here hx rfl (hb hby own_d_prog_35_method_5_17) rfl rfl (l' := #[.val (.ref ob), .val (.ref h0.size), .val (.int (6 : Int32)), .val (.int (((((0 : Int32) + (1 : Int32)) + (1 : Int32)) + (1 : Int32)) + (1 : Int32))), .val (.ref b_K_FAILED)]) rfl ?_
      show Steps p.tables e below (T13.setTop (mkF m 19 #[.val (.ref ob), .val (.ref h0.size), .val (.int (6 : Int32)), .val (.int (((((0 : Int32) + (1 : Int32)) + (1 : Int32)) + (1 : Int32)) + (1 : Int32))), .val (.ref b_K_FAILED)] [])) _
      refine XS.aload X13.here hx rfl (hb hby own_d_prog_35_method_5_19) rfl rfl ?_
      show Steps p.tables e below (T13.setTop (mkF m 21 #[.val (.ref ob), .val (.ref h0.size), .val (.int (6 : Int32)), .val (.int (((((0 : Int32) + (1 : Int32)) + (1 : Int32)) + (1 : Int32)) + (1 : Int32))), .val (.ref b_K_FAILED)] [(.ref b_K_FAILED)])) _
      refine st15 _ ?_
      show Steps p.tables e below (T15.setTop (mkF m 24 #[.val (.ref ob), .val (.ref h0.size), .val (.int (6 : Int32)), .val (.int (((((0 : Int32) + (1 : Int32)) + (1 : Int32)) + (1 : Int32)) + (1 : Int32))), .val (.ref b_K_FAILED)] [(.ref b_M_FAILED)])) _
      refine XS.aloadN X15.here hx rfl (hb hby own_d_prog_35_method_5_24) rfl rfl ?_
      show Steps p.tables e below (T15.setTop (mkF m 25 #[.val (.ref ob), .val (.ref h0.size), .val (.int (6 : Int32)), .val (.int (((((0 : Int32) + (1 : Int32)) + (1 : Int32)) + (1 : Int32)) + (1 : Int32))), .val (.ref b_K_FAILED)] [(.ref ob), (.ref b_M_FAILED)])) _
      refine Jvm.RoadKit.acmp (g := (mkF m 25 #[.val (.ref ob), .val (.ref h0.size), .val (.int (6 : Int32)), .val (.int (((((0 : Int32) + (1 : Int32)) + (1 : Int32)) + (1 : Int32)) + (1 : Int32))), .val (.ref b_K_FAILED)] [(.ref ob), (.ref b_M_FAILED)])) X15 hx rfl rfl rfl (pc0 := 25) (pc' := 31) (same := false) rfl (hb hby own_d_prog_35_method_5_25) rfl (decide_eq_false (own_ref_ne (fun z => ne_FAILED_APPLIED (z.trans q)))) (by decide) (by decide) ?_
      show Steps p.tables e below (T15.setTop (mkF m 31 #[.val (.ref ob), .val (.ref h0.size), .val (.int (6 : Int32)), .val (.int (((((0 : Int32) + (1 : Int32)) + (1 : Int32)) + (1 : Int32)) + (1 : Int32))), .val (.ref b_K_FAILED)] [])) _
      refine XS.iinc X15.here hx rfl (hb hby own_d_prog_35_method_5_31) rfl (l' := #[.val (.ref ob), .val (.ref h0.size), .val (.int (6 : Int32)), .val (.int ((((((0 : Int32) + (1 : Int32)) + (1 : Int32)) + (1 : Int32)) + (1 : Int32)) + (1 : Int32))), .val (.ref b_K_FAILED)]) rfl ?_
      show Steps p.tables e below (T15.setTop (mkF m 34 #[.val (.ref ob), .val (.ref h0.size), .val (.int (6 : Int32)), .val (.int ((((((0 : Int32) + (1 : Int32)) + (1 : Int32)) + (1 : Int32)) + (1 : Int32)) + (1 : Int32))), .val (.ref b_K_FAILED)] [])) _
      refine XS.goto X15.here hx rfl (pc0 := 34) (pc' := 9) rfl (hb hby own_d_prog_35_method_5_34) (by decide) (by decide) ?_
      show Steps p.tables e below (T15.setTop (mkF m 9 #[.val (.ref ob), .val (.ref h0.size), .val (.int (6 : Int32)), .val (.int ((((((0 : Int32) + (1 : Int32)) + (1 : Int32)) + (1 : Int32)) + (1 : Int32)) + (1 : Int32))), .val (.ref b_K_FAILED)] [])) _
      refine XS.iloadN X15.here hx rfl (hb hby own_d_prog_35_method_5_9) rfl ?_
      show Steps p.tables e below (T15.setTop (mkF m 10 #[.val (.ref ob), .val (.ref h0.size), .val (.int (6 : Int32)), .val (.int ((((((0 : Int32) + (1 : Int32)) + (1 : Int32)) + (1 : Int32)) + (1 : Int32)) + (1 : Int32))), .val (.ref b_K_FAILED)] [(.int ((((((0 : Int32) + (1 : Int32)) + (1 : Int32)) + (1 : Int32)) + (1 : Int32)) + (1 : Int32)))])) _
      refine XS.iloadN X15.here hx rfl (hb hby own_d_prog_35_method_5_10) rfl ?_
      show Steps p.tables e below (T15.setTop (mkF m 11 #[.val (.ref ob), .val (.ref h0.size), .val (.int (6 : Int32)), .val (.int ((((((0 : Int32) + (1 : Int32)) + (1 : Int32)) + (1 : Int32)) + (1 : Int32)) + (1 : Int32))), .val (.ref b_K_FAILED)] [(.int (6 : Int32)), (.int ((((((0 : Int32) + (1 : Int32)) + (1 : Int32)) + (1 : Int32)) + (1 : Int32)) + (1 : Int32)))])) _
      refine XS.icmpNo X15.here hx rfl (hb hby own_d_prog_35_method_5_11) rfl (tlt (show ((((((0 : Int32) + (1 : Int32)) + (1 : Int32)) + (1 : Int32)) + (1 : Int32)) + (1 : Int32)) < (6 : Int32) by decide)).2.1 ?_
      show Steps p.tables e below (T15.setTop (mkF m 14 #[.val (.ref ob), .val (.ref h0.size), .val (.int (6 : Int32)), .val (.int ((((((0 : Int32) + (1 : Int32)) + (1 : Int32)) + (1 : Int32)) + (1 : Int32)) + (1 : Int32))), .val (.ref b_K_FAILED)] [])) _
      refine XS.aloadN X15.here hx rfl (hb hby own_d_prog_35_method_5_14) rfl rfl ?_
      show Steps p.tables e below (T15.setTop (mkF m 15 #[.val (.ref ob), .val (.ref h0.size), .val (.int (6 : Int32)), .val (.int ((((((0 : Int32) + (1 : Int32)) + (1 : Int32)) + (1 : Int32)) + (1 : Int32)) + (1 : Int32))), .val (.ref b_K_FAILED)] [(.ref h0.size)])) _
      refine XS.iloadN X15.here hx rfl (hb hby own_d_prog_35_method_5_15) rfl ?_
      show Steps p.tables e below (T15.setTop (mkF m 16 #[.val (.ref ob), .val (.ref h0.size), .val (.int (6 : Int32)), .val (.int ((((((0 : Int32) + (1 : Int32)) + (1 : Int32)) + (1 : Int32)) + (1 : Int32)) + (1 : Int32))), .val (.ref b_K_FAILED)] [(.int ((((((0 : Int32) + (1 : Int32)) + (1 : Int32)) + (1 : Int32)) + (1 : Int32)) + (1 : Int32))), (.ref h0.size)])) _
      refine X15.aaload hx (j := ((((((0 : Int32) + (1 : Int32)) + (1 : Int32)) + (1 : Int32)) + (1 : Int32)) + (1 : Int32))) (v := (.ref b_K_INTERRUPTED)) (by rw [e15]; exact Ar16.1) (State.isArrayOf_alike hZ.alike Ar16.2.1) rfl Ar16.2.2 (own_inb G16 6 rfl (show ¬ (((((((0 : Int32) + (1 : Int32)) + (1 : Int32)) + (1 : Int32)) + (1 : Int32)) + (1 : Int32)) < 0 ∨ 6 ≤ (((((((0 : Int32) + (1 : Int32)) + (1 : Int32)) + (1 : Int32)) + (1 : Int32)) + (1 : Int32))).toNatClampNeg) by decide)) (own_get G16 rfl) (g := (mkF m 16 #[.val (.ref ob), .val (.ref h0.size), .val (.int (6 : Int32)), .val (.int ((((((0 : Int32) + (1 : Int32)) + (1 : Int32)) + (1 : Int32)) + (1 : Int32)) + (1 : Int32))), .val (.ref b_K_FAILED)] [(.int ((((((0 : Int32) + (1 : Int32)) + (1 : Int32)) + (1 : Int32)) + (1 : Int32)) + (1 : Int32))), (.ref h0.size)])) rfl rfl (hb hby own_d_prog_35_method_5_16) _ ?_
      show Steps p.tables e below (T15.setTop (mkF m 17 #[.val (.ref ob), .val (.ref h0.size), .val (.int (6 : Int32)), .val (.int ((((((0 : Int32) + (1 : Int32)) + (1 : Int32)) + (1 : Int32)) + (1 : Int32)) + (1 : Int32))), .val (.ref b_K_FAILED)] [(.ref b_K_INTERRUPTED)])) _
      refine XS.astore X15.here hx rfl (hb hby own_d_prog_35_method_5_17) rfl rfl (l' := #[.val (.ref ob), .val (.ref h0.size), .val (.int (6 : Int32)), .val (.int ((((((0 : Int32) + (1 : Int32)) + (1 : Int32)) + (1 : Int32)) + (1 : Int32)) + (1 : Int32))), .val (.ref b_K_INTERRUPTED)]) rfl ?_
      show Steps p.tables e below (T15.setTop (mkF m 19 #[.val (.ref ob), .val (.ref h0.size), .val (.int (6 : Int32)), .val (.int ((((((0 : Int32) + (1 : Int32)) + (1 : Int32)) + (1 : Int32)) + (1 : Int32)) + (1 : Int32))), .val (.ref b_K_INTERRUPTED)] [])) _
      refine XS.aload X15.here hx rfl (hb hby own_d_prog_35_method_5_19) rfl rfl ?_
      show Steps p.tables e below (T15.setTop (mkF m 21 #[.val (.ref ob), .val (.ref h0.size), .val (.int (6 : Int32)), .val (.int ((((((0 : Int32) + (1 : Int32)) + (1 : Int32)) + (1 : Int32)) + (1 : Int32)) + (1 : Int32))), .val (.ref b_K_INTERRUPTED)] [(.ref b_K_INTERRUPTED)])) _
      refine st17 _ ?_
      show Steps p.tables e below (T17.setTop (mkF m 24 #[.val (.ref ob), .val (.ref h0.size), .val (.int (6 : Int32)), .val (.int ((((((0 : Int32) + (1 : Int32)) + (1 : Int32)) + (1 : Int32)) + (1 : Int32)) + (1 : Int32))), .val (.ref b_K_INTERRUPTED)] [(.ref b_M_INTERRUPTED)])) _
      refine XS.aloadN X17.here hx rfl (hb hby own_d_prog_35_method_5_24) rfl rfl ?_
      show Steps p.tables e below (T17.setTop (mkF m 25 #[.val (.ref ob), .val (.ref h0.size), .val (.int (6 : Int32)), .val (.int ((((((0 : Int32) + (1 : Int32)) + (1 : Int32)) + (1 : Int32)) + (1 : Int32)) + (1 : Int32))), .val (.ref b_K_INTERRUPTED)] [(.ref ob), (.ref b_M_INTERRUPTED)])) _
      refine Jvm.RoadKit.acmp (g := (mkF m 25 #[.val (.ref ob), .val (.ref h0.size), .val (.int (6 : Int32)), .val (.int ((((((0 : Int32) + (1 : Int32)) + (1 : Int32)) + (1 : Int32)) + (1 : Int32)) + (1 : Int32))), .val (.ref b_K_INTERRUPTED)] [(.ref ob), (.ref b_M_INTERRUPTED)])) X17 hx rfl rfl rfl (pc0 := 25) (pc' := 31) (same := false) rfl (hb hby own_d_prog_35_method_5_25) rfl (decide_eq_false (own_ref_ne (fun z => ne_INTERRUPTED_APPLIED (z.trans q)))) (by decide) (by decide) ?_
      show Steps p.tables e below (T17.setTop (mkF m 31 #[.val (.ref ob), .val (.ref h0.size), .val (.int (6 : Int32)), .val (.int ((((((0 : Int32) + (1 : Int32)) + (1 : Int32)) + (1 : Int32)) + (1 : Int32)) + (1 : Int32))), .val (.ref b_K_INTERRUPTED)] [])) _
      refine XS.iinc X17.here hx rfl (hb hby own_d_prog_35_method_5_31) rfl (l' := #[.val (.ref ob), .val (.ref h0.size), .val (.int (6 : Int32)), .val (.int (((((((0 : Int32) + (1 : Int32)) + (1 : Int32)) + (1 : Int32)) + (1 : Int32)) + (1 : Int32)) + (1 : Int32))), .val (.ref b_K_INTERRUPTED)]) rfl ?_
      show Steps p.tables e below (T17.setTop (mkF m 34 #[.val (.ref ob), .val (.ref h0.size), .val (.int (6 : Int32)), .val (.int (((((((0 : Int32) + (1 : Int32)) + (1 : Int32)) + (1 : Int32)) + (1 : Int32)) + (1 : Int32)) + (1 : Int32))), .val (.ref b_K_INTERRUPTED)] [])) _
      refine XS.goto X17.here hx rfl (pc0 := 34) (pc' := 9) rfl (hb hby own_d_prog_35_method_5_34) (by decide) (by decide) ?_
      show Steps p.tables e below (T17.setTop (mkF m 9 #[.val (.ref ob), .val (.ref h0.size), .val (.int (6 : Int32)), .val (.int (((((((0 : Int32) + (1 : Int32)) + (1 : Int32)) + (1 : Int32)) + (1 : Int32)) + (1 : Int32)) + (1 : Int32))), .val (.ref b_K_INTERRUPTED)] [])) _
      refine XS.iloadN X17.here hx rfl (hb hby own_d_prog_35_method_5_9) rfl ?_
      show Steps p.tables e below (T17.setTop (mkF m 10 #[.val (.ref ob), .val (.ref h0.size), .val (.int (6 : Int32)), .val (.int (((((((0 : Int32) + (1 : Int32)) + (1 : Int32)) + (1 : Int32)) + (1 : Int32)) + (1 : Int32)) + (1 : Int32))), .val (.ref b_K_INTERRUPTED)] [(.int (((((((0 : Int32) + (1 : Int32)) + (1 : Int32)) + (1 : Int32)) + (1 : Int32)) + (1 : Int32)) + (1 : Int32)))])) _
      refine XS.iloadN X17.here hx rfl (hb hby own_d_prog_35_method_5_10) rfl ?_
      show Steps p.tables e below (T17.setTop (mkF m 11 #[.val (.ref ob), .val (.ref h0.size), .val (.int (6 : Int32)), .val (.int (((((((0 : Int32) + (1 : Int32)) + (1 : Int32)) + (1 : Int32)) + (1 : Int32)) + (1 : Int32)) + (1 : Int32))), .val (.ref b_K_INTERRUPTED)] [(.int (6 : Int32)), (.int (((((((0 : Int32) + (1 : Int32)) + (1 : Int32)) + (1 : Int32)) + (1 : Int32)) + (1 : Int32)) + (1 : Int32)))])) _
      refine XS.icmpYes X17.here hx rfl (pc0 := 11) (pc' := 37) rfl (hb hby own_d_prog_35_method_5_11) rfl (flt (show ¬ ((((((((0 : Int32) + (1 : Int32)) + (1 : Int32)) + (1 : Int32)) + (1 : Int32)) + (1 : Int32)) + (1 : Int32)) < (6 : Int32)) by decide)).2.1 (by decide) (by decide) ?_
      show Steps p.tables e below (T17.setTop (mkF m 37 #[.val (.ref ob), .val (.ref h0.size), .val (.int (6 : Int32)), .val (.int (((((((0 : Int32) + (1 : Int32)) + (1 : Int32)) + (1 : Int32)) + (1 : Int32)) + (1 : Int32)) + (1 : Int32))), .val (.ref b_K_INTERRUPTED)] [])) _
      refine XS.aconstNull X17.here hx rfl (hb hby own_d_prog_35_method_5_37) ?_
      show Steps p.tables e below (T17.setTop (mkF m 38 #[.val (.ref ob), .val (.ref h0.size), .val (.int (6 : Int32)), .val (.int (((((((0 : Int32) + (1 : Int32)) + (1 : Int32)) + (1 : Int32)) + (1 : Int32)) + (1 : Int32)) + (1 : Int32))), .val (.ref b_K_INTERRUPTED)] [.null])) _
      exact own_retA X17 hx (by first | rfl | decide) rfl Bd.returns (hb hby own_d_prog_35_method_5_38) hr
    · show rm_of_Q Z ob wv aV cV b_M_APPLIED b_K_PENDING b_K_EDITED b_K_MISSING b_K_OUT_OF_ORDER b_K_FAILED b_K_INTERRUPTED b_M_PENDING b_M_FAILED b_M_INTERRUPTED h0 n0 _ T17.heap _
      rw [e17]
      exact ⟨by rw [r], N4, XE4⟩
  · obtain ⟨_, _, ⟨T18, L18, k18, n18⟩, -, X18, ⟨Lc18, hQ18, l18, y18, z18⟩, st18⟩ := Jvm.LawKit.callS X0 hx (y := (⟨"com/example/urashima/urashima/Problem$Kind", "values", "()[Lcom/example/urashima/urashima/Problem$Kind;"⟩ : MethodName)) hown (mvT hZ (hw _ (List.mem_of_getElem? (i := 7) rfl))) (mvT hZ (hw _ (List.mem_of_getElem? (i := 8) rfl))) (mvT hZ (hw _ (List.mem_of_getElem? (i := 5) rfl))) (mvT hZ (hw _ (List.mem_of_getElem? (i := 9) rfl))) (by decide) (backOf (W := 0) (rm_values l Z a0 hw [] aV cV b_K_PENDING b_K_EDITED b_K_MISSING b_K_OUT_OF_ORDER b_K_FAILED b_K_INTERRUPTED h0 n0 Z0 S_V A_V E_V FC_V L_V) hZ (hw _ (List.mem_of_getElem? (i := 9) rfl)) (hw _ (List.mem_of_getElem? (i := 5) rfl)) (by decide) (by decide)) (g := (mkF m 0 #[.val (.ref ob), .unset, .unset, .unset, .unset] [])) rfl (by rw [hml]; rfl) (argsL := []) (rest := []) (lenOf own_pd0 rfl) rfl (by show 2 * 0 + _ ≤ _; exact Nat.le_of_eq rfl) (hb hby own_d_prog_35_method_5_0) (fun _ _ => ⟨rfl, e0, (by decide : 0 + 1 ≤ _), (by decide : 0 + 6 ≤ _)⟩)
    dsimp only [Pt.U, Pt.locs, Pt.cells, Pt.slots] at X18 l18 y18 z18 st18 hQ18
    subst l18 y18 z18
    obtain ⟨rfl, Nq18, xe18, vl18⟩ := hQ18
    have N18 := Fr.app N0 Nq18
    have XE18 : Ext h0 T18.heap := xe18
    obtain ⟨cl19, Ar19, q19, G19⟩ := id vl18
    obtain ⟨cl20, Ar20, q20, G20⟩ := id vl18
    obtain ⟨T21, X21, e21, st21⟩ := getF X18 hx hZ hown (host := "") (Or.inl (hw _ (List.mem_of_getElem? (i := 28) rfl))) Via.refl rfl (F_K_PENDING_state.ext XE18) (g := (mkF m 21 #[.val (.ref ob), .val (.ref h0.size), .val (.int (6 : Int32)), .val (.int (0 : Int32)), .val (.ref b_K_PENDING)] [(.ref b_K_PENDING)])) rfl rfl (hb hby own_d_prog_35_method_5_21)
    obtain ⟨fs, hr, hrun, hended, hW, hsame⟩ := X21.leave (v := some (.ref b_K_PENDING)) (fun h => by rw [Bd.returns] at h; cases h)
    refine ⟨_, _, pre0 _ ?_, hrun, hended, _, _, rfl, ?_, ⟨_, rfl⟩, hW, hsame.mono (by decide) (by decide)⟩
    · show Steps p.tables e below (s₁.setTop (mkF m 0 #[.val (.ref ob), .unset, .unset, .unset, .unset] [])) _
      refine st18 _ ?_
      show Steps p.tables e below (T18.setTop (mkF m 3 #[.val (.ref ob), .unset, .unset, .unset, .unset] [(.ref h0.size)])) _
      refine XS.astoreN X18.here hx rfl (hb hby own_d_prog_35_method_5_3) rfl rfl (l' := #[.val (.ref ob), .val (.ref h0.size), .unset, .unset, .unset]) rfl ?_
      show Steps p.tables e below (T18.setTop (mkF m 4 #[.val (.ref ob), .val (.ref h0.size), .unset, .unset, .unset] [])) _
      refine XS.aloadN X18.here hx rfl (hb hby own_d_prog_35_method_5_4) rfl rfl ?_
      show Steps p.tables e below (T18.setTop (mkF m 5 #[.val (.ref ob), .val (.ref h0.size), .unset, .unset, .unset] [(.ref h0.size)])) _
      refine X18.arraylength hx (cell := cl19) Ar19.1 (State.isArrayOf_alike hZ.alike Ar19.2.1) (g := (mkF m 5 #[.val (.ref ob), .val (.ref h0.size), .unset, .unset, .unset] [(.ref h0.size)])) rfl (rest := []) rfl (hb hby own_d_prog_35_method_5_5) _ ?_
      rw [own_len (z := (6 : Int32)) G19 rfl]
      show Steps p.tables e below (T18.setTop (mkF m 6 #[.val (.ref ob), .val (.ref h0.size), .unset, .unset, .unset] [(.int (6 : Int32))])) _
      refine XS.istoreN X18.here hx rfl (hb hby own_d_prog_35_method_5_6) rfl (l' := #[.val (.ref ob), .val (.ref h0.size), .val (.int (6 : Int32)), .unset, .unset]) rfl ?_
      show Steps p.tables e below (T18.setTop (mkF m 7 #[.val (.ref ob), .val (.ref h0.size), .val (.int (6 : Int32)), .unset, .unset] [])) _
      refine XS.iconst X18.here hx rfl (hb hby own_d_prog_35_method_5_7) ?_
      show Steps p.tables e below (T18.setTop (mkF m 8 #[.val (.ref ob), .val (.ref h0.size), .val (.int (6 : Int32)), .unset, .unset] [(.int (0 : Int32))])) _
      refine XS.istoreN X18.here hx rfl (hb hby own_d_prog_35_method_5_8) rfl (l' := #[.val (.ref ob), .val (.ref h0.size), .val (.int (6 : Int32)), .val (.int (0 : Int32)), .unset]) rfl ?_
      show Steps p.tables e below (T18.setTop (mkF m 9 #[.val (.ref ob), .val (.ref h0.size), .val (.int (6 : Int32)), .val (.int (0 : Int32)), .unset] [])) _
      refine XS.iloadN X18.here hx rfl (hb hby own_d_prog_35_method_5_9) rfl ?_
      show Steps p.tables e below (T18.setTop (mkF m 10 #[.val (.ref ob), .val (.ref h0.size), .val (.int (6 : Int32)), .val (.int (0 : Int32)), .unset] [(.int (0 : Int32))])) _
      refine XS.iloadN X18.here hx rfl (hb hby own_d_prog_35_method_5_10) rfl ?_
      show Steps p.tables e below (T18.setTop (mkF m 11 #[.val (.ref ob), .val (.ref h0.size), .val (.int (6 : Int32)), .val (.int (0 : Int32)), .unset] [(.int (6 : Int32)), (.int (0 : Int32))])) _
      refine XS.icmpNo X18.here hx rfl (hb hby own_d_prog_35_method_5_11) rfl (tlt (show (0 : Int32) < (6 : Int32) by decide)).2.1 ?_
      show Steps p.tables e below (T18.setTop (mkF m 14 #[.val (.ref ob), .val (.ref h0.size), .val (.int (6 : Int32)), .val (.int (0 : Int32)), .unset] [])) _
      refine XS.aloadN X18.here hx rfl (hb hby own_d_prog_35_method_5_14) rfl rfl ?_
      show Steps p.tables e below (T18.setTop (mkF m 15 #[.val (.ref ob), .val (.ref h0.size), .val (.int (6 : Int32)), .val (.int (0 : Int32)), .unset] [(.ref h0.size)])) _
      refine XS.iloadN X18.here hx rfl (hb hby own_d_prog_35_method_5_15) rfl ?_
      show Steps p.tables e below (T18.setTop (mkF m 16 #[.val (.ref ob), .val (.ref h0.size), .val (.int (6 : Int32)), .val (.int (0 : Int32)), .unset] [(.int (0 : Int32)), (.ref h0.size)])) _
      refine X18.aaload hx (j := (0 : Int32)) (v := (.ref b_K_PENDING)) Ar20.1 (State.isArrayOf_alike hZ.alike Ar20.2.1) rfl Ar20.2.2 (own_inb G20 6 rfl (show ¬ ((0 : Int32) < 0 ∨ 6 ≤ ((0 : Int32)).toNatClampNeg) by decide)) (own_get G20 rfl) (g := (mkF m 16 #[.val (.ref ob), .val (.ref h0.size), .val (.int (6 : Int32)), .val (.int (0 : Int32)), .unset] [(.int (0 : Int32)), (.ref h0.size)])) rfl rfl (hb hby own_d_prog_35_method_5_16) _ ?_
      show Steps p.tables e below (T18.setTop (mkF m 17 #[.val (.ref ob), .val (.ref h0.size), .val (.int (6 : Int32)), .val (.int (0 : Int32)), .unset] [(.ref b_K_PENDING)])) _
      refine XS.astore X18.here hx rfl (hb hby own_d_prog_35_method_5_17) rfl rfl (l' := #[.val (.ref ob), .val (.ref h0.size), .val (.int (6 : Int32)), .val (.int (0 : Int32)), .val (.ref b_K_PENDING)]) rfl ?_
      show Steps p.tables e below (T18.setTop (mkF m 19 #[.val (.ref ob), .val (.ref h0.size), .val (.int (6 : Int32)), .val (.int (0 : Int32)), .val (.ref b_K_PENDING)] [])) _
      refine XS.aload X18.here hx rfl (hb hby own_d_prog_35_method_5_19) rfl rfl ?_
      show Steps p.tables e below (T18.setTop (mkF m 21 #[.val (.ref ob), .val (.ref h0.size), .val (.int (6 : Int32)), .val (.int (0 : Int32)), .val (.ref b_K_PENDING)] [(.ref b_K_PENDING)])) _
      refine st21 _ ?_
      show Steps p.tables e below (T21.setTop (mkF m 24 #[.val (.ref ob), .val (.ref h0.size), .val (.int (6 : Int32)), .val (.int (0 : Int32)), .val (.ref b_K_PENDING)] [(.ref b_M_PENDING)])) _
      refine XS.aloadN X21.here hx rfl (hb hby own_d_prog_35_method_5_24) rfl rfl ?_
      show Steps p.tables e below (T21.setTop (mkF m 25 #[.val (.ref ob), .val (.ref h0.size), .val (.int (6 : Int32)), .val (.int (0 : Int32)), .val (.ref b_K_PENDING)] [(.ref ob), (.ref b_M_PENDING)])) _
      refine Jvm.RoadKit.acmp (g := (mkF m 25 #[.val (.ref ob), .val (.ref h0.size), .val (.int (6 : Int32)), .val (.int (0 : Int32)), .val (.ref b_K_PENDING)] [(.ref ob), (.ref b_M_PENDING)])) X21 hx rfl rfl rfl (pc0 := 25) (pc' := 28) (same := true) rfl (hb hby own_d_prog_35_method_5_25) rfl (decide_eq_true (own_ref_eq q.symm)) (by decide) (by decide) ?_
      show Steps p.tables e below (T21.setTop (mkF m 28 #[.val (.ref ob), .val (.ref h0.size), .val (.int (6 : Int32)), .val (.int (0 : Int32)), .val (.ref b_K_PENDING)] [])) _
      refine XS.aload X21.here hx rfl (hb hby own_d_prog_35_method_5_28) rfl rfl ?_
      show Steps p.tables e below (T21.setTop (mkF m 30 #[.val (.ref ob), .val (.ref h0.size), .val (.int (6 : Int32)), .val (.int (0 : Int32)), .val (.ref b_K_PENDING)] [(.ref b_K_PENDING)])) _
      exact own_retA X21 hx (by first | rfl | decide) rfl Bd.returns (hb hby own_d_prog_35_method_5_30) hr
    · show rm_of_Q Z ob wv aV cV b_M_APPLIED b_K_PENDING b_K_EDITED b_K_MISSING b_K_OUT_OF_ORDER b_K_FAILED b_K_INTERRUPTED b_M_PENDING b_M_FAILED b_M_INTERRUPTED h0 n0 _ T21.heap _
      rw [e21]
      exact ⟨by rw [r], N18, XE18⟩
  · obtain ⟨_, _, ⟨T22, L22, k22, n22⟩, -, X22, ⟨Lc22, hQ22, l22, y22, z22⟩, st22⟩ := Jvm.LawKit.callS X0 hx (y := (⟨"com/example/urashima/urashima/Problem$Kind", "values", "()[Lcom/example/urashima/urashima/Problem$Kind;"⟩ : MethodName)) hown (mvT hZ (hw _ (List.mem_of_getElem? (i := 7) rfl))) (mvT hZ (hw _ (List.mem_of_getElem? (i := 8) rfl))) (mvT hZ (hw _ (List.mem_of_getElem? (i := 5) rfl))) (mvT hZ (hw _ (List.mem_of_getElem? (i := 9) rfl))) (by decide) (backOf (W := 0) (rm_values l Z a0 hw [] aV cV b_K_PENDING b_K_EDITED b_K_MISSING b_K_OUT_OF_ORDER b_K_FAILED b_K_INTERRUPTED h0 n0 Z0 S_V A_V E_V FC_V L_V) hZ (hw _ (List.mem_of_getElem? (i := 9) rfl)) (hw _ (List.mem_of_getElem? (i := 5) rfl)) (by decide) (by decide)) (g := (mkF m 0 #[.val (.ref ob), .unset, .unset, .unset, .unset] [])) rfl (by rw [hml]; rfl) (argsL := []) (rest := []) (lenOf own_pd0 rfl) rfl (by show 2 * 0 + _ ≤ _; exact Nat.le_of_eq rfl) (hb hby own_d_prog_35_method_5_0) (fun _ _ => ⟨rfl, e0, (by decide : 0 + 1 ≤ _), (by decide : 0 + 6 ≤ _)⟩)
    dsimp only [Pt.U, Pt.locs, Pt.cells, Pt.slots] at X22 l22 y22 z22 st22 hQ22
    subst l22 y22 z22
    obtain ⟨rfl, Nq22, xe22, vl22⟩ := hQ22
    have N22 := Fr.app N0 Nq22
    have XE22 : Ext h0 T22.heap := xe22
    obtain ⟨cl23, Ar23, q23, G23⟩ := id vl22
    obtain ⟨cl24, Ar24, q24, G24⟩ := id vl22
    obtain ⟨T25, X25, e25, st25⟩ := getF X22 hx hZ hown (host := "") (Or.inl (hw _ (List.mem_of_getElem? (i := 28) rfl))) Via.refl rfl (F_K_PENDING_state.ext XE22) (g := (mkF m 21 #[.val (.ref ob), .val (.ref h0.size), .val (.int (6 : Int32)), .val (.int (0 : Int32)), .val (.ref b_K_PENDING)] [(.ref b_K_PENDING)])) rfl rfl (hb hby own_d_prog_35_method_5_21)
    obtain ⟨cl26, Ar26, q26, G26⟩ := id vl22
    obtain ⟨T27, X27, e27, st27⟩ := getF X25 hx hZ hown (host := "") (Or.inl (hw _ (List.mem_of_getElem? (i := 28) rfl))) Via.refl e25 (F_K_EDITED_state.ext XE22) (g := (mkF m 21 #[.val (.ref ob), .val (.ref h0.size), .val (.int (6 : Int32)), .val (.int ((0 : Int32) + (1 : Int32))), .val (.ref b_K_EDITED)] [(.ref b_K_EDITED)])) rfl rfl (hb hby own_d_prog_35_method_5_21)
    obtain ⟨cl28, Ar28, q28, G28⟩ := id vl22
    obtain ⟨T29, X29, e29, st29⟩ := getF X27 hx hZ hown (host := "") (Or.inl (hw _ (List.mem_of_getElem? (i := 28) rfl))) Via.refl e27 (F_K_MISSING_state.ext XE22) (g := (mkF m 21 #[.val (.ref ob), .val (.ref h0.size), .val (.int (6 : Int32)), .val (.int (((0 : Int32) + (1 : Int32)) + (1 : Int32))), .val (.ref b_K_MISSING)] [(.ref b_K_MISSING)])) rfl rfl (hb hby own_d_prog_35_method_5_21)
    obtain ⟨cl30, Ar30, q30, G30⟩ := id vl22
    obtain ⟨T31, X31, e31, st31⟩ := getF X29 hx hZ hown (host := "") (Or.inl (hw _ (List.mem_of_getElem? (i := 28) rfl))) Via.refl e29 (F_K_OUT_OF_ORDER_state.ext XE22) (g := (mkF m 21 #[.val (.ref ob), .val (.ref h0.size), .val (.int (6 : Int32)), .val (.int ((((0 : Int32) + (1 : Int32)) + (1 : Int32)) + (1 : Int32))), .val (.ref b_K_OUT_OF_ORDER)] [(.ref b_K_OUT_OF_ORDER)])) rfl rfl (hb hby own_d_prog_35_method_5_21)
    obtain ⟨cl32, Ar32, q32, G32⟩ := id vl22
    obtain ⟨T33, X33, e33, st33⟩ := getF X31 hx hZ hown (host := "") (Or.inl (hw _ (List.mem_of_getElem? (i := 28) rfl))) Via.refl e31 (F_K_FAILED_state.ext XE22) (g := (mkF m 21 #[.val (.ref ob), .val (.ref h0.size), .val (.int (6 : Int32)), .val (.int (((((0 : Int32) + (1 : Int32)) + (1 : Int32)) + (1 : Int32)) + (1 : Int32))), .val (.ref b_K_FAILED)] [(.ref b_K_FAILED)])) rfl rfl (hb hby own_d_prog_35_method_5_21)
    obtain ⟨fs, hr, hrun, hended, hW, hsame⟩ := X33.leave (v := some (.ref b_K_FAILED)) (fun h => by rw [Bd.returns] at h; cases h)
    refine ⟨_, _, pre0 _ ?_, hrun, hended, _, _, rfl, ?_, ⟨_, rfl⟩, hW, hsame.mono (by decide) (by decide)⟩
    · show Steps p.tables e below (s₁.setTop (mkF m 0 #[.val (.ref ob), .unset, .unset, .unset, .unset] [])) _
      refine st22 _ ?_
      show Steps p.tables e below (T22.setTop (mkF m 3 #[.val (.ref ob), .unset, .unset, .unset, .unset] [(.ref h0.size)])) _
      refine XS.astoreN X22.here hx rfl (hb hby own_d_prog_35_method_5_3) rfl rfl (l' := #[.val (.ref ob), .val (.ref h0.size), .unset, .unset, .unset]) rfl ?_
      show Steps p.tables e below (T22.setTop (mkF m 4 #[.val (.ref ob), .val (.ref h0.size), .unset, .unset, .unset] [])) _
      refine XS.aloadN X22.here hx rfl (hb hby own_d_prog_35_method_5_4) rfl rfl ?_
      show Steps p.tables e below (T22.setTop (mkF m 5 #[.val (.ref ob), .val (.ref h0.size), .unset, .unset, .unset] [(.ref h0.size)])) _
      refine X22.arraylength hx (cell := cl23) Ar23.1 (State.isArrayOf_alike hZ.alike Ar23.2.1) (g := (mkF m 5 #[.val (.ref ob), .val (.ref h0.size), .unset, .unset, .unset] [(.ref h0.size)])) rfl (rest := []) rfl (hb hby own_d_prog_35_method_5_5) _ ?_
      rw [own_len (z := (6 : Int32)) G23 rfl]
      show Steps p.tables e below (T22.setTop (mkF m 6 #[.val (.ref ob), .val (.ref h0.size), .unset, .unset, .unset] [(.int (6 : Int32))])) _
      refine XS.istoreN X22.here hx rfl (hb hby own_d_prog_35_method_5_6) rfl (l' := #[.val (.ref ob), .val (.ref h0.size), .val (.int (6 : Int32)), .unset, .unset]) rfl ?_
      show Steps p.tables e below (T22.setTop (mkF m 7 #[.val (.ref ob), .val (.ref h0.size), .val (.int (6 : Int32)), .unset, .unset] [])) _
      refine XS.iconst X22.here hx rfl (hb hby own_d_prog_35_method_5_7) ?_
      show Steps p.tables e below (T22.setTop (mkF m 8 #[.val (.ref ob), .val (.ref h0.size), .val (.int (6 : Int32)), .unset, .unset] [(.int (0 : Int32))])) _
      refine XS.istoreN X22.here hx rfl (hb hby own_d_prog_35_method_5_8) rfl (l' := #[.val (.ref ob), .val (.ref h0.size), .val (.int (6 : Int32)), .val (.int (0 : Int32)), .unset]) rfl ?_
      show Steps p.tables e below (T22.setTop (mkF m 9 #[.val (.ref ob), .val (.ref h0.size), .val (.int (6 : Int32)), .val (.int (0 : Int32)), .unset] [])) _
      refine XS.iloadN X22.here hx rfl (hb hby own_d_prog_35_method_5_9) rfl ?_
      show Steps p.tables e below (T22.setTop (mkF m 10 #[.val (.ref ob), .val (.ref h0.size), .val (.int (6 : Int32)), .val (.int (0 : Int32)), .unset] [(.int (0 : Int32))])) _
      refine XS.iloadN X22.here hx rfl (hb hby own_d_prog_35_method_5_10) rfl ?_
      show Steps p.tables e below (T22.setTop (mkF m 11 #[.val (.ref ob), .val (.ref h0.size), .val (.int (6 : Int32)), .val (.int (0 : Int32)), .unset] [(.int (6 : Int32)), (.int (0 : Int32))])) _
      refine XS.icmpNo X22.here hx rfl (hb hby own_d_prog_35_method_5_11) rfl (tlt (show (0 : Int32) < (6 : Int32) by decide)).2.1 ?_
      show Steps p.tables e below (T22.setTop (mkF m 14 #[.val (.ref ob), .val (.ref h0.size), .val (.int (6 : Int32)), .val (.int (0 : Int32)), .unset] [])) _
      refine XS.aloadN X22.here hx rfl (hb hby own_d_prog_35_method_5_14) rfl rfl ?_
      show Steps p.tables e below (T22.setTop (mkF m 15 #[.val (.ref ob), .val (.ref h0.size), .val (.int (6 : Int32)), .val (.int (0 : Int32)), .unset] [(.ref h0.size)])) _
      refine XS.iloadN X22.here hx rfl (hb hby own_d_prog_35_method_5_15) rfl ?_
      show Steps p.tables e below (T22.setTop (mkF m 16 #[.val (.ref ob), .val (.ref h0.size), .val (.int (6 : Int32)), .val (.int (0 : Int32)), .unset] [(.int (0 : Int32)), (.ref h0.size)])) _
      refine X22.aaload hx (j := (0 : Int32)) (v := (.ref b_K_PENDING)) Ar24.1 (State.isArrayOf_alike hZ.alike Ar24.2.1) rfl Ar24.2.2 (own_inb G24 6 rfl (show ¬ ((0 : Int32) < 0 ∨ 6 ≤ ((0 : Int32)).toNatClampNeg) by decide)) (own_get G24 rfl) (g := (mkF m 16 #[.val (.ref ob), .val (.ref h0.size), .val (.int (6 : Int32)), .val (.int (0 : Int32)), .unset] [(.int (0 : Int32)), (.ref h0.size)])) rfl rfl (hb hby own_d_prog_35_method_5_16) _ ?_
      show Steps p.tables e below (T22.setTop (mkF m 17 #[.val (.ref ob), .val (.ref h0.size), .val (.int (6 : Int32)), .val (.int (0 : Int32)), .unset] [(.ref b_K_PENDING)])) _
      refine XS.astore X22.here hx rfl (hb hby own_d_prog_35_method_5_17) rfl rfl (l' := #[.val (.ref ob), .val (.ref h0.size), .val (.int (6 : Int32)), .val (.int (0 : Int32)), .val (.ref b_K_PENDING)]) rfl ?_
      show Steps p.tables e below (T22.setTop (mkF m 19 #[.val (.ref ob), .val (.ref h0.size), .val (.int (6 : Int32)), .val (.int (0 : Int32)), .val (.ref b_K_PENDING)] [])) _
      refine XS.aload X22.here hx rfl (hb hby own_d_prog_35_method_5_19) rfl rfl ?_
      show Steps p.tables e below (T22.setTop (mkF m 21 #[.val (.ref ob), .val (.ref h0.size), .val (.int (6 : Int32)), .val (.int (0 : Int32)), .val (.ref b_K_PENDING)] [(.ref b_K_PENDING)])) _
      refine st25 _ ?_
      show Steps p.tables e below (T25.setTop (mkF m 24 #[.val (.ref ob), .val (.ref h0.size), .val (.int (6 : Int32)), .val (.int (0 : Int32)), .val (.ref b_K_PENDING)] [(.ref b_M_PENDING)])) _
      refine XS.aloadN X25.here hx rfl (hb hby own_d_prog_35_method_5_24) rfl rfl ?_
      show Steps p.tables e below (T25.setTop (mkF m 25 #[.val (.ref ob), .val (.ref h0.size), .val (.int (6 : Int32)), .val (.int (0 : Int32)), .val (.ref b_K_PENDING)] [(.ref ob), (.ref b_M_PENDING)])) _
      refine Jvm.RoadKit.acmp (g := (mkF m 25 #[.val (.ref ob), .val (.ref h0.size), .val (.int (6 : Int32)), .val (.int (0 : Int32)), .val (.ref b_K_PENDING)] [(.ref ob), (.ref b_M_PENDING)])) X25 hx rfl rfl rfl (pc0 := 25) (pc' := 31) (same := false) rfl (hb hby own_d_prog_35_method_5_25) rfl (decide_eq_false (own_ref_ne (fun z => ne_PENDING_FAILED (z.trans q)))) (by decide) (by decide) ?_
      show Steps p.tables e below (T25.setTop (mkF m 31 #[.val (.ref ob), .val (.ref h0.size), .val (.int (6 : Int32)), .val (.int (0 : Int32)), .val (.ref b_K_PENDING)] [])) _
      refine XS.iinc X25.here hx rfl (hb hby own_d_prog_35_method_5_31) rfl (l' := #[.val (.ref ob), .val (.ref h0.size), .val (.int (6 : Int32)), .val (.int ((0 : Int32) + (1 : Int32))), .val (.ref b_K_PENDING)]) rfl ?_
      show Steps p.tables e below (T25.setTop (mkF m 34 #[.val (.ref ob), .val (.ref h0.size), .val (.int (6 : Int32)), .val (.int ((0 : Int32) + (1 : Int32))), .val (.ref b_K_PENDING)] [])) _
      refine XS.goto X25.here hx rfl (pc0 := 34) (pc' := 9) rfl (hb hby own_d_prog_35_method_5_34) (by decide) (by decide) ?_
      show Steps p.tables e below (T25.setTop (mkF m 9 #[.val (.ref ob), .val (.ref h0.size), .val (.int (6 : Int32)), .val (.int ((0 : Int32) + (1 : Int32))), .val (.ref b_K_PENDING)] [])) _
      refine XS.iloadN X25.here hx rfl (hb hby own_d_prog_35_method_5_9) rfl ?_
      show Steps p.tables e below (T25.setTop (mkF m 10 #[.val (.ref ob), .val (.ref h0.size), .val (.int (6 : Int32)), .val (.int ((0 : Int32) + (1 : Int32))), .val (.ref b_K_PENDING)] [(.int ((0 : Int32) + (1 : Int32)))])) _
      refine XS.iloadN X25.here hx rfl (hb hby own_d_prog_35_method_5_10) rfl ?_
      show Steps p.tables e below (T25.setTop (mkF m 11 #[.val (.ref ob), .val (.ref h0.size), .val (.int (6 : Int32)), .val (.int ((0 : Int32) + (1 : Int32))), .val (.ref b_K_PENDING)] [(.int (6 : Int32)), (.int ((0 : Int32) + (1 : Int32)))])) _
      refine XS.icmpNo X25.here hx rfl (hb hby own_d_prog_35_method_5_11) rfl (tlt (show ((0 : Int32) + (1 : Int32)) < (6 : Int32) by decide)).2.1 ?_
      show Steps p.tables e below (T25.setTop (mkF m 14 #[.val (.ref ob), .val (.ref h0.size), .val (.int (6 : Int32)), .val (.int ((0 : Int32) + (1 : Int32))), .val (.ref b_K_PENDING)] [])) _
      refine XS.aloadN X25.here hx rfl (hb hby own_d_prog_35_method_5_14) rfl rfl ?_
      show Steps p.tables e below (T25.setTop (mkF m 15 #[.val (.ref ob), .val (.ref h0.size), .val (.int (6 : Int32)), .val (.int ((0 : Int32) + (1 : Int32))), .val (.ref b_K_PENDING)] [(.ref h0.size)])) _
      refine XS.iloadN X25.here hx rfl (hb hby own_d_prog_35_method_5_15) rfl ?_
      show Steps p.tables e below (T25.setTop (mkF m 16 #[.val (.ref ob), .val (.ref h0.size), .val (.int (6 : Int32)), .val (.int ((0 : Int32) + (1 : Int32))), .val (.ref b_K_PENDING)] [(.int ((0 : Int32) + (1 : Int32))), (.ref h0.size)])) _
      refine X25.aaload hx (j := ((0 : Int32) + (1 : Int32))) (v := (.ref b_K_EDITED)) (by rw [e25]; exact Ar26.1) (State.isArrayOf_alike hZ.alike Ar26.2.1) rfl Ar26.2.2 (own_inb G26 6 rfl (show ¬ (((0 : Int32) + (1 : Int32)) < 0 ∨ 6 ≤ (((0 : Int32) + (1 : Int32))).toNatClampNeg) by decide)) (own_get G26 rfl) (g := (mkF m 16 #[.val (.ref ob), .val (.ref h0.size), .val (.int (6 : Int32)), .val (.int ((0 : Int32) + (1 : Int32))), .val (.ref b_K_PENDING)] [(.int ((0 : Int32) + (1 : Int32))), (.ref h0.size)])) rfl rfl (hb hby own_d_prog_35_method_5_16) _ ?_
      show Steps p.tables e below (T25.setTop (mkF m 17 #[.val (.ref ob), .val (.ref h0.size), .val (.int (6 : Int32)), .val (.int ((0 : Int32) + (1 : Int32))), .val (.ref b_K_PENDING)] [(.ref b_K_EDITED)])) _
      refine XS.astore X25.here hx rfl (hb hby own_d_prog_35_method_5_17) rfl rfl (l' := #[.val (.ref ob), .val (.ref h0.size), .val (.int (6 : Int32)), .val (.int ((0 : Int32) + (1 : Int32))), .val (.ref b_K_EDITED)]) rfl ?_
      show Steps p.tables e below (T25.setTop (mkF m 19 #[.val (.ref ob), .val (.ref h0.size), .val (.int (6 : Int32)), .val (.int ((0 : Int32) + (1 : Int32))), .val (.ref b_K_EDITED)] [])) _
      refine XS.aload X25.here hx rfl (hb hby own_d_prog_35_method_5_19) rfl rfl ?_
      show Steps p.tables e below (T25.setTop (mkF m 21 #[.val (.ref ob), .val (.ref h0.size), .val (.int (6 : Int32)), .val (.int ((0 : Int32) + (1 : Int32))), .val (.ref b_K_EDITED)] [(.ref b_K_EDITED)])) _
      refine st27 _ ?_
      show Steps p.tables e below (T27.setTop (mkF m 24 #[.val (.ref ob), .val (.ref h0.size), .val (.int (6 : Int32)), .val (.int ((0 : Int32) + (1 : Int32))), .val (.ref b_K_EDITED)] [.null])) _
      refine XS.aloadN X27.here hx rfl (hb hby own_d_prog_35_method_5_24) rfl rfl ?_
      show Steps p.tables e below (T27.setTop (mkF m 25 #[.val (.ref ob), .val (.ref h0.size), .val (.int (6 : Int32)), .val (.int ((0 : Int32) + (1 : Int32))), .val (.ref b_K_EDITED)] [(.ref ob), .null])) _
      refine Jvm.RoadKit.acmp (g := (mkF m 25 #[.val (.ref ob), .val (.ref h0.size), .val (.int (6 : Int32)), .val (.int ((0 : Int32) + (1 : Int32))), .val (.ref b_K_EDITED)] [(.ref ob), .null])) X27 hx rfl rfl rfl (pc0 := 25) (pc' := 31) (same := false) rfl (hb hby own_d_prog_35_method_5_25) rfl (decide_eq_false nofun) (by decide) (by decide) ?_
      show Steps p.tables e below (T27.setTop (mkF m 31 #[.val (.ref ob), .val (.ref h0.size), .val (.int (6 : Int32)), .val (.int ((0 : Int32) + (1 : Int32))), .val (.ref b_K_EDITED)] [])) _
      refine XS.iinc X27.here hx rfl (hb hby own_d_prog_35_method_5_31) rfl (l' := #[.val (.ref ob), .val (.ref h0.size), .val (.int (6 : Int32)), .val (.int (((0 : Int32) + (1 : Int32)) + (1 : Int32))), .val (.ref b_K_EDITED)]) rfl ?_
      show Steps p.tables e below (T27.setTop (mkF m 34 #[.val (.ref ob), .val (.ref h0.size), .val (.int (6 : Int32)), .val (.int (((0 : Int32) + (1 : Int32)) + (1 : Int32))), .val (.ref b_K_EDITED)] [])) _
      refine XS.goto X27.here hx rfl (pc0 := 34) (pc' := 9) rfl (hb hby own_d_prog_35_method_5_34) (by decide) (by decide) ?_
      show Steps p.tables e below (T27.setTop (mkF m 9 #[.val (.ref ob), .val (.ref h0.size), .val (.int (6 : Int32)), .val (.int (((0 : Int32) + (1 : Int32)) + (1 : Int32))), .val (.ref b_K_EDITED)] [])) _
      refine XS.iloadN X27.here hx rfl (hb hby own_d_prog_35_method_5_9) rfl ?_
      show Steps p.tables e below (T27.setTop (mkF m 10 #[.val (.ref ob), .val (.ref h0.size), .val (.int (6 : Int32)), .val (.int (((0 : Int32) + (1 : Int32)) + (1 : Int32))), .val (.ref b_K_EDITED)] [(.int (((0 : Int32) + (1 : Int32)) + (1 : Int32)))])) _
      refine XS.iloadN X27.here hx rfl (hb hby own_d_prog_35_method_5_10) rfl ?_
      show Steps p.tables e below (T27.setTop (mkF m 11 #[.val (.ref ob), .val (.ref h0.size), .val (.int (6 : Int32)), .val (.int (((0 : Int32) + (1 : Int32)) + (1 : Int32))), .val (.ref b_K_EDITED)] [(.int (6 : Int32)), (.int (((0 : Int32) + (1 : Int32)) + (1 : Int32)))])) _
      refine XS.icmpNo X27.here hx rfl (hb hby own_d_prog_35_method_5_11) rfl (tlt (show (((0 : Int32) + (1 : Int32)) + (1 : Int32)) < (6 : Int32) by decide)).2.1 ?_
      show Steps p.tables e below (T27.setTop (mkF m 14 #[.val (.ref ob), .val (.ref h0.size), .val (.int (6 : Int32)), .val (.int (((0 : Int32) + (1 : Int32)) + (1 : Int32))), .val (.ref b_K_EDITED)] [])) _
      refine XS.aloadN X27.here hx rfl (hb hby own_d_prog_35_method_5_14) rfl rfl ?_
      show Steps p.tables e below (T27.setTop (mkF m 15 #[.val (.ref ob), .val (.ref h0.size), .val (.int (6 : Int32)), .val (.int (((0 : Int32) + (1 : Int32)) + (1 : Int32))), .val (.ref b_K_EDITED)] [(.ref h0.size)])) _
      refine XS.iloadN X27.here hx rfl (hb hby own_d_prog_35_method_5_15) rfl ?_
      show Steps p.tables e below (T27.setTop (mkF m 16 #[.val (.ref ob), .val (.ref h0.size), .val (.int (6 : Int32)), .val (.int (((0 : Int32) + (1 : Int32)) + (1 : Int32))), .val (.ref b_K_EDITED)] [(.int (((0 : Int32) + (1 : Int32)) + (1 : Int32))), (.ref h0.size)])) _
      refine X27.aaload hx (j := (((0 : Int32) + (1 : Int32)) + (1 : Int32))) (v := (.ref b_K_MISSING)) (by rw [e27]; exact Ar28.1) (State.isArrayOf_alike hZ.alike Ar28.2.1) rfl Ar28.2.2 (own_inb G28 6 rfl (show ¬ ((((0 : Int32) + (1 : Int32)) + (1 : Int32)) < 0 ∨ 6 ≤ ((((0 : Int32) + (1 : Int32)) + (1 : Int32))).toNatClampNeg) by decide)) (own_get G28 rfl) (g := (mkF m 16 #[.val (.ref ob), .val (.ref h0.size), .val (.int (6 : Int32)), .val (.int (((0 : Int32) + (1 : Int32)) + (1 : Int32))), .val (.ref b_K_EDITED)] [(.int (((0 : Int32) + (1 : Int32)) + (1 : Int32))), (.ref h0.size)])) rfl rfl (hb hby own_d_prog_35_method_5_16) _ ?_
      show Steps p.tables e below (T27.setTop (mkF m 17 #[.val (.ref ob), .val (.ref h0.size), .val (.int (6 : Int32)), .val (.int (((0 : Int32) + (1 : Int32)) + (1 : Int32))), .val (.ref b_K_EDITED)] [(.ref b_K_MISSING)])) _
      refine XS.astore X27.here hx rfl (hb hby own_d_prog_35_method_5_17) rfl rfl (l' := #[.val (.ref ob), .val (.ref h0.size), .val (.int (6 : Int32)), .val (.int (((0 : Int32) + (1 : Int32)) + (1 : Int32))), .val (.ref b_K_MISSING)]) rfl ?_
      show Steps p.tables e below (T27.setTop (mkF m 19 #[.val (.ref ob), .val (.ref h0.size), .val (.int (6 : Int32)), .val (.int (((0 : Int32) + (1 : Int32)) + (1 : Int32))), .val (.ref b_K_MISSING)] [])) _
      refine XS.aload X27.here hx rfl (hb hby own_d_prog_35_method_5_19) rfl rfl ?_
      show Steps p.tables e below (T27.setTop (mkF m 21 #[.val (.ref ob), .val (.ref h0.size), .val (.int (6 : Int32)), .val (.int (((0 : Int32) + (1 : Int32)) + (1 : Int32))), .val (.ref b_K_MISSING)] [(.ref b_K_MISSING)])) _
      refine st29 _ ?_
      show Steps p.tables e below (T29.setTop (mkF m 24 #[.val (.ref ob), .val (.ref h0.size), .val (.int (6 : Int32)), .val (.int (((0 : Int32) + (1 : Int32)) + (1 : Int32))), .val (.ref b_K_MISSING)] [.null])) _
      refine XS.aloadN X29.here hx rfl (hb hby own_d_prog_35_method_5_24) rfl rfl ?_
      show Steps p.tables e below (T29.setTop (mkF m 25 #[.val (.ref ob), .val (.ref h0.size), .val (.int (6 : Int32)), .val (.int (((0 : Int32) + (1 : Int32)) + (1 : Int32))), .val (.ref b_K_MISSING)] [(.ref ob), .null])) _
      refine Jvm.RoadKit.acmp (g := (mkF m 25 #[.val (.ref ob), .val (.ref h0.size), .val (.int (6 : Int32)), .val (.int (((0 : Int32) + (1 : Int32)) + (1 : Int32))), .val (.ref b_K_MISSING)] [(.ref ob), .null])) X29 hx rfl rfl rfl (pc0 := 25) (pc' := 31) (same := false) rfl (hb hby own_d_prog_35_method_5_25) rfl (decide_eq_false nofun) (by decide) (by decide) ?_
      show Steps p.tables e below (T29.setTop (mkF m 31 #[.val (.ref ob), .val (.ref h0.size), .val (.int (6 : Int32)), .val (.int (((0 : Int32) + (1 : Int32)) + (1 : Int32))), .val (.ref b_K_MISSING)] [])) _
      refine XS.iinc X29.here hx rfl (hb hby own_d_prog_35_method_5_31) rfl (l' := #[.val (.ref ob), .val (.ref h0.size), .val (.int (6 : Int32)), .val (.int ((((0 : Int32) + (1 : Int32)) + (1 : Int32)) + (1 : Int32))), .val (.ref b_K_MISSING)]) rfl ?_
      show Steps p.tables e below (T29.setTop (mkF m 34 #[.val (.ref ob), .val (.ref h0.size), .val (.int (6 : Int32)), .val (.int ((((0 : Int32) + (1 : Int32)) + (1 : Int32)) + (1 : Int32))), .val (.ref b_K_MISSING)] [])) _
      refine XS.goto X29.here hx rfl (pc0 := 34) (pc' := 9) rfl (hb hby own_d_prog_35_method_5_34) (by decide) (by decide) ?_
      show Steps p.tables e below (T29.setTop (mkF m 9 #[.val (.ref ob), .val (.ref h0.size), .val (.int (6 : Int32)), .val (.int ((((0 : Int32) + (1 : Int32)) + (1 : Int32)) + (1 : Int32))), .val (.ref b_K_MISSING)] [])) _
      refine XS.iloadN X29.here hx rfl (hb hby own_d_prog_35_method_5_9) rfl ?_
      show Steps p.tables e below (T29.setTop (mkF m 10 #[.val (.ref ob), .val (.ref h0.size), .val (.int (6 : Int32)), .val (.int ((((0 : Int32) + (1 : Int32)) + (1 : Int32)) + (1 : Int32))), .val (.ref b_K_MISSING)] [(.int ((((0 : Int32) + (1 : Int32)) + (1 : Int32)) + (1 : Int32)))])) _
      refine XS.iloadN X29.here hx rfl (hb hby own_d_prog_35_method_5_10) rfl ?_
      show Steps p.tables e below (T29.setTop (mkF m 11 #[.val (.ref ob), .val (.ref h0.size), .val (.int (6 : Int32)), .val (.int ((((0 : Int32) + (1 : Int32)) + (1 : Int32)) + (1 : Int32))), .val (.ref b_K_MISSING)] [(.int (6 : Int32)), (.int ((((0 : Int32) + (1 : Int32)) + (1 : Int32)) + (1 : Int32)))])) _
      refine XS.icmpNo X29.here hx rfl (hb hby own_d_prog_35_method_5_11) rfl (tlt (show ((((0 : Int32) + (1 : Int32)) + (1 : Int32)) + (1 : Int32)) < (6 : Int32) by decide)).2.1 ?_
      show Steps p.tables e below (T29.setTop (mkF m 14 #[.val (.ref ob), .val (.ref h0.size), .val (.int (6 : Int32)), .val (.int ((((0 : Int32) + (1 : Int32)) + (1 : Int32)) + (1 : Int32))), .val (.ref b_K_MISSING)] [])) _
      refine XS.aloadN X29.here hx rfl (hb hby own_d_prog_35_method_5_14) rfl rfl ?_
      show Steps p.tables e below (T29.setTop (mkF m 15 #[.val (.ref ob), .val (.ref h0.size), .val (.int (6 : Int32)), .val (.int ((((0 : Int32) + (1 : Int32)) + (1 : Int32)) + (1 : Int32))), .val (.ref b_K_MISSING)] [(.ref h0.size)])) _
      refine XS.iloadN X29.here hx rfl (hb hby own_d_prog_35_method_5_15) rfl ?_
      show Steps p.tables e below (T29.setTop (mkF m 16 #[.val (.ref ob), .val (.ref h0.size), .val (.int (6 : Int32)), .val (.int ((((0 : Int32) + (1 : Int32)) + (1 : Int32)) + (1 : Int32))), .val (.ref b_K_MISSING)] [(.int ((((0 : Int32) + (1 : Int32)) + (1 : Int32)) + (1 : Int32))), (.ref h0.size)])) _
      refine X29.aaload hx (j := ((((0 : Int32) + (1 : Int32)) + (1 : Int32)) + (1 : Int32))) (v := (.ref b_K_OUT_OF_ORDER)) (by rw [e29]; exact Ar30.1) (State.isArrayOf_alike hZ.alike Ar30.2.1) rfl Ar30.2.2 (own_inb G30 6 rfl (show ¬ (((((0 : Int32) + (1 : Int32)) + (1 : Int32)) + (1 : Int32)) < 0 ∨ 6 ≤ (((((0 : Int32) + (1 : Int32)) + (1 : Int32)) + (1 : Int32))).toNatClampNeg) by decide)) (own_get G30 rfl) (g := (mkF m 16 #[.val (.ref ob), .val (.ref h0.size), .val (.int (6 : Int32)), .val (.int ((((0 : Int32) + (1 : Int32)) + (1 : Int32)) + (1 : Int32))), .val (.ref b_K_MISSING)] [(.int ((((0 : Int32) + (1 : Int32)) + (1 : Int32)) + (1 : Int32))), (.ref h0.size)])) rfl rfl (hb hby own_d_prog_35_method_5_16) _ ?_
      show Steps p.tables e below (T29.setTop (mkF m 17 #[.val (.ref ob), .val (.ref h0.size), .val (.int (6 : Int32)), .val (.int ((((0 : Int32) + (1 : Int32)) + (1 : Int32)) + (1 : Int32))), .val (.ref b_K_MISSING)] [(.ref b_K_OUT_OF_ORDER)])) _
      refine XS.astore X29.here hx rfl (hb hby own_d_prog_35_method_5_17) rfl rfl (l' := #[.val (.ref ob), .val (.ref h0.size), .val (.int (6 : Int32)), .val (.int ((((0 : Int32) + (1 : Int32)) + (1 : Int32)) + (1 : Int32))), .val (.ref b_K_OUT_OF_ORDER)]) rfl ?_
      show Steps p.tables e below (T29.setTop (mkF m 19 #[.val (.ref ob), .val (.ref h0.size), .val (.int (6 : Int32)), .val (.int ((((0 : Int32) + (1 : Int32)) + (1 : Int32)) + (1 : Int32))), .val (.ref b_K_OUT_OF_ORDER)] [])) _
      refine XS.aload X29.here hx rfl (hb hby own_d_prog_35_method_5_19) rfl rfl ?_
      show Steps p.tables e below (T29.setTop (mkF m 21 #[.val (.ref ob), .val (.ref h0.size), .val (.int (6 : Int32)), .val (.int ((((0 : Int32) + (1 : Int32)) + (1 : Int32)) + (1 : Int32))), .val (.ref b_K_OUT_OF_ORDER)] [(.ref b_K_OUT_OF_ORDER)])) _
      refine st31 _ ?_
      show Steps p.tables e below (T31.setTop (mkF m 24 #[.val (.ref ob), .val (.ref h0.size), .val (.int (6 : Int32)), .val (.int ((((0 : Int32) + (1 : Int32)) + (1 : Int32)) + (1 : Int32))), .val (.ref b_K_OUT_OF_ORDER)] [.null])) _
      refine XS.aloadN X31.here hx rfl (hb hby own_d_prog_35_method_5_24) rfl rfl ?_
      show Steps p.tables e below (T31.setTop (mkF m 25 #[.val (.ref ob), .val (.ref h0.size), .val (.int (6 : Int32)), .val (.int ((((0 : Int32) + (1 : Int32)) + (1 : Int32)) + (1 : Int32))), .val (.ref b_K_OUT_OF_ORDER)] [(.ref ob), .null])) _
      refine Jvm.RoadKit.acmp (g := (mkF m 25 #[.val (.ref ob), .val (.ref h0.size), .val (.int (6 : Int32)), .val (.int ((((0 : Int32) + (1 : Int32)) + (1 : Int32)) + (1 : Int32))), .val (.ref b_K_OUT_OF_ORDER)] [(.ref ob), .null])) X31 hx rfl rfl rfl (pc0 := 25) (pc' := 31) (same := false) rfl (hb hby own_d_prog_35_method_5_25) rfl (decide_eq_false nofun) (by decide) (by decide) ?_
      show Steps p.tables e below (T31.setTop (mkF m 31 #[.val (.ref ob), .val (.ref h0.size), .val (.int (6 : Int32)), .val (.int ((((0 : Int32) + (1 : Int32)) + (1 : Int32)) + (1 : Int32))), .val (.ref b_K_OUT_OF_ORDER)] [])) _
      refine XS.iinc X31.here hx rfl (hb hby own_d_prog_35_method_5_31) rfl (l' := #[.val (.ref ob), .val (.ref h0.size), .val (.int (6 : Int32)), .val (.int (((((0 : Int32) + (1 : Int32)) + (1 : Int32)) + (1 : Int32)) + (1 : Int32))), .val (.ref b_K_OUT_OF_ORDER)]) rfl ?_
      show Steps p.tables e below (T31.setTop (mkF m 34 #[.val (.ref ob), .val (.ref h0.size), .val (.int (6 : Int32)), .val (.int (((((0 : Int32) + (1 : Int32)) + (1 : Int32)) + (1 : Int32)) + (1 : Int32))), .val (.ref b_K_OUT_OF_ORDER)] [])) _
      refine XS.goto X31.here hx rfl (pc0 := 34) (pc' := 9) rfl (hb hby own_d_prog_35_method_5_34) (by decide) (by decide) ?_
      show Steps p.tables e below (T31.setTop (mkF m 9 #[.val (.ref ob), .val (.ref h0.size), .val (.int (6 : Int32)), .val (.int (((((0 : Int32) + (1 : Int32)) + (1 : Int32)) + (1 : Int32)) + (1 : Int32))), .val (.ref b_K_OUT_OF_ORDER)] [])) _
      refine XS.iloadN X31.here hx rfl (hb hby own_d_prog_35_method_5_9) rfl ?_
      show Steps p.tables e below (T31.setTop (mkF m 10 #[.val (.ref ob), .val (.ref h0.size), .val (.int (6 : Int32)), .val (.int (((((0 : Int32) + (1 : Int32)) + (1 : Int32)) + (1 : Int32)) + (1 : Int32))), .val (.ref b_K_OUT_OF_ORDER)] [(.int (((((0 : Int32) + (1 : Int32)) + (1 : Int32)) + (1 : Int32)) + (1 : Int32)))])) _
      refine XS.iloadN X31.here hx rfl (hb hby own_d_prog_35_method_5_10) rfl ?_
      show Steps p.tables e below (T31.setTop (mkF m 11 #[.val (.ref ob), .val (.ref h0.size), .val (.int (6 : Int32)), .val (.int (((((0 : Int32) + (1 : Int32)) + (1 : Int32)) + (1 : Int32)) + (1 : Int32))), .val (.ref b_K_OUT_OF_ORDER)] [(.int (6 : Int32)), (.int (((((0 : Int32) + (1 : Int32)) + (1 : Int32)) + (1 : Int32)) + (1 : Int32)))])) _
      refine XS.icmpNo X31.here hx rfl (hb hby own_d_prog_35_method_5_11) rfl (tlt (show (((((0 : Int32) + (1 : Int32)) + (1 : Int32)) + (1 : Int32)) + (1 : Int32)) < (6 : Int32) by decide)).2.1 ?_
      show Steps p.tables e below (T31.setTop (mkF m 14 #[.val (.ref ob), .val (.ref h0.size), .val (.int (6 : Int32)), .val (.int (((((0 : Int32) + (1 : Int32)) + (1 : Int32)) + (1 : Int32)) + (1 : Int32))), .val (.ref b_K_OUT_OF_ORDER)] [])) _
      refine XS.aloadN X31.here hx rfl (hb hby own_d_prog_35_method_5_14) rfl rfl ?_
      show Steps p.tables e below (T31.setTop (mkF m 15 #[.val (.ref ob), .val (.ref h0.size), .val (.int (6 : Int32)), .val (.int (((((0 : Int32) + (1 : Int32)) + (1 : Int32)) + (1 : Int32)) + (1 : Int32))), .val (.ref b_K_OUT_OF_ORDER)] [(.ref h0.size)])) _
      refine XS.iloadN X31.here hx rfl (hb hby own_d_prog_35_method_5_15) rfl ?_
      show Steps p.tables e below (T31.setTop (mkF m 16 #[.val (.ref ob), .val (.ref h0.size), .val (.int (6 : Int32)), .val (.int (((((0 : Int32) + (1 : Int32)) + (1 : Int32)) + (1 : Int32)) + (1 : Int32))), .val (.ref b_K_OUT_OF_ORDER)] [(.int (((((0 : Int32) + (1 : Int32)) + (1 : Int32)) + (1 : Int32)) + (1 : Int32))), (.ref h0.size)])) _
      refine X31.aaload hx (j := (((((0 : Int32) + (1 : Int32)) + (1 : Int32)) + (1 : Int32)) + (1 : Int32))) (v := (.ref b_K_FAILED)) (by rw [e31]; exact Ar32.1) (State.isArrayOf_alike hZ.alike Ar32.2.1) rfl Ar32.2.2 (own_inb G32 6 rfl (show ¬ ((((((0 : Int32) + (1 : Int32)) + (1 : Int32)) + (1 : Int32)) + (1 : Int32)) < 0 ∨ 6 ≤ ((((((0 : Int32) + (1 : Int32)) + (1 : Int32)) + (1 : Int32)) + (1 : Int32))).toNatClampNeg) by decide)) (own_get G32 rfl) (g := (mkF m 16 #[.val (.ref ob), .val (.ref h0.size), .val (.int (6 : Int32)), .val (.int (((((0 : Int32) + (1 : Int32)) + (1 : Int32)) + (1 : Int32)) + (1 : Int32))), .val (.ref b_K_OUT_OF_ORDER)] [(.int (((((0 : Int32) + (1 : Int32)) + (1 : Int32)) + (1 : Int32)) + (1 : Int32))), (.ref h0.size)])) rfl rfl (hb hby own_d_prog_35_method_5_16) _ ?_
      show Steps p.tables e below (T31.setTop (mkF m 17 #[.val (.ref ob), .val (.ref h0.size), .val (.int (6 : Int32)), .val (.int (((((0 : Int32) + (1 : Int32)) + (1 : Int32)) + (1 : Int32)) + (1 : Int32))), .val (.ref b_K_OUT_OF_ORDER)] [(.ref b_K_FAILED)])) _
      refine XS.astore X31.here hx rfl (hb hby own_d_prog_35_method_5_17) rfl rfl (l' := #[.val (.ref ob), .val (.ref h0.size), .val (.int (6 : Int32)), .val (.int (((((0 : Int32) + (1 : Int32)) + (1 : Int32)) + (1 : Int32)) + (1 : Int32))), .val (.ref b_K_FAILED)]) rfl ?_
      show Steps p.tables e below (T31.setTop (mkF m 19 #[.val (.ref ob), .val (.ref h0.size), .val (.int (6 : Int32)), .val (.int (((((0 : Int32) + (1 : Int32)) + (1 : Int32)) + (1 : Int32)) + (1 : Int32))), .val (.ref b_K_FAILED)] [])) _
      refine XS.aload X31.here hx rfl (hb hby own_d_prog_35_method_5_19) rfl rfl ?_
      show Steps p.tables e below (T31.setTop (mkF m 21 #[.val (.ref ob), .val (.ref h0.size), .val (.int (6 : Int32)), .val (.int (((((0 : Int32) + (1 : Int32)) + (1 : Int32)) + (1 : Int32)) + (1 : Int32))), .val (.ref b_K_FAILED)] [(.ref b_K_FAILED)])) _
      refine st33 _ ?_
      show Steps p.tables e below (T33.setTop (mkF m 24 #[.val (.ref ob), .val (.ref h0.size), .val (.int (6 : Int32)), .val (.int (((((0 : Int32) + (1 : Int32)) + (1 : Int32)) + (1 : Int32)) + (1 : Int32))), .val (.ref b_K_FAILED)] [(.ref b_M_FAILED)])) _
      refine XS.aloadN X33.here hx rfl (hb hby own_d_prog_35_method_5_24) rfl rfl ?_
      show Steps p.tables e below (T33.setTop (mkF m 25 #[.val (.ref ob), .val (.ref h0.size), .val (.int (6 : Int32)), .val (.int (((((0 : Int32) + (1 : Int32)) + (1 : Int32)) + (1 : Int32)) + (1 : Int32))), .val (.ref b_K_FAILED)] [(.ref ob), (.ref b_M_FAILED)])) _
      refine Jvm.RoadKit.acmp (g := (mkF m 25 #[.val (.ref ob), .val (.ref h0.size), .val (.int (6 : Int32)), .val (.int (((((0 : Int32) + (1 : Int32)) + (1 : Int32)) + (1 : Int32)) + (1 : Int32))), .val (.ref b_K_FAILED)] [(.ref ob), (.ref b_M_FAILED)])) X33 hx rfl rfl rfl (pc0 := 25) (pc' := 28) (same := true) rfl (hb hby own_d_prog_35_method_5_25) rfl (decide_eq_true (own_ref_eq q.symm)) (by decide) (by decide) ?_
      show Steps p.tables e below (T33.setTop (mkF m 28 #[.val (.ref ob), .val (.ref h0.size), .val (.int (6 : Int32)), .val (.int (((((0 : Int32) + (1 : Int32)) + (1 : Int32)) + (1 : Int32)) + (1 : Int32))), .val (.ref b_K_FAILED)] [])) _
      refine XS.aload X33.here hx rfl (hb hby own_d_prog_35_method_5_28) rfl rfl ?_
      show Steps p.tables e below (T33.setTop (mkF m 30 #[.val (.ref ob), .val (.ref h0.size), .val (.int (6 : Int32)), .val (.int (((((0 : Int32) + (1 : Int32)) + (1 : Int32)) + (1 : Int32)) + (1 : Int32))), .val (.ref b_K_FAILED)] [(.ref b_K_FAILED)])) _
      exact own_retA X33 hx (by first | rfl | decide) rfl Bd.returns (hb hby own_d_prog_35_method_5_30) hr
    · show rm_of_Q Z ob wv aV cV b_M_APPLIED b_K_PENDING b_K_EDITED b_K_MISSING b_K_OUT_OF_ORDER b_K_FAILED b_K_INTERRUPTED b_M_PENDING b_M_FAILED b_M_INTERRUPTED h0 n0 _ T33.heap _
      rw [e33]
      exact ⟨by rw [r], N22, XE22⟩
  · obtain ⟨_, _, ⟨T34, L34, k34, n34⟩, -, X34, ⟨Lc34, hQ34, l34, y34, z34⟩, st34⟩ := Jvm.LawKit.callS X0 hx (y := (⟨"com/example/urashima/urashima/Problem$Kind", "values", "()[Lcom/example/urashima/urashima/Problem$Kind;"⟩ : MethodName)) hown (mvT hZ (hw _ (List.mem_of_getElem? (i := 7) rfl))) (mvT hZ (hw _ (List.mem_of_getElem? (i := 8) rfl))) (mvT hZ (hw _ (List.mem_of_getElem? (i := 5) rfl))) (mvT hZ (hw _ (List.mem_of_getElem? (i := 9) rfl))) (by decide) (backOf (W := 0) (rm_values l Z a0 hw [] aV cV b_K_PENDING b_K_EDITED b_K_MISSING b_K_OUT_OF_ORDER b_K_FAILED b_K_INTERRUPTED h0 n0 Z0 S_V A_V E_V FC_V L_V) hZ (hw _ (List.mem_of_getElem? (i := 9) rfl)) (hw _ (List.mem_of_getElem? (i := 5) rfl)) (by decide) (by decide)) (g := (mkF m 0 #[.val (.ref ob), .unset, .unset, .unset, .unset] [])) rfl (by rw [hml]; rfl) (argsL := []) (rest := []) (lenOf own_pd0 rfl) rfl (by show 2 * 0 + _ ≤ _; exact Nat.le_of_eq rfl) (hb hby own_d_prog_35_method_5_0) (fun _ _ => ⟨rfl, e0, (by decide : 0 + 1 ≤ _), (by decide : 0 + 6 ≤ _)⟩)
    dsimp only [Pt.U, Pt.locs, Pt.cells, Pt.slots] at X34 l34 y34 z34 st34 hQ34
    subst l34 y34 z34
    obtain ⟨rfl, Nq34, xe34, vl34⟩ := hQ34
    have N34 := Fr.app N0 Nq34
    have XE34 : Ext h0 T34.heap := xe34
    obtain ⟨cl35, Ar35, q35, G35⟩ := id vl34
    obtain ⟨cl36, Ar36, q36, G36⟩ := id vl34
    obtain ⟨T37, X37, e37, st37⟩ := getF X34 hx hZ hown (host := "") (Or.inl (hw _ (List.mem_of_getElem? (i := 28) rfl))) Via.refl rfl (F_K_PENDING_state.ext XE34) (g := (mkF m 21 #[.val (.ref ob), .val (.ref h0.size), .val (.int (6 : Int32)), .val (.int (0 : Int32)), .val (.ref b_K_PENDING)] [(.ref b_K_PENDING)])) rfl rfl (hb hby own_d_prog_35_method_5_21)
    obtain ⟨cl38, Ar38, q38, G38⟩ := id vl34
    obtain ⟨T39, X39, e39, st39⟩ := getF X37 hx hZ hown (host := "") (Or.inl (hw _ (List.mem_of_getElem? (i := 28) rfl))) Via.refl e37 (F_K_EDITED_state.ext XE34) (g := (mkF m 21 #[.val (.ref ob), .val (.ref h0.size), .val (.int (6 : Int32)), .val (.int ((0 : Int32) + (1 : Int32))), .val (.ref b_K_EDITED)] [(.ref b_K_EDITED)])) rfl rfl (hb hby own_d_prog_35_method_5_21)
    obtain ⟨cl40, Ar40, q40, G40⟩ := id vl34
    obtain ⟨T41, X41, e41, st41⟩ := getF X39 hx hZ hown (host := "") (Or.inl (hw _ (List.mem_of_getElem? (i := 28) rfl))) Via.refl e39 (F_K_MISSING_state.ext XE34) (g := (mkF m 21 #[.val (.ref ob), .val (.ref h0.size), .val (.int (6 : Int32)), .val (.int (((0 : Int32) + (1 : Int32)) + (1 : Int32))), .val (.ref b_K_MISSING)] [(.ref b_K_MISSING)])) rfl rfl (hb hby own_d_prog_35_method_5_21)
    obtain ⟨cl42, Ar42, q42, G42⟩ := id vl34
    obtain ⟨T43, X43, e43, st43⟩ := getF X41 hx hZ hown (host := "") (Or.inl (hw _ (List.mem_of_getElem? (i := 28) rfl))) Via.refl e41 (F_K_OUT_OF_ORDER_state.ext XE34) (g := (mkF m 21 #[.val (.ref ob), .val (.ref h0.size), .val (.int (6 : Int32)), .val (.int ((((0 : Int32) + (1 : Int32)) + (1 : Int32)) + (1 : Int32))), .val (.ref b_K_OUT_OF_ORDER)] [(.ref b_K_OUT_OF_ORDER)])) rfl rfl (hb hby own_d_prog_35_method_5_21)
    obtain ⟨cl44, Ar44, q44, G44⟩ := id vl34
    obtain ⟨T45, X45, e45, st45⟩ := getF X43 hx hZ hown (host := "") (Or.inl (hw _ (List.mem_of_getElem? (i := 28) rfl))) Via.refl e43 (F_K_FAILED_state.ext XE34) (g := (mkF m 21 #[.val (.ref ob), .val (.ref h0.size), .val (.int (6 : Int32)), .val (.int (((((0 : Int32) + (1 : Int32)) + (1 : Int32)) + (1 : Int32)) + (1 : Int32))), .val (.ref b_K_FAILED)] [(.ref b_K_FAILED)])) rfl rfl (hb hby own_d_prog_35_method_5_21)
    obtain ⟨cl46, Ar46, q46, G46⟩ := id vl34
    obtain ⟨T47, X47, e47, st47⟩ := getF X45 hx hZ hown (host := "") (Or.inl (hw _ (List.mem_of_getElem? (i := 28) rfl))) Via.refl e45 (F_K_INTERRUPTED_state.ext XE34) (g := (mkF m 21 #[.val (.ref ob), .val (.ref h0.size), .val (.int (6 : Int32)), .val (.int ((((((0 : Int32) + (1 : Int32)) + (1 : Int32)) + (1 : Int32)) + (1 : Int32)) + (1 : Int32))), .val (.ref b_K_INTERRUPTED)] [(.ref b_K_INTERRUPTED)])) rfl rfl (hb hby own_d_prog_35_method_5_21)
    obtain ⟨fs, hr, hrun, hended, hW, hsame⟩ := X47.leave (v := some (.ref b_K_INTERRUPTED)) (fun h => by rw [Bd.returns] at h; cases h)
    refine ⟨_, _, pre0 _ ?_, hrun, hended, _, _, rfl, ?_, ⟨_, rfl⟩, hW, hsame.mono (by decide) (by decide)⟩
    · show Steps p.tables e below (s₁.setTop (mkF m 0 #[.val (.ref ob), .unset, .unset, .unset, .unset] [])) _
      refine st34 _ ?_
      show Steps p.tables e below (T34.setTop (mkF m 3 #[.val (.ref ob), .unset, .unset, .unset, .unset] [(.ref h0.size)])) _
      refine XS.astoreN X34.here hx rfl (hb hby own_d_prog_35_method_5_3) rfl rfl (l' := #[.val (.ref ob), .val (.ref h0.size), .unset, .unset, .unset]) rfl ?_
      show Steps p.tables e below (T34.setTop (mkF m 4 #[.val (.ref ob), .val (.ref h0.size), .unset, .unset, .unset] [])) _
      refine XS.aloadN X34.here hx rfl (hb hby own_d_prog_35_method_5_4) rfl rfl ?_
      show Steps p.tables e below (T34.setTop (mkF m 5 #[.val (.ref ob), .val (.ref h0.size), .unset, .unset, .unset] [(.ref h0.size)])) _
      refine X34.arraylength hx (cell := cl35) Ar35.1 (State.isArrayOf_alike hZ.alike Ar35.2.1) (g := (mkF m 5 #[.val (.ref ob), .val (.ref h0.size), .unset, .unset, .unset] [(.ref h0.size)])) rfl (rest := []) rfl (hb hby own_d_prog_35_method_5_5) _ ?_
      rw [own_len (z := (6 : Int32)) G35 rfl]
      show Steps p.tables e below (T34.setTop (mkF m 6 #[.val (.ref ob), .val (.ref h0.size), .unset, .unset, .unset] [(.int (6 : Int32))])) _
      refine XS.istoreN X34.here hx rfl (hb hby own_d_prog_35_method_5_6) rfl (l' := #[.val (.ref ob), .val (.ref h0.size), .val (.int (6 : Int32)), .unset, .unset]) rfl ?_
      show Steps p.tables e below (T34.setTop (mkF m 7 #[.val (.ref ob), .val (.ref h0.size), .val (.int (6 : Int32)), .unset, .unset] [])) _
      refine XS.iconst X34.here hx rfl (hb hby own_d_prog_35_method_5_7) ?_
      show Steps p.tables e below (T34.setTop (mkF m 8 #[.val (.ref ob), .val (.ref h0.size), .val (.int (6 : Int32)), .unset, .unset] [(.int (0 : Int32))])) _
      refine XS.istoreN X34.here hx rfl (hb hby own_d_prog_35_method_5_8) rfl (l' := #[.val (.ref ob), .val (.ref h0.size), .val (.int (6 : Int32)), .val (.int (0 : Int32)), .unset]) rfl ?_
      show Steps p.tables e below (T34.setTop (mkF m 9 #[.val (.ref ob), .val (.ref h0.size), .val (.int (6 : Int32)), .val (.int (0 : Int32)), .unset] [])) _
      refine XS.iloadN X34.here hx rfl (hb hby own_d_prog_35_method_5_9) rfl ?_
      show Steps p.tables e below (T34.setTop (mkF m 10 #[.val (.ref ob), .val (.ref h0.size), .val (.int (6 : Int32)), .val (.int (0 : Int32)), .unset] [(.int (0 : Int32))])) _
      refine XS.iloadN X34.here hx rfl (hb hby own_d_prog_35_method_5_10) rfl ?_
      show Steps p.tables e below (T34.setTop (mkF m 11 #[.val (.ref ob), .val (.ref h0.size), .val (.int (6 : Int32)), .val (.int (0 : Int32)), .unset] [(.int (6 : Int32)), (.int (0 : Int32))])) _
      refine XS.icmpNo X34.here hx rfl (hb hby own_d_prog_35_method_5_11) rfl (tlt (show (0 : Int32) < (6 : Int32) by decide)).2.1 ?_
      show Steps p.tables e below (T34.setTop (mkF m 14 #[.val (.ref ob), .val (.ref h0.size), .val (.int (6 : Int32)), .val (.int (0 : Int32)), .unset] [])) _
      refine XS.aloadN X34.here hx rfl (hb hby own_d_prog_35_method_5_14) rfl rfl ?_
      show Steps p.tables e below (T34.setTop (mkF m 15 #[.val (.ref ob), .val (.ref h0.size), .val (.int (6 : Int32)), .val (.int (0 : Int32)), .unset] [(.ref h0.size)])) _
      refine XS.iloadN X34.here hx rfl (hb hby own_d_prog_35_method_5_15) rfl ?_
      show Steps p.tables e below (T34.setTop (mkF m 16 #[.val (.ref ob), .val (.ref h0.size), .val (.int (6 : Int32)), .val (.int (0 : Int32)), .unset] [(.int (0 : Int32)), (.ref h0.size)])) _
      refine X34.aaload hx (j := (0 : Int32)) (v := (.ref b_K_PENDING)) Ar36.1 (State.isArrayOf_alike hZ.alike Ar36.2.1) rfl Ar36.2.2 (own_inb G36 6 rfl (show ¬ ((0 : Int32) < 0 ∨ 6 ≤ ((0 : Int32)).toNatClampNeg) by decide)) (own_get G36 rfl) (g := (mkF m 16 #[.val (.ref ob), .val (.ref h0.size), .val (.int (6 : Int32)), .val (.int (0 : Int32)), .unset] [(.int (0 : Int32)), (.ref h0.size)])) rfl rfl (hb hby own_d_prog_35_method_5_16) _ ?_
      show Steps p.tables e below (T34.setTop (mkF m 17 #[.val (.ref ob), .val (.ref h0.size), .val (.int (6 : Int32)), .val (.int (0 : Int32)), .unset] [(.ref b_K_PENDING)])) _
      refine XS.astore X34.here hx rfl (hb hby own_d_prog_35_method_5_17) rfl rfl (l' := #[.val (.ref ob), .val (.ref h0.size), .val (.int (6 : Int32)), .val (.int (0 : Int32)), .val (.ref b_K_PENDING)]) rfl ?_
      show Steps p.tables e below (T34.setTop (mkF m 19 #[.val (.ref ob), .val (.ref h0.size), .val (.int (6 : Int32)), .val (.int (0 : Int32)), .val (.ref b_K_PENDING)] [])) _
      refine XS.aload X34.here hx rfl (hb hby own_d_prog_35_method_5_19) rfl rfl ?_
      show Steps p.tables e below (T34.setTop (mkF m 21 #[.val (.ref ob), .val (.ref h0.size), .val (.int (6 : Int32)), .val (.int (0 : Int32)), .val (.ref b_K_PENDING)] [(.ref b_K_PENDING)])) _
      refine st37 _ ?_
      show Steps p.tables e below (T37.setTop (mkF m 24 #[.val (.ref ob), .val (.ref h0.size), .val (.int (6 : Int32)), .val (.int (0 : Int32)), .val (.ref b_K_PENDING)] [(.ref b_M_PENDING)])) _
      refine XS.aloadN X37.here hx rfl (hb hby own_d_prog_35_method_5_24) rfl rfl ?_
      show Steps p.tables e below (T37.setTop (mkF m 25 #[.val (.ref ob), .val (.ref h0.size), .val (.int (6 : Int32)), .val (.int (0 : Int32)), .val (.ref b_K_PENDING)] [(.ref ob), (.ref b_M_PENDING)])) _
      refine Jvm.RoadKit.acmp (g := (mkF m 25 #[.val (.ref ob), .val (.ref h0.size), .val (.int (6 : Int32)), .val (.int (0 : Int32)), .val (.ref b_K_PENDING)] [(.ref ob), (.ref b_M_PENDING)])) X37 hx rfl rfl rfl (pc0 := 25) (pc' := 31) (same := false) rfl (hb hby own_d_prog_35_method_5_25) rfl (decide_eq_false (own_ref_ne (fun z => ne_PENDING_INTERRUPTED (z.trans q)))) (by decide) (by decide) ?_
      show Steps p.tables e below (T37.setTop (mkF m 31 #[.val (.ref ob), .val (.ref h0.size), .val (.int (6 : Int32)), .val (.int (0 : Int32)), .val (.ref b_K_PENDING)] [])) _
      refine XS.iinc X37.here hx rfl (hb hby own_d_prog_35_method_5_31) rfl (l' := #[.val (.ref ob), .val (.ref h0.size), .val (.int (6 : Int32)), .val (.int ((0 : Int32) + (1 : Int32))), .val (.ref b_K_PENDING)]) rfl ?_
      show Steps p.tables e below (T37.setTop (mkF m 34 #[.val (.ref ob), .val (.ref h0.size), .val (.int (6 : Int32)), .val (.int ((0 : Int32) + (1 : Int32))), .val (.ref b_K_PENDING)] [])) _
      refine XS.goto X37.here hx rfl (pc0 := 34) (pc' := 9) rfl (hb hby own_d_prog_35_method_5_34) (by decide) (by decide) ?_
      show Steps p.tables e below (T37.setTop (mkF m 9 #[.val (.ref ob), .val (.ref h0.size), .val (.int (6 : Int32)), .val (.int ((0 : Int32) + (1 : Int32))), .val (.ref b_K_PENDING)] [])) _
      refine XS.iloadN X37.here hx rfl (hb hby own_d_prog_35_method_5_9) rfl ?_
      show Steps p.tables e below (T37.setTop (mkF m 10 #[.val (.ref ob), .val (.ref h0.size), .val (.int (6 : Int32)), .val (.int ((0 : Int32) + (1 : Int32))), .val (.ref b_K_PENDING)] [(.int ((0 : Int32) + (1 : Int32)))])) _
      refine XS.iloadN X37.here hx rfl (hb hby own_d_prog_35_method_5_10) rfl ?_
      show Steps p.tables e below (T37.setTop (mkF m 11 #[.val (.ref ob), .val (.ref h0.size), .val (.int (6 : Int32)), .val (.int ((0 : Int32) + (1 : Int32))), .val (.ref b_K_PENDING)] [(.int (6 : Int32)), (.int ((0 : Int32) + (1 : Int32)))])) _
      refine XS.icmpNo X37.here hx rfl (hb hby own_d_prog_35_method_5_11) rfl (tlt (show ((0 : Int32) + (1 : Int32)) < (6 : Int32) by decide)).2.1 ?_
      show Steps p.tables e below (T37.setTop (mkF m 14 #[.val (.ref ob), .val (.ref h0.size), .val (.int (6 : Int32)), .val (.int ((0 : Int32) + (1 : Int32))), .val (.ref b_K_PENDING)] [])) _
      refine XS.aloadN X37.here hx rfl (hb hby own_d_prog_35_method_5_14) rfl rfl ?_
      show Steps p.tables e below (T37.setTop (mkF m 15 #[.val (.ref ob), .val (.ref h0.size), .val (.int (6 : Int32)), .val (.int ((0 : Int32) + (1 : Int32))), .val (.ref b_K_PENDING)] [(.ref h0.size)])) _
      refine XS.iloadN X37.here hx rfl (hb hby own_d_prog_35_method_5_15) rfl ?_
      show Steps p.tables e below (T37.setTop (mkF m 16 #[.val (.ref ob), .val (.ref h0.size), .val (.int (6 : Int32)), .val (.int ((0 : Int32) + (1 : Int32))), .val (.ref b_K_PENDING)] [(.int ((0 : Int32) + (1 : Int32))), (.ref h0.size)])) _
      refine X37.aaload hx (j := ((0 : Int32) + (1 : Int32))) (v := (.ref b_K_EDITED)) (by rw [e37]; exact Ar38.1) (State.isArrayOf_alike hZ.alike Ar38.2.1) rfl Ar38.2.2 (own_inb G38 6 rfl (show ¬ (((0 : Int32) + (1 : Int32)) < 0 ∨ 6 ≤ (((0 : Int32) + (1 : Int32))).toNatClampNeg) by decide)) (own_get G38 rfl) (g := (mkF m 16 #[.val (.ref ob), .val (.ref h0.size), .val (.int (6 : Int32)), .val (.int ((0 : Int32) + (1 : Int32))), .val (.ref b_K_PENDING)] [(.int ((0 : Int32) + (1 : Int32))), (.ref h0.size)])) rfl rfl (hb hby own_d_prog_35_method_5_16) _ ?_
      show Steps p.tables e below (T37.setTop (mkF m 17 #[.val (.ref ob), .val (.ref h0.size), .val (.int (6 : Int32)), .val (.int ((0 : Int32) + (1 : Int32))), .val (.ref b_K_PENDING)] [(.ref b_K_EDITED)])) _
      refine XS.astore X37.here hx rfl (hb hby own_d_prog_35_method_5_17) rfl rfl (l' := #[.val (.ref ob), .val (.ref h0.size), .val (.int (6 : Int32)), .val (.int ((0 : Int32) + (1 : Int32))), .val (.ref b_K_EDITED)]) rfl ?_
      show Steps p.tables e below (T37.setTop (mkF m 19 #[.val (.ref ob), .val (.ref h0.size), .val (.int (6 : Int32)), .val (.int ((0 : Int32) + (1 : Int32))), .val (.ref b_K_EDITED)] [])) _
      refine XS.aload X37.here hx rfl (hb hby own_d_prog_35_method_5_19) rfl rfl ?_
      show Steps p.tables e below (T37.setTop (mkF m 21 #[.val (.ref ob), .val (.ref h0.size), .val (.int (6 : Int32)), .val (.int ((0 : Int32) + (1 : Int32))), .val (.ref b_K_EDITED)] [(.ref b_K_EDITED)])) _
      refine st39 _ ?_
      show Steps p.tables e below (T39.setTop (mkF m 24 #[.val (.ref ob), .val (.ref h0.size), .val (.int (6 : Int32)), .val (.int ((0 : Int32) + (1 : Int32))), .val (.ref b_K_EDITED)] [.null])) _
      refine XS.aloadN X39.here hx rfl (hb hby own_d_prog_35_method_5_24) rfl rfl ?_
      show Steps p.tables e below (T39.setTop (mkF m 25 #[.val (.ref ob), .val (.ref h0.size), .val (.int (6 : Int32)), .val (.int ((0 : Int32) + (1 : Int32))), .val (.ref b_K_EDITED)] [(.ref ob), .null])) _
      refine Jvm.RoadKit.acmp (g := (mkF m 25 #[.val (.ref ob), .val (.ref h0.size), .val (.int (6 : Int32)), .val (.int ((0 : Int32) + (1 : Int32))), .val (.ref b_K_EDITED)] [(.ref ob), .null])) X39 hx rfl rfl rfl (pc0 := 25) (pc' := 31) (same := false) rfl (hb hby own_d_prog_35_method_5_25) rfl (decide_eq_false nofun) (by decide) (by decide) ?_
      show Steps p.tables e below (T39.setTop (mkF m 31 #[.val (.ref ob), .val (.ref h0.size), .val (.int (6 : Int32)), .val (.int ((0 : Int32) + (1 : Int32))), .val (.ref b_K_EDITED)] [])) _
      refine XS.iinc X39.here hx rfl (hb hby own_d_prog_35_method_5_31) rfl (l' := #[.val (.ref ob), .val (.ref h0.size), .val (.int (6 : Int32)), .val (.int (((0 : Int32) + (1 : Int32)) + (1 : Int32))), .val (.ref b_K_EDITED)]) rfl ?_
      show Steps p.tables e below (T39.setTop (mkF m 34 #[.val (.ref ob), .val (.ref h0.size), .val (.int (6 : Int32)), .val (.int (((0 : Int32) + (1 : Int32)) + (1 : Int32))), .val (.ref b_K_EDITED)] [])) _
      refine XS.goto X39.here hx rfl (pc0 := 34) (pc' := 9) rfl (hb hby own_d_prog_35_method_5_34) (by decide) (by decide) ?_
      show Steps p.tables e below (T39.setTop (mkF m 9 #[.val (.ref ob), .val (.ref h0.size), .val (.int (6 : Int32)), .val (.int (((0 : Int32) + (1 : Int32)) + (1 : Int32))), .val (.ref b_K_EDITED)] [])) _
      refine XS.iloadN X39.here hx rfl (hb hby own_d_prog_35_method_5_9) rfl ?_
      show Steps p.tables e below (T39.setTop (mkF m 10 #[.val (.ref ob), .val (.ref h0.size), .val (.int (6 : Int32)), .val (.int (((0 : Int32) + (1 : Int32)) + (1 : Int32))), .val (.ref b_K_EDITED)] [(.int (((0 : Int32) + (1 : Int32)) + (1 : Int32)))])) _
      refine XS.iloadN X39.here hx rfl (hb hby own_d_prog_35_method_5_10) rfl ?_
      show Steps p.tables e below (T39.setTop (mkF m 11 #[.val (.ref ob), .val (.ref h0.size), .val (.int (6 : Int32)), .val (.int (((0 : Int32) + (1 : Int32)) + (1 : Int32))), .val (.ref b_K_EDITED)] [(.int (6 : Int32)), (.int (((0 : Int32) + (1 : Int32)) + (1 : Int32)))])) _
      refine XS.icmpNo X39.here hx rfl (hb hby own_d_prog_35_method_5_11) rfl (tlt (show (((0 : Int32) + (1 : Int32)) + (1 : Int32)) < (6 : Int32) by decide)).2.1 ?_
      show Steps p.tables e below (T39.setTop (mkF m 14 #[.val (.ref ob), .val (.ref h0.size), .val (.int (6 : Int32)), .val (.int (((0 : Int32) + (1 : Int32)) + (1 : Int32))), .val (.ref b_K_EDITED)] [])) _
      refine XS.aloadN X39.here hx rfl (hb hby own_d_prog_35_method_5_14) rfl rfl ?_
      show Steps p.tables e below (T39.setTop (mkF m 15 #[.val (.ref ob), .val (.ref h0.size), .val (.int (6 : Int32)), .val (.int (((0 : Int32) + (1 : Int32)) + (1 : Int32))), .val (.ref b_K_EDITED)] [(.ref h0.size)])) _
      refine XS.iloadN X39.here hx rfl (hb hby own_d_prog_35_method_5_15) rfl ?_
      show Steps p.tables e below (T39.setTop (mkF m 16 #[.val (.ref ob), .val (.ref h0.size), .val (.int (6 : Int32)), .val (.int (((0 : Int32) + (1 : Int32)) + (1 : Int32))), .val (.ref b_K_EDITED)] [(.int (((0 : Int32) + (1 : Int32)) + (1 : Int32))), (.ref h0.size)])) _
      refine X39.aaload hx (j := (((0 : Int32) + (1 : Int32)) + (1 : Int32))) (v := (.ref b_K_MISSING)) (by rw [e39]; exact Ar40.1) (State.isArrayOf_alike hZ.alike Ar40.2.1) rfl Ar40.2.2 (own_inb G40 6 rfl (show ¬ ((((0 : Int32) + (1 : Int32)) + (1 : Int32)) < 0 ∨ 6 ≤ ((((0 : Int32) + (1 : Int32)) + (1 : Int32))).toNatClampNeg) by decide)) (own_get G40 rfl) (g := (mkF m 16 #[.val (.ref ob), .val (.ref h0.size), .val (.int (6 : Int32)), .val (.int (((0 : Int32) + (1 : Int32)) + (1 : Int32))), .val (.ref b_K_EDITED)] [(.int (((0 : Int32) + (1 : Int32)) + (1 : Int32))), (.ref h0.size)])) rfl rfl (hb hby own_d_prog_35_method_5_16) _ ?_
      show Steps p.tables e below (T39.setTop (mkF m 17 #[.val (.ref ob), .val (.ref h0.size), .val (.int (6 : Int32)), .val (.int (((0 : Int32) + (1 : Int32)) + (1 : Int32))), .val (.ref b_K_EDITED)] [(.ref b_K_MISSING)])) _
      refine XS.astore X39.here hx rfl (hb hby own_d_prog_35_method_5_17) rfl rfl (l' := #[.val (.ref ob), .val (.ref h0.size), .val (.int (6 : Int32)), .val (.int (((0 : Int32) + (1 : Int32)) + (1 : Int32))), .val (.ref b_K_MISSING)]) rfl ?_
      show Steps p.tables e below (T39.setTop (mkF m 19 #[.val (.ref ob), .val (.ref h0.size), .val (.int (6 : Int32)), .val (.int (((0 : Int32) + (1 : Int32)) + (1 : Int32))), .val (.ref b_K_MISSING)] [])) _
      refine XS.aload X39.here hx rfl (hb hby own_d_prog_35_method_5_19) rfl rfl ?_
      show Steps p.tables e below (T39.setTop (mkF m 21 #[.val (.ref ob), .val (.ref h0.size), .val (.int (6 : Int32)), .val (.int (((0 : Int32) + (1 : Int32)) + (1 : Int32))), .val (.ref b_K_MISSING)] [(.ref b_K_MISSING)])) _
      refine st41 _ ?_
      show Steps p.tables e below (T41.setTop (mkF m 24 #[.val (.ref ob), .val (.ref h0.size), .val (.int (6 : Int32)), .val (.int (((0 : Int32) + (1 : Int32)) + (1 : Int32))), .val (.ref b_K_MISSING)] [.null])) _
      refine XS.aloadN X41.here hx rfl (hb hby own_d_prog_35_method_5_24) rfl rfl ?_
      show Steps p.tables e below (T41.setTop (mkF m 25 #[.val (.ref ob), .val (.ref h0.size), .val (.int (6 : Int32)), .val (.int (((0 : Int32) + (1 : Int32)) + (1 : Int32))), .val (.ref b_K_MISSING)] [(.ref ob), .null])) _
      refine Jvm.RoadKit.acmp (g := (mkF m 25 #[.val (.ref ob), .val (.ref h0.size), .val (.int (6 : Int32)), .val (.int (((0 : Int32) + (1 : Int32)) + (1 : Int32))), .val (.ref b_K_MISSING)] [(.ref ob), .null])) X41 hx rfl rfl rfl (pc0 := 25) (pc' := 31) (same := false) rfl (hb hby own_d_prog_35_method_5_25) rfl (decide_eq_false nofun) (by decide) (by decide) ?_
      show Steps p.tables e below (T41.setTop (mkF m 31 #[.val (.ref ob), .val (.ref h0.size), .val (.int (6 : Int32)), .val (.int (((0 : Int32) + (1 : Int32)) + (1 : Int32))), .val (.ref b_K_MISSING)] [])) _
      refine XS.iinc X41.here hx rfl (hb hby own_d_prog_35_method_5_31) rfl (l' := #[.val (.ref ob), .val (.ref h0.size), .val (.int (6 : Int32)), .val (.int ((((0 : Int32) + (1 : Int32)) + (1 : Int32)) + (1 : Int32))), .val (.ref b_K_MISSING)]) rfl ?_
      show Steps p.tables e below (T41.setTop (mkF m 34 #[.val (.ref ob), .val (.ref h0.size), .val (.int (6 : Int32)), .val (.int ((((0 : Int32) + (1 : Int32)) + (1 : Int32)) + (1 : Int32))), .val (.ref b_K_MISSING)] [])) _
      refine XS.goto X41.here hx rfl (pc0 := 34) (pc' := 9) rfl (hb hby own_d_prog_35_method_5_34) (by decide) (by decide) ?_
      show Steps p.tables e below (T41.setTop (mkF m 9 #[.val (.ref ob), .val (.ref h0.size), .val (.int (6 : Int32)), .val (.int ((((0 : Int32) + (1 : Int32)) + (1 : Int32)) + (1 : Int32))), .val (.ref b_K_MISSING)] [])) _
      refine XS.iloadN X41.here hx rfl (hb hby own_d_prog_35_method_5_9) rfl ?_
      show Steps p.tables e below (T41.setTop (mkF m 10 #[.val (.ref ob), .val (.ref h0.size), .val (.int (6 : Int32)), .val (.int ((((0 : Int32) + (1 : Int32)) + (1 : Int32)) + (1 : Int32))), .val (.ref b_K_MISSING)] [(.int ((((0 : Int32) + (1 : Int32)) + (1 : Int32)) + (1 : Int32)))])) _
      refine XS.iloadN X41.here hx rfl (hb hby own_d_prog_35_method_5_10) rfl ?_
      show Steps p.tables e below (T41.setTop (mkF m 11 #[.val (.ref ob), .val (.ref h0.size), .val (.int (6 : Int32)), .val (.int ((((0 : Int32) + (1 : Int32)) + (1 : Int32)) + (1 : Int32))), .val (.ref b_K_MISSING)] [(.int (6 : Int32)), (.int ((((0 : Int32) + (1 : Int32)) + (1 : Int32)) + (1 : Int32)))])) _
      refine XS.icmpNo X41.here hx rfl (hb hby own_d_prog_35_method_5_11) rfl (tlt (show ((((0 : Int32) + (1 : Int32)) + (1 : Int32)) + (1 : Int32)) < (6 : Int32) by decide)).2.1 ?_
      show Steps p.tables e below (T41.setTop (mkF m 14 #[.val (.ref ob), .val (.ref h0.size), .val (.int (6 : Int32)), .val (.int ((((0 : Int32) + (1 : Int32)) + (1 : Int32)) + (1 : Int32))), .val (.ref b_K_MISSING)] [])) _
      refine XS.aloadN X41.here hx rfl (hb hby own_d_prog_35_method_5_14) rfl rfl ?_
      show Steps p.tables e below (T41.setTop (mkF m 15 #[.val (.ref ob), .val (.ref h0.size), .val (.int (6 : Int32)), .val (.int ((((0 : Int32) + (1 : Int32)) + (1 : Int32)) + (1 : Int32))), .val (.ref b_K_MISSING)] [(.ref h0.size)])) _
      refine XS.iloadN X41.here hx rfl (hb hby own_d_prog_35_method_5_15) rfl ?_
      show Steps p.tables e below (T41.setTop (mkF m 16 #[.val (.ref ob), .val (.ref h0.size), .val (.int (6 : Int32)), .val (.int ((((0 : Int32) + (1 : Int32)) + (1 : Int32)) + (1 : Int32))), .val (.ref b_K_MISSING)] [(.int ((((0 : Int32) + (1 : Int32)) + (1 : Int32)) + (1 : Int32))), (.ref h0.size)])) _
      refine X41.aaload hx (j := ((((0 : Int32) + (1 : Int32)) + (1 : Int32)) + (1 : Int32))) (v := (.ref b_K_OUT_OF_ORDER)) (by rw [e41]; exact Ar42.1) (State.isArrayOf_alike hZ.alike Ar42.2.1) rfl Ar42.2.2 (own_inb G42 6 rfl (show ¬ (((((0 : Int32) + (1 : Int32)) + (1 : Int32)) + (1 : Int32)) < 0 ∨ 6 ≤ (((((0 : Int32) + (1 : Int32)) + (1 : Int32)) + (1 : Int32))).toNatClampNeg) by decide)) (own_get G42 rfl) (g := (mkF m 16 #[.val (.ref ob), .val (.ref h0.size), .val (.int (6 : Int32)), .val (.int ((((0 : Int32) + (1 : Int32)) + (1 : Int32)) + (1 : Int32))), .val (.ref b_K_MISSING)] [(.int ((((0 : Int32) + (1 : Int32)) + (1 : Int32)) + (1 : Int32))), (.ref h0.size)])) rfl rfl (hb hby own_d_prog_35_method_5_16) _ ?_
      show Steps p.tables e below (T41.setTop (mkF m 17 #[.val (.ref ob), .val (.ref h0.size), .val (.int (6 : Int32)), .val (.int ((((0 : Int32) + (1 : Int32)) + (1 : Int32)) + (1 : Int32))), .val (.ref b_K_MISSING)] [(.ref b_K_OUT_OF_ORDER)])) _
      refine XS.astore X41.here hx rfl (hb hby own_d_prog_35_method_5_17) rfl rfl (l' := #[.val (.ref ob), .val (.ref h0.size), .val (.int (6 : Int32)), .val (.int ((((0 : Int32) + (1 : Int32)) + (1 : Int32)) + (1 : Int32))), .val (.ref b_K_OUT_OF_ORDER)]) rfl ?_
      show Steps p.tables e below (T41.setTop (mkF m 19 #[.val (.ref ob), .val (.ref h0.size), .val (.int (6 : Int32)), .val (.int ((((0 : Int32) + (1 : Int32)) + (1 : Int32)) + (1 : Int32))), .val (.ref b_K_OUT_OF_ORDER)] [])) _
      refine XS.aload X41.here hx rfl (hb hby own_d_prog_35_method_5_19) rfl rfl ?_
      show Steps p.tables e below (T41.setTop (mkF m 21 #[.val (.ref ob), .val (.ref h0.size), .val (.int (6 : Int32)), .val (.int ((((0 : Int32) + (1 : Int32)) + (1 : Int32)) + (1 : Int32))), .val (.ref b_K_OUT_OF_ORDER)] [(.ref b_K_OUT_OF_ORDER)])) _
      refine st43 _ ?_
      show Steps p.tables e below (T43.setTop (mkF m 24 #[.val (.ref ob), .val (.ref h0.size), .val (.int (6 : Int32)), .val (.int ((((0 : Int32) + (1 : Int32)) + (1 : Int32)) + (1 : Int32))), .val (.ref b_K_OUT_OF_ORDER)] [.null])) _
      refine XS.aloadN X43.here hx rfl (hb hby own_d_prog_35_method_5_24) rfl rfl ?_
      show Steps p.tables e below (T43.setTop (mkF m 25 #[.val (.ref ob), .val (.ref h0.size), .val (.int (6 : Int32)), .val (.int ((((0 : Int32) + (1 : Int32)) + (1 : Int32)) + (1 : Int32))), .val (.ref b_K_OUT_OF_ORDER)] [(.ref ob), .null])) _
      refine Jvm.RoadKit.acmp (g := (mkF m 25 #[.val (.ref ob), .val (.ref h0.size), .val (.int (6 : Int32)), .val (.int ((((0 : Int32) + (1 : Int32)) + (1 : Int32)) + (1 : Int32))), .val (.ref b_K_OUT_OF_ORDER)] [(.ref ob), .null])) X43 hx rfl rfl rfl (pc0 := 25) (pc' := 31) (same := false) rfl (hb hby own_d_prog_35_method_5_25) rfl (decide_eq_false nofun) (by decide) (by decide) ?_
      show Steps p.tables e below (T43.setTop (mkF m 31 #[.val (.ref ob), .val (.ref h0.size), .val (.int (6 : Int32)), .val (.int ((((0 : Int32) + (1 : Int32)) + (1 : Int32)) + (1 : Int32))), .val (.ref b_K_OUT_OF_ORDER)] [])) _
      refine XS.iinc X43.here hx rfl (hb hby own_d_prog_35_method_5_31) rfl (l' := #[.val (.ref ob), .val (.ref h0.size), .val (.int (6 : Int32)), .val (.int (((((0 : Int32) + (1 : Int32)) + (1 : Int32)) + (1 : Int32)) + (1 : Int32))), .val (.ref b_K_OUT_OF_ORDER)]) rfl ?_
      show Steps p.tables e below (T43.setTop (mkF m 34 #[.val (.ref ob), .val (.ref h0.size), .val (.int (6 : Int32)), .val (.int (((((0 : Int32) + (1 : Int32)) + (1 : Int32)) + (1 : Int32)) + (1 : Int32))), .val (.ref b_K_OUT_OF_ORDER)] [])) _
      refine XS.goto X43.here hx rfl (pc0 := 34) (pc' := 9) rfl (hb hby own_d_prog_35_method_5_34) (by decide) (by decide) ?_
      show Steps p.tables e below (T43.setTop (mkF m 9 #[.val (.ref ob), .val (.ref h0.size), .val (.int (6 : Int32)), .val (.int (((((0 : Int32) + (1 : Int32)) + (1 : Int32)) + (1 : Int32)) + (1 : Int32))), .val (.ref b_K_OUT_OF_ORDER)] [])) _
      refine XS.iloadN X43.here hx rfl (hb hby own_d_prog_35_method_5_9) rfl ?_
      show Steps p.tables e below (T43.setTop (mkF m 10 #[.val (.ref ob), .val (.ref h0.size), .val (.int (6 : Int32)), .val (.int (((((0 : Int32) + (1 : Int32)) + (1 : Int32)) + (1 : Int32)) + (1 : Int32))), .val (.ref b_K_OUT_OF_ORDER)] [(.int (((((0 : Int32) + (1 : Int32)) + (1 : Int32)) + (1 : Int32)) + (1 : Int32)))])) _
      refine XS.iloadN X43.here hx rfl (hb hby own_d_prog_35_method_5_10) rfl ?_
      show Steps p.tables e below (T43.setTop (mkF m 11 #[.val (.ref ob), .val (.ref h0.size), .val (.int (6 : Int32)), .val (.int (((((0 : Int32) + (1 : Int32)) + (1 : Int32)) + (1 : Int32)) + (1 : Int32))), .val (.ref b_K_OUT_OF_ORDER)] [(.int (6 : Int32)), (.int (((((0 : Int32) + (1 : Int32)) + (1 : Int32)) + (1 : Int32)) + (1 : Int32)))])) _
      refine XS.icmpNo X43.here hx rfl (hb hby own_d_prog_35_method_5_11) rfl (tlt (show (((((0 : Int32) + (1 : Int32)) + (1 : Int32)) + (1 : Int32)) + (1 : Int32)) < (6 : Int32) by decide)).2.1 ?_
      show Steps p.tables e below (T43.setTop (mkF m 14 #[.val (.ref ob), .val (.ref h0.size), .val (.int (6 : Int32)), .val (.int (((((0 : Int32) + (1 : Int32)) + (1 : Int32)) + (1 : Int32)) + (1 : Int32))), .val (.ref b_K_OUT_OF_ORDER)] [])) _
      refine XS.aloadN X43.here hx rfl (hb hby own_d_prog_35_method_5_14) rfl rfl ?_
      show Steps p.tables e below (T43.setTop (mkF m 15 #[.val (.ref ob), .val (.ref h0.size), .val (.int (6 : Int32)), .val (.int (((((0 : Int32) + (1 : Int32)) + (1 : Int32)) + (1 : Int32)) + (1 : Int32))), .val (.ref b_K_OUT_OF_ORDER)] [(.ref h0.size)])) _
      refine XS.iloadN X43.here hx rfl (hb hby own_d_prog_35_method_5_15) rfl ?_
      show Steps p.tables e below (T43.setTop (mkF m 16 #[.val (.ref ob), .val (.ref h0.size), .val (.int (6 : Int32)), .val (.int (((((0 : Int32) + (1 : Int32)) + (1 : Int32)) + (1 : Int32)) + (1 : Int32))), .val (.ref b_K_OUT_OF_ORDER)] [(.int (((((0 : Int32) + (1 : Int32)) + (1 : Int32)) + (1 : Int32)) + (1 : Int32))), (.ref h0.size)])) _
      refine X43.aaload hx (j := (((((0 : Int32) + (1 : Int32)) + (1 : Int32)) + (1 : Int32)) + (1 : Int32))) (v := (.ref b_K_FAILED)) (by rw [e43]; exact Ar44.1) (State.isArrayOf_alike hZ.alike Ar44.2.1) rfl Ar44.2.2 (own_inb G44 6 rfl (show ¬ ((((((0 : Int32) + (1 : Int32)) + (1 : Int32)) + (1 : Int32)) + (1 : Int32)) < 0 ∨ 6 ≤ ((((((0 : Int32) + (1 : Int32)) + (1 : Int32)) + (1 : Int32)) + (1 : Int32))).toNatClampNeg) by decide)) (own_get G44 rfl) (g := (mkF m 16 #[.val (.ref ob), .val (.ref h0.size), .val (.int (6 : Int32)), .val (.int (((((0 : Int32) + (1 : Int32)) + (1 : Int32)) + (1 : Int32)) + (1 : Int32))), .val (.ref b_K_OUT_OF_ORDER)] [(.int (((((0 : Int32) + (1 : Int32)) + (1 : Int32)) + (1 : Int32)) + (1 : Int32))), (.ref h0.size)])) rfl rfl (hb hby own_d_prog_35_method_5_16) _ ?_
      show Steps p.tables e below (T43.setTop (mkF m 17 #[.val (.ref ob), .val (.ref h0.size), .val (.int (6 : Int32)), .val (.int (((((0 : Int32) + (1 : Int32)) + (1 : Int32)) + (1 : Int32)) + (1 : Int32))), .val (.ref b_K_OUT_OF_ORDER)] [(.ref b_K_FAILED)])) _
      refine XS.astore X43.here hx rfl (hb hby own_d_prog_35_method_5_17) rfl rfl (l' := #[.val (.ref ob), .val (.ref h0.size), .val (.int (6 : Int32)), .val (.int (((((0 : Int32) + (1 : Int32)) + (1 : Int32)) + (1 : Int32)) + (1 : Int32))), .val (.ref b_K_FAILED)]) rfl ?_
      show Steps p.tables e below (T43.setTop (mkF m 19 #[.val (.ref ob), .val (.ref h0.size), .val (.int (6 : Int32)), .val (.int (((((0 : Int32) + (1 : Int32)) + (1 : Int32)) + (1 : Int32)) + (1 : Int32))), .val (.ref b_K_FAILED)] [])) _
      refine XS.aload X43.here hx rfl (hb hby own_d_prog_35_method_5_19) rfl rfl ?_
      show Steps p.tables e below (T43.setTop (mkF m 21 #[.val (.ref ob), .val (.ref h0.size), .val (.int (6 : Int32)), .val (.int (((((0 : Int32) + (1 : Int32)) + (1 : Int32)) + (1 : Int32)) + (1 : Int32))), .val (.ref b_K_FAILED)] [(.ref b_K_FAILED)])) _
      refine st45 _ ?_
      show Steps p.tables e below (T45.setTop (mkF m 24 #[.val (.ref ob), .val (.ref h0.size), .val (.int (6 : Int32)), .val (.int (((((0 : Int32) + (1 : Int32)) + (1 : Int32)) + (1 : Int32)) + (1 : Int32))), .val (.ref b_K_FAILED)] [(.ref b_M_FAILED)])) _
      refine XS.aloadN X45.here hx rfl (hb hby own_d_prog_35_method_5_24) rfl rfl ?_
      show Steps p.tables e below (T45.setTop (mkF m 25 #[.val (.ref ob), .val (.ref h0.size), .val (.int (6 : Int32)), .val (.int (((((0 : Int32) + (1 : Int32)) + (1 : Int32)) + (1 : Int32)) + (1 : Int32))), .val (.ref b_K_FAILED)] [(.ref ob), (.ref b_M_FAILED)])) _
      refine Jvm.RoadKit.acmp (g := (mkF m 25 #[.val (.ref ob), .val (.ref h0.size), .val (.int (6 : Int32)), .val (.int (((((0 : Int32) + (1 : Int32)) + (1 : Int32)) + (1 : Int32)) + (1 : Int32))), .val (.ref b_K_FAILED)] [(.ref ob), (.ref b_M_FAILED)])) X45 hx rfl rfl rfl (pc0 := 25) (pc' := 31) (same := false) rfl (hb hby own_d_prog_35_method_5_25) rfl (decide_eq_false (own_ref_ne (fun z => ne_FAILED_INTERRUPTED (z.trans q)))) (by decide) (by decide) ?_
      show Steps p.tables e below (T45.setTop (mkF m 31 #[.val (.ref ob), .val (.ref h0.size), .val (.int (6 : Int32)), .val (.int (((((0 : Int32) + (1 : Int32)) + (1 : Int32)) + (1 : Int32)) + (1 : Int32))), .val (.ref b_K_FAILED)] [])) _
      refine XS.iinc X45.here hx rfl (hb hby own_d_prog_35_method_5_31) rfl (l' := #[.val (.ref ob), .val (.ref h0.size), .val (.int (6 : Int32)), .val (.int ((((((0 : Int32) + (1 : Int32)) + (1 : Int32)) + (1 : Int32)) + (1 : Int32)) + (1 : Int32))), .val (.ref b_K_FAILED)]) rfl ?_
      show Steps p.tables e below (T45.setTop (mkF m 34 #[.val (.ref ob), .val (.ref h0.size), .val (.int (6 : Int32)), .val (.int ((((((0 : Int32) + (1 : Int32)) + (1 : Int32)) + (1 : Int32)) + (1 : Int32)) + (1 : Int32))), .val (.ref b_K_FAILED)] [])) _
      refine XS.goto X45.here hx rfl (pc0 := 34) (pc' := 9) rfl (hb hby own_d_prog_35_method_5_34) (by decide) (by decide) ?_
      show Steps p.tables e below (T45.setTop (mkF m 9 #[.val (.ref ob), .val (.ref h0.size), .val (.int (6 : Int32)), .val (.int ((((((0 : Int32) + (1 : Int32)) + (1 : Int32)) + (1 : Int32)) + (1 : Int32)) + (1 : Int32))), .val (.ref b_K_FAILED)] [])) _
      refine XS.iloadN X45.here hx rfl (hb hby own_d_prog_35_method_5_9) rfl ?_
      show Steps p.tables e below (T45.setTop (mkF m 10 #[.val (.ref ob), .val (.ref h0.size), .val (.int (6 : Int32)), .val (.int ((((((0 : Int32) + (1 : Int32)) + (1 : Int32)) + (1 : Int32)) + (1 : Int32)) + (1 : Int32))), .val (.ref b_K_FAILED)] [(.int ((((((0 : Int32) + (1 : Int32)) + (1 : Int32)) + (1 : Int32)) + (1 : Int32)) + (1 : Int32)))])) _
      refine XS.iloadN X45.here hx rfl (hb hby own_d_prog_35_method_5_10) rfl ?_
      show Steps p.tables e below (T45.setTop (mkF m 11 #[.val (.ref ob), .val (.ref h0.size), .val (.int (6 : Int32)), .val (.int ((((((0 : Int32) + (1 : Int32)) + (1 : Int32)) + (1 : Int32)) + (1 : Int32)) + (1 : Int32))), .val (.ref b_K_FAILED)] [(.int (6 : Int32)), (.int ((((((0 : Int32) + (1 : Int32)) + (1 : Int32)) + (1 : Int32)) + (1 : Int32)) + (1 : Int32)))])) _
      refine XS.icmpNo X45.here hx rfl (hb hby own_d_prog_35_method_5_11) rfl (tlt (show ((((((0 : Int32) + (1 : Int32)) + (1 : Int32)) + (1 : Int32)) + (1 : Int32)) + (1 : Int32)) < (6 : Int32) by decide)).2.1 ?_
      show Steps p.tables e below (T45.setTop (mkF m 14 #[.val (.ref ob), .val (.ref h0.size), .val (.int (6 : Int32)), .val (.int ((((((0 : Int32) + (1 : Int32)) + (1 : Int32)) + (1 : Int32)) + (1 : Int32)) + (1 : Int32))), .val (.ref b_K_FAILED)] [])) _
      refine XS.aloadN X45.here hx rfl (hb hby own_d_prog_35_method_5_14) rfl rfl ?_
      show Steps p.tables e below (T45.setTop (mkF m 15 #[.val (.ref ob), .val (.ref h0.size), .val (.int (6 : Int32)), .val (.int ((((((0 : Int32) + (1 : Int32)) + (1 : Int32)) + (1 : Int32)) + (1 : Int32)) + (1 : Int32))), .val (.ref b_K_FAILED)] [(.ref h0.size)])) _
      refine XS.iloadN X45.here hx rfl (hb hby own_d_prog_35_method_5_15) rfl ?_
      show Steps p.tables e below (T45.setTop (mkF m 16 #[.val (.ref ob), .val (.ref h0.size), .val (.int (6 : Int32)), .val (.int ((((((0 : Int32) + (1 : Int32)) + (1 : Int32)) + (1 : Int32)) + (1 : Int32)) + (1 : Int32))), .val (.ref b_K_FAILED)] [(.int ((((((0 : Int32) + (1 : Int32)) + (1 : Int32)) + (1 : Int32)) + (1 : Int32)) + (1 : Int32))), (.ref h0.size)])) _
      refine X45.aaload hx (j := ((((((0 : Int32) + (1 : Int32)) + (1 : Int32)) + (1 : Int32)) + (1 : Int32)) + (1 : Int32))) (v := (.ref b_K_INTERRUPTED)) (by rw [e45]; exact Ar46.1) (State.isArrayOf_alike hZ.alike Ar46.2.1) rfl Ar46.2.2 (own_inb G46 6 rfl (show ¬ (((((((0 : Int32) + (1 : Int32)) + (1 : Int32)) + (1 : Int32)) + (1 : Int32)) + (1 : Int32)) < 0 ∨ 6 ≤ (((((((0 : Int32) + (1 : Int32)) + (1 : Int32)) + (1 : Int32)) + (1 : Int32)) + (1 : Int32))).toNatClampNeg) by decide)) (own_get G46 rfl) (g := (mkF m 16 #[.val (.ref ob), .val (.ref h0.size), .val (.int (6 : Int32)), .val (.int ((((((0 : Int32) + (1 : Int32)) + (1 : Int32)) + (1 : Int32)) + (1 : Int32)) + (1 : Int32))), .val (.ref b_K_FAILED)] [(.int ((((((0 : Int32) + (1 : Int32)) + (1 : Int32)) + (1 : Int32)) + (1 : Int32)) + (1 : Int32))), (.ref h0.size)])) rfl rfl (hb hby own_d_prog_35_method_5_16) _ ?_
      show Steps p.tables e below (T45.setTop (mkF m 17 #[.val (.ref ob), .val (.ref h0.size), .val (.int (6 : Int32)), .val (.int ((((((0 : Int32) + (1 : Int32)) + (1 : Int32)) + (1 : Int32)) + (1 : Int32)) + (1 : Int32))), .val (.ref b_K_FAILED)] [(.ref b_K_INTERRUPTED)])) _
      refine XS.astore X45.here hx rfl (hb hby own_d_prog_35_method_5_17) rfl rfl (l' := #[.val (.ref ob), .val (.ref h0.size), .val (.int (6 : Int32)), .val (.int ((((((0 : Int32) + (1 : Int32)) + (1 : Int32)) + (1 : Int32)) + (1 : Int32)) + (1 : Int32))), .val (.ref b_K_INTERRUPTED)]) rfl ?_
      show Steps p.tables e below (T45.setTop (mkF m 19 #[.val (.ref ob), .val (.ref h0.size), .val (.int (6 : Int32)), .val (.int ((((((0 : Int32) + (1 : Int32)) + (1 : Int32)) + (1 : Int32)) + (1 : Int32)) + (1 : Int32))), .val (.ref b_K_INTERRUPTED)] [])) _
      refine XS.aload X45.here hx rfl (hb hby own_d_prog_35_method_5_19) rfl rfl ?_
      show Steps p.tables e below (T45.setTop (mkF m 21 #[.val (.ref ob), .val (.ref h0.size), .val (.int (6 : Int32)), .val (.int ((((((0 : Int32) + (1 : Int32)) + (1 : Int32)) + (1 : Int32)) + (1 : Int32)) + (1 : Int32))), .val (.ref b_K_INTERRUPTED)] [(.ref b_K_INTERRUPTED)])) _
      refine st47 _ ?_
      show Steps p.tables e below (T47.setTop (mkF m 24 #[.val (.ref ob), .val (.ref h0.size), .val (.int (6 : Int32)), .val (.int ((((((0 : Int32) + (1 : Int32)) + (1 : Int32)) + (1 : Int32)) + (1 : Int32)) + (1 : Int32))), .val (.ref b_K_INTERRUPTED)] [(.ref b_M_INTERRUPTED)])) _
      refine XS.aloadN X47.here hx rfl (hb hby own_d_prog_35_method_5_24) rfl rfl ?_
      show Steps p.tables e below (T47.setTop (mkF m 25 #[.val (.ref ob), .val (.ref h0.size), .val (.int (6 : Int32)), .val (.int ((((((0 : Int32) + (1 : Int32)) + (1 : Int32)) + (1 : Int32)) + (1 : Int32)) + (1 : Int32))), .val (.ref b_K_INTERRUPTED)] [(.ref ob), (.ref b_M_INTERRUPTED)])) _
      refine Jvm.RoadKit.acmp (g := (mkF m 25 #[.val (.ref ob), .val (.ref h0.size), .val (.int (6 : Int32)), .val (.int ((((((0 : Int32) + (1 : Int32)) + (1 : Int32)) + (1 : Int32)) + (1 : Int32)) + (1 : Int32))), .val (.ref b_K_INTERRUPTED)] [(.ref ob), (.ref b_M_INTERRUPTED)])) X47 hx rfl rfl rfl (pc0 := 25) (pc' := 28) (same := true) rfl (hb hby own_d_prog_35_method_5_25) rfl (decide_eq_true (own_ref_eq q.symm)) (by decide) (by decide) ?_
      show Steps p.tables e below (T47.setTop (mkF m 28 #[.val (.ref ob), .val (.ref h0.size), .val (.int (6 : Int32)), .val (.int ((((((0 : Int32) + (1 : Int32)) + (1 : Int32)) + (1 : Int32)) + (1 : Int32)) + (1 : Int32))), .val (.ref b_K_INTERRUPTED)] [])) _
      refine XS.aload X47.here hx rfl (hb hby own_d_prog_35_method_5_28) rfl rfl ?_
      show Steps p.tables e below (T47.setTop (mkF m 30 #[.val (.ref ob), .val (.ref h0.size), .val (.int (6 : Int32)), .val (.int ((((((0 : Int32) + (1 : Int32)) + (1 : Int32)) + (1 : Int32)) + (1 : Int32)) + (1 : Int32))), .val (.ref b_K_INTERRUPTED)] [(.ref b_K_INTERRUPTED)])) _
      exact own_retA X47 hx (by first | rfl | decide) rfl Bd.returns (hb hby own_d_prog_35_method_5_30) hr
    · show rm_of_Q Z ob wv aV cV b_M_APPLIED b_K_PENDING b_K_EDITED b_K_MISSING b_K_OUT_OF_ORDER b_K_FAILED b_K_INTERRUPTED b_M_PENDING b_M_FAILED b_M_INTERRUPTED h0 n0 _ T47.heap _
      rw [e47]
      exact ⟨by rw [r], N34, XE34⟩
theorem rm_law_ef (m : MethodId) (x0 : Int32) : entryFrame m #[(.int x0)] maxLocals = mkF m 0 #[.val (.int x0), .unset, .unset, .unset] [] := by first | (simp [entryFrame, mkF, argsToLocals, Value.category, maxLocals]; done) | rfl
def rm_law_Q (Z : State) (p0 : Int32) (aV : Addr) (cV : Cell) (b_M_APPLIED : Addr) (b_K_PENDING : Addr) (b_K_EDITED : Addr) (b_K_MISSING : Addr) (b_K_OUT_OF_ORDER : Addr) (b_K_FAILED : Addr) (b_K_INTERRUPTED : Addr) (b_M_PENDING : Addr) (b_M_FAILED : Addr) (b_M_INTERRUPTED : Addr) (h0 : Heap) (n0 : Nat) (v : Option Value) (h : Heap) (L : List Loc) : Prop := v = some (.int (1 : Int32)) ∧ Fr n0 L
set_option maxRecDepth 65536 in
set_option maxHeartbeats 40000000 in
theorem rm_law (l : Launch) (Z : State) (a0 : Array Value) (hw : ∀ d ∈ tables_1, d.before a0 Z = true) (ws : List Jvm.Cond) (p0 : Int32) (aV : Addr) (cV : Cell) (b_M_APPLIED : Addr) (b_K_PENDING : Addr) (b_K_EDITED : Addr) (b_K_MISSING : Addr) (b_K_OUT_OF_ORDER : Addr) (b_K_FAILED : Addr) (b_K_INTERRUPTED : Addr) (b_M_PENDING : Addr) (b_M_FAILED : Addr) (b_M_INTERRUPTED : Addr) (h0 : Heap) (n0 : Nat) (Z0 : n0 ≤ h0.size) (S_V : Sta Z h0 "com/example/urashima/urashima/Problem$Kind" "$VALUES" "[Lcom/example/urashima/urashima/Problem$Kind;" (.ref aV)) (A_V : Arr Z h0 aV cV (.object "com/example/urashima/urashima/Problem$Kind")) (E_V : Exa Z h0 aV "[Lcom/example/urashima/urashima/Problem$Kind;") (FC_V : FitC Z cV) (L_V : cV.slots.toList = [.ref b_K_PENDING, .ref b_K_EDITED, .ref b_K_MISSING, .ref b_K_OUT_OF_ORDER, .ref b_K_FAILED, .ref b_K_INTERRUPTED]) (S_M_APPLIED : Sta Z h0 "com/example/urashima/urashima/MigrationState" "APPLIED" "Lcom/example/urashima/urashima/MigrationState;" (.ref b_M_APPLIED)) (E_M_APPLIED : Exa Z h0 b_M_APPLIED "com/example/urashima/urashima/MigrationState") (S_K_PENDING : Sta Z h0 "com/example/urashima/urashima/Problem$Kind" "PENDING" "Lcom/example/urashima/urashima/Problem$Kind;" (.ref b_K_PENDING)) (E_K_PENDING : Exa Z h0 b_K_PENDING "com/example/urashima/urashima/Problem$Kind") (S_K_EDITED : Sta Z h0 "com/example/urashima/urashima/Problem$Kind" "EDITED" "Lcom/example/urashima/urashima/Problem$Kind;" (.ref b_K_EDITED)) (E_K_EDITED : Exa Z h0 b_K_EDITED "com/example/urashima/urashima/Problem$Kind") (S_K_MISSING : Sta Z h0 "com/example/urashima/urashima/Problem$Kind" "MISSING" "Lcom/example/urashima/urashima/Problem$Kind;" (.ref b_K_MISSING)) (E_K_MISSING : Exa Z h0 b_K_MISSING "com/example/urashima/urashima/Problem$Kind") (S_K_OUT_OF_ORDER : Sta Z h0 "com/example/urashima/urashima/Problem$Kind" "OUT_OF_ORDER" "Lcom/example/urashima/urashima/Problem$Kind;" (.ref b_K_OUT_OF_ORDER)) (E_K_OUT_OF_ORDER : Exa Z h0 b_K_OUT_OF_ORDER "com/example/urashima/urashima/Problem$Kind") (S_K_FAILED : Sta Z h0 "com/example/urashima/urashima/Problem$Kind" "FAILED" "Lcom/example/urashima/urashima/Problem$Kind;" (.ref b_K_FAILED)) (E_K_FAILED : Exa Z h0 b_K_FAILED "com/example/urashima/urashima/Problem$Kind") (S_K_INTERRUPTED : Sta Z h0 "com/example/urashima/urashima/Problem$Kind" "INTERRUPTED" "Lcom/example/urashima/urashima/Problem$Kind;" (.ref b_K_INTERRUPTED)) (E_K_INTERRUPTED : Exa Z h0 b_K_INTERRUPTED "com/example/urashima/urashima/Problem$Kind") (S_M_PENDING : Sta Z h0 "com/example/urashima/urashima/MigrationState" "PENDING" "Lcom/example/urashima/urashima/MigrationState;" (.ref b_M_PENDING)) (E_M_PENDING : Exa Z h0 b_M_PENDING "com/example/urashima/urashima/MigrationState") (S_M_FAILED : Sta Z h0 "com/example/urashima/urashima/MigrationState" "FAILED" "Lcom/example/urashima/urashima/MigrationState;" (.ref b_M_FAILED)) (E_M_FAILED : Exa Z h0 b_M_FAILED "com/example/urashima/urashima/MigrationState") (S_M_INTERRUPTED : Sta Z h0 "com/example/urashima/urashima/MigrationState" "INTERRUPTED" "Lcom/example/urashima/urashima/MigrationState;" (.ref b_M_INTERRUPTED)) (E_M_INTERRUPTED : Exa Z h0 b_M_INTERRUPTED "com/example/urashima/urashima/MigrationState") (F_K_PENDING_state : Fld Z h0 b_K_PENDING "com/example/urashima/urashima/Problem$Kind" "state" "Lcom/example/urashima/urashima/MigrationState;" (.ref b_M_PENDING)) (F_M_PENDING_ordinal : Fld Z h0 b_M_PENDING "java/lang/Enum" "ordinal" "I" (.int (1 : Int32))) (F_M_APPLIED_ordinal : Fld Z h0 b_M_APPLIED "java/lang/Enum" "ordinal" "I" (.int (0 : Int32))) (F_K_EDITED_state : Fld Z h0 b_K_EDITED "com/example/urashima/urashima/Problem$Kind" "state" "Lcom/example/urashima/urashima/MigrationState;" .null) (F_K_MISSING_state : Fld Z h0 b_K_MISSING "com/example/urashima/urashima/Problem$Kind" "state" "Lcom/example/urashima/urashima/MigrationState;" .null) (F_K_OUT_OF_ORDER_state : Fld Z h0 b_K_OUT_OF_ORDER "com/example/urashima/urashima/Problem$Kind" "state" "Lcom/example/urashima/urashima/MigrationState;" .null) (F_K_FAILED_state : Fld Z h0 b_K_FAILED "com/example/urashima/urashima/Problem$Kind" "state" "Lcom/example/urashima/urashima/MigrationState;" (.ref b_M_FAILED)) (F_M_FAILED_ordinal : Fld Z h0 b_M_FAILED "java/lang/Enum" "ordinal" "I" (.int (2 : Int32))) (F_K_INTERRUPTED_state : Fld Z h0 b_K_INTERRUPTED "com/example/urashima/urashima/Problem$Kind" "state" "Lcom/example/urashima/urashima/MigrationState;" (.ref b_M_INTERRUPTED)) (F_M_INTERRUPTED_ordinal : Fld Z h0 b_M_INTERRUPTED "java/lang/Enum" "ordinal" "I" (.int (3 : Int32))) :
    MetFree l x (head1 (Jvm.Cond.code x code maxLocals ret :: ws) room_1) (fun a₀ U₀ => a₀ = #[(.int p0)] ∧ Z.Warmed39 U₀.vm ∧ U₀.heap = h0) (fun _ _ _ _ _ => True) (fun _ U₀ o₀ U₁ => ∃ v₀ L₀, o₀ = .returned v₀ ∧ rm_law_Q Z p0 aV cV b_M_APPLIED b_K_PENDING b_K_EDITED b_K_MISSING b_K_OUT_OF_ORDER b_K_FAILED b_K_INTERRUPTED b_M_PENDING b_M_FAILED b_M_INTERRUPTED h0 n0 v₀ U₁.heap L₀ ∧ FrameEnd U₀ o₀ U₁ L₀ room_1.cells room_1.slots) := by
  refine MetFree.of_bodySF (plainFor_of_name own_pn1) hisR ?_
  intro p e s m args below meth c s₁ Bd hml0 hP hK
  obtain ⟨rfl, hZ, hh⟩ := hP
  have hx := Bd.exec
  have hby := Bd.bytes
  have hml : c.maxLocals = 4 := hml0
  have hown : s.vm.findClass "com/example/urashima/urashima/KindOfPinLaw" = some m.cls := findClass_of_methodNamed Bd.named
  have hnm := (name_of_methodNamed Bd.named Bd.method).1
  have X0 : Stand p l e room_1 s m #[(.int p0)] below meth c s₁ [] 0 0 := Stand.of_body Bd
  have e0 : s₁.heap = h0 := by rw [← hh, Bd.state]; rfl
  have N0 := Fr.nil n0
  have pre0 : ∀ t, Steps p.tables e below (s₁.setTop (mkF m 0 #[.val (.int p0), .unset, .unset, .unset] [])) t → Steps p.tables e below (s₁.setTop (entryFrame m #[(.int p0)] maxLocals)) t := fun t kk₀ => castTop (rm_law_ef m p0) kk₀
  obtain ⟨ob, wv, hM⟩ : ∃ (ob : Addr) (wv : Value), ((p0 &&& (3 : Int32)) = (0 : Int32) ∧ b_M_APPLIED = ob ∧ .null = wv) ∨ ((p0 &&& (3 : Int32)) = (1 : Int32) ∧ b_M_PENDING = ob ∧ (.ref b_K_PENDING) = wv) ∨ ((p0 &&& (3 : Int32)) = (2 : Int32) ∧ b_M_FAILED = ob ∧ (.ref b_K_FAILED) = wv) ∨ ((p0 &&& (3 : Int32)) = (3 : Int32) ∧ b_M_INTERRUPTED = ob ∧ (.ref b_K_INTERRUPTED) = wv) := by
    rcases own_and3 p0 with q | q | q | q
    · exact ⟨_, _, Or.inl (⟨q, rfl, rfl⟩)⟩
    · exact ⟨_, _, Or.inr (Or.inl (⟨q, rfl, rfl⟩))⟩
    · exact ⟨_, _, Or.inr (Or.inr (Or.inl (⟨q, rfl, rfl⟩)))⟩
    · exact ⟨_, _, Or.inr (Or.inr (Or.inr (⟨q, rfl, rfl⟩)))⟩
  have hst : (ob = b_M_APPLIED ∧ wv = .null) ∨ (ob = b_M_PENDING ∧ wv = (.ref b_K_PENDING)) ∨ (ob = b_M_FAILED ∧ wv = (.ref b_K_FAILED)) ∨ (ob = b_M_INTERRUPTED ∧ wv = (.ref b_K_INTERRUPTED)) := by
    rcases hM with ⟨-, q, r⟩ | ⟨-, q, r⟩ | ⟨-, q, r⟩ | ⟨-, q, r⟩
    · exact Or.inl (⟨q.symm, r.symm⟩)
    · exact Or.inr (Or.inl (⟨q.symm, r.symm⟩))
    · exact Or.inr (Or.inr (Or.inl (⟨q.symm, r.symm⟩)))
    · exact Or.inr (Or.inr (Or.inr (⟨q.symm, r.symm⟩)))
  have hwr : wv.isRef = true := by
    rcases hst with ⟨-, r⟩ | ⟨-, r⟩ | ⟨-, r⟩ | ⟨-, r⟩ <;> rw [r] <;> rfl
  obtain ⟨T48, X48, e48, st48⟩ := own_join X0 (h := h0) (g := (mkF m 5 #[.val (.int p0), .val (.int (p0 &&& (3 : Int32))), .unset, .unset] [(.int (p0 &&& (3 : Int32)))])) (g' := (mkF m 57 #[.val (.int p0), .val (.int (p0 &&& (3 : Int32))), .val (.ref ob), .val wv] [])) (by
    rcases hM with ⟨q, rfl, rfl⟩ | ⟨q, rfl, rfl⟩ | ⟨q, rfl, rfl⟩ | ⟨q, rfl, rfl⟩
    · obtain ⟨T49, X49, e49, st49⟩ := getS X0 hx hZ (host := "") hown (hw _ (List.mem_of_getElem? (i := 0) rfl)) Via.refl e0 S_M_APPLIED (g := (mkF m 8 #[.val (.int p0), .val (.int (p0 &&& (3 : Int32))), .unset, .unset] [])) rfl (hb hby at_8)
      refine ⟨T49, X49, e49, fun target k => ?_⟩
      show Steps p.tables e below (s₁.setTop (mkF m 5 #[.val (.int p0), .val (.int (p0 &&& (3 : Int32))), .unset, .unset] [(.int (p0 &&& (3 : Int32)))])) _
      refine XS.ifNo X0.here hx rfl (hb hby at_5) rfl ((if0 _ _).trans (teq q).2) ?_
      show Steps p.tables e below (s₁.setTop (mkF m 8 #[.val (.int p0), .val (.int (p0 &&& (3 : Int32))), .unset, .unset] [])) _
      refine st49 _ ?_
      show Steps p.tables e below (T49.setTop (mkF m 11 #[.val (.int p0), .val (.int (p0 &&& (3 : Int32))), .unset, .unset] [(.ref b_M_APPLIED)])) _
      refine XS.astoreN X49.here hx rfl (hb hby at_11) rfl rfl (l' := #[.val (.int p0), .val (.int (p0 &&& (3 : Int32))), .val (.ref b_M_APPLIED), .unset]) rfl ?_
      show Steps p.tables e below (T49.setTop (mkF m 12 #[.val (.int p0), .val (.int (p0 &&& (3 : Int32))), .val (.ref b_M_APPLIED), .unset] [])) _
      refine XS.aconstNull X49.here hx rfl (hb hby at_12) ?_
      show Steps p.tables e below (T49.setTop (mkF m 13 #[.val (.int p0), .val (.int (p0 &&& (3 : Int32))), .val (.ref b_M_APPLIED), .unset] [.null])) _
      refine XS.astoreN X49.here hx rfl (hb hby at_13) rfl rfl (l' := #[.val (.int p0), .val (.int (p0 &&& (3 : Int32))), .val (.ref b_M_APPLIED), .val .null]) rfl ?_
      show Steps p.tables e below (T49.setTop (mkF m 14 #[.val (.int p0), .val (.int (p0 &&& (3 : Int32))), .val (.ref b_M_APPLIED), .val .null] [])) _
      refine XS.goto X49.here hx rfl (pc0 := 14) (pc' := 57) rfl (hb hby at_14) (by decide) (by decide) ?_
      exact k
    · obtain ⟨T50, X50, e50, st50⟩ := getS X0 hx hZ (host := "") hown (hw _ (List.mem_of_getElem? (i := 37) rfl)) Via.refl e0 S_M_PENDING (g := (mkF m 22 #[.val (.int p0), .val (.int (p0 &&& (3 : Int32))), .unset, .unset] [])) rfl (hb hby at_22)
      obtain ⟨T51, X51, e51, st51⟩ := getS X50 hx hZ (host := "") hown (hw _ (List.mem_of_getElem? (i := 38) rfl)) Via.refl e50 S_K_PENDING (g := (mkF m 26 #[.val (.int p0), .val (.int (p0 &&& (3 : Int32))), .val (.ref b_M_PENDING), .unset] [])) rfl (hb hby at_26)
      refine ⟨T51, X51, e51, fun target k => ?_⟩
      show Steps p.tables e below (s₁.setTop (mkF m 5 #[.val (.int p0), .val (.int (p0 &&& (3 : Int32))), .unset, .unset] [(.int (p0 &&& (3 : Int32)))])) _
      refine XS.ifYes X0.here hx rfl (pc0 := 5) (pc' := 17) rfl (hb hby at_5) rfl ((if0 _ _).trans (feq (fun z => absurd (q.symm.trans z) (by decide))).2) (by decide) (by decide) ?_
      show Steps p.tables e below (s₁.setTop (mkF m 17 #[.val (.int p0), .val (.int (p0 &&& (3 : Int32))), .unset, .unset] [])) _
      refine XS.iloadN X0.here hx rfl (hb hby at_17) rfl ?_
      show Steps p.tables e below (s₁.setTop (mkF m 18 #[.val (.int p0), .val (.int (p0 &&& (3 : Int32))), .unset, .unset] [(.int (p0 &&& (3 : Int32)))])) _
      refine XS.iconst X0.here hx rfl (hb hby at_18) ?_
      show Steps p.tables e below (s₁.setTop (mkF m 19 #[.val (.int p0), .val (.int (p0 &&& (3 : Int32))), .unset, .unset] [(.int (1 : Int32)), (.int (p0 &&& (3 : Int32)))])) _
      refine XS.icmpNo X0.here hx rfl (hb hby at_19) rfl (teq q).2 ?_
      show Steps p.tables e below (s₁.setTop (mkF m 22 #[.val (.int p0), .val (.int (p0 &&& (3 : Int32))), .unset, .unset] [])) _
      refine st50 _ ?_
      show Steps p.tables e below (T50.setTop (mkF m 25 #[.val (.int p0), .val (.int (p0 &&& (3 : Int32))), .unset, .unset] [(.ref b_M_PENDING)])) _
      refine XS.astoreN X50.here hx rfl (hb hby at_25) rfl rfl (l' := #[.val (.int p0), .val (.int (p0 &&& (3 : Int32))), .val (.ref b_M_PENDING), .unset]) rfl ?_
      show Steps p.tables e below (T50.setTop (mkF m 26 #[.val (.int p0), .val (.int (p0 &&& (3 : Int32))), .val (.ref b_M_PENDING), .unset] [])) _
      refine st51 _ ?_
      show Steps p.tables e below (T51.setTop (mkF m 29 #[.val (.int p0), .val (.int (p0 &&& (3 : Int32))), .val (.ref b_M_PENDING), .unset] [(.ref b_K_PENDING)])) _
      refine XS.astoreN X51.here hx rfl (hb hby at_29) rfl rfl (l' := #[.val (.int p0), .val (.int (p0 &&& (3 : Int32))), .val (.ref b_M_PENDING), .val (.ref b_K_PENDING)]) rfl ?_
      show Steps p.tables e below (T51.setTop (mkF m 30 #[.val (.int p0), .val (.int (p0 &&& (3 : Int32))), .val (.ref b_M_PENDING), .val (.ref b_K_PENDING)] [])) _
      refine XS.goto X51.here hx rfl (pc0 := 30) (pc' := 57) rfl (hb hby at_30) (by decide) (by decide) ?_
      exact k
    · obtain ⟨T52, X52, e52, st52⟩ := getS X0 hx hZ (host := "") hown (hw _ (List.mem_of_getElem? (i := 35) rfl)) Via.refl e0 S_M_FAILED (g := (mkF m 38 #[.val (.int p0), .val (.int (p0 &&& (3 : Int32))), .unset, .unset] [])) rfl (hb hby at_38)
      obtain ⟨T53, X53, e53, st53⟩ := getS X52 hx hZ (host := "") hown (hw _ (List.mem_of_getElem? (i := 36) rfl)) Via.refl e52 S_K_FAILED (g := (mkF m 42 #[.val (.int p0), .val (.int (p0 &&& (3 : Int32))), .val (.ref b_M_FAILED), .unset] [])) rfl (hb hby at_42)
      refine ⟨T53, X53, e53, fun target k => ?_⟩
      show Steps p.tables e below (s₁.setTop (mkF m 5 #[.val (.int p0), .val (.int (p0 &&& (3 : Int32))), .unset, .unset] [(.int (p0 &&& (3 : Int32)))])) _
      refine XS.ifYes X0.here hx rfl (pc0 := 5) (pc' := 17) rfl (hb hby at_5) rfl ((if0 _ _).trans (feq (fun z => absurd (q.symm.trans z) (by decide))).2) (by decide) (by decide) ?_
      show Steps p.tables e below (s₁.setTop (mkF m 17 #[.val (.int p0), .val (.int (p0 &&& (3 : Int32))), .unset, .unset] [])) _
      refine XS.iloadN X0.here hx rfl (hb hby at_17) rfl ?_
      show Steps p.tables e below (s₁.setTop (mkF m 18 #[.val (.int p0), .val (.int (p0 &&& (3 : Int32))), .unset, .unset] [(.int (p0 &&& (3 : Int32)))])) _
      refine XS.iconst X0.here hx rfl (hb hby at_18) ?_
      show Steps p.tables e below (s₁.setTop (mkF m 19 #[.val (.int p0), .val (.int (p0 &&& (3 : Int32))), .unset, .unset] [(.int (1 : Int32)), (.int (p0 &&& (3 : Int32)))])) _
      refine XS.icmpYes X0.here hx rfl (pc0 := 19) (pc' := 33) rfl (hb hby at_19) rfl (feq (fun z => absurd (q.symm.trans z) (by decide))).2 (by decide) (by decide) ?_
      show Steps p.tables e below (s₁.setTop (mkF m 33 #[.val (.int p0), .val (.int (p0 &&& (3 : Int32))), .unset, .unset] [])) _
      refine XS.iloadN X0.here hx rfl (hb hby at_33) rfl ?_
      show Steps p.tables e below (s₁.setTop (mkF m 34 #[.val (.int p0), .val (.int (p0 &&& (3 : Int32))), .unset, .unset] [(.int (p0 &&& (3 : Int32)))])) _
      refine XS.iconst X0.here hx rfl (hb hby at_34) ?_
      show Steps p.tables e below (s₁.setTop (mkF m 35 #[.val (.int p0), .val (.int (p0 &&& (3 : Int32))), .unset, .unset] [(.int (2 : Int32)), (.int (p0 &&& (3 : Int32)))])) _
      refine XS.icmpNo X0.here hx rfl (hb hby at_35) rfl (teq q).2 ?_
      show Steps p.tables e below (s₁.setTop (mkF m 38 #[.val (.int p0), .val (.int (p0 &&& (3 : Int32))), .unset, .unset] [])) _
      refine st52 _ ?_
      show Steps p.tables e below (T52.setTop (mkF m 41 #[.val (.int p0), .val (.int (p0 &&& (3 : Int32))), .unset, .unset] [(.ref b_M_FAILED)])) _
      refine XS.astoreN X52.here hx rfl (hb hby at_41) rfl rfl (l' := #[.val (.int p0), .val (.int (p0 &&& (3 : Int32))), .val (.ref b_M_FAILED), .unset]) rfl ?_
      show Steps p.tables e below (T52.setTop (mkF m 42 #[.val (.int p0), .val (.int (p0 &&& (3 : Int32))), .val (.ref b_M_FAILED), .unset] [])) _
      refine st53 _ ?_
      show Steps p.tables e below (T53.setTop (mkF m 45 #[.val (.int p0), .val (.int (p0 &&& (3 : Int32))), .val (.ref b_M_FAILED), .unset] [(.ref b_K_FAILED)])) _
      refine XS.astoreN X53.here hx rfl (hb hby at_45) rfl rfl (l' := #[.val (.int p0), .val (.int (p0 &&& (3 : Int32))), .val (.ref b_M_FAILED), .val (.ref b_K_FAILED)]) rfl ?_
      show Steps p.tables e below (T53.setTop (mkF m 46 #[.val (.int p0), .val (.int (p0 &&& (3 : Int32))), .val (.ref b_M_FAILED), .val (.ref b_K_FAILED)] [])) _
      refine XS.goto X53.here hx rfl (pc0 := 46) (pc' := 57) rfl (hb hby at_46) (by decide) (by decide) ?_
      exact k
    · obtain ⟨T54, X54, e54, st54⟩ := getS X0 hx hZ (host := "") hown (hw _ (List.mem_of_getElem? (i := 33) rfl)) Via.refl e0 S_M_INTERRUPTED (g := (mkF m 49 #[.val (.int p0), .val (.int (p0 &&& (3 : Int32))), .unset, .unset] [])) rfl (hb hby at_49)
      obtain ⟨T55, X55, e55, st55⟩ := getS X54 hx hZ (host := "") hown (hw _ (List.mem_of_getElem? (i := 34) rfl)) Via.refl e54 S_K_INTERRUPTED (g := (mkF m 53 #[.val (.int p0), .val (.int (p0 &&& (3 : Int32))), .val (.ref b_M_INTERRUPTED), .unset] [])) rfl (hb hby at_53)
      refine ⟨T55, X55, e55, fun target k => ?_⟩
      show Steps p.tables e below (s₁.setTop (mkF m 5 #[.val (.int p0), .val (.int (p0 &&& (3 : Int32))), .unset, .unset] [(.int (p0 &&& (3 : Int32)))])) _
      refine XS.ifYes X0.here hx rfl (pc0 := 5) (pc' := 17) rfl (hb hby at_5) rfl ((if0 _ _).trans (feq (fun z => absurd (q.symm.trans z) (by decide))).2) (by decide) (by decide) ?_
      show Steps p.tables e below (s₁.setTop (mkF m 17 #[.val (.int p0), .val (.int (p0 &&& (3 : Int32))), .unset, .unset] [])) _
      refine XS.iloadN X0.here hx rfl (hb hby at_17) rfl ?_
      show Steps p.tables e below (s₁.setTop (mkF m 18 #[.val (.int p0), .val (.int (p0 &&& (3 : Int32))), .unset, .unset] [(.int (p0 &&& (3 : Int32)))])) _
      refine XS.iconst X0.here hx rfl (hb hby at_18) ?_
      show Steps p.tables e below (s₁.setTop (mkF m 19 #[.val (.int p0), .val (.int (p0 &&& (3 : Int32))), .unset, .unset] [(.int (1 : Int32)), (.int (p0 &&& (3 : Int32)))])) _
      refine XS.icmpYes X0.here hx rfl (pc0 := 19) (pc' := 33) rfl (hb hby at_19) rfl (feq (fun z => absurd (q.symm.trans z) (by decide))).2 (by decide) (by decide) ?_
      show Steps p.tables e below (s₁.setTop (mkF m 33 #[.val (.int p0), .val (.int (p0 &&& (3 : Int32))), .unset, .unset] [])) _
      refine XS.iloadN X0.here hx rfl (hb hby at_33) rfl ?_
      show Steps p.tables e below (s₁.setTop (mkF m 34 #[.val (.int p0), .val (.int (p0 &&& (3 : Int32))), .unset, .unset] [(.int (p0 &&& (3 : Int32)))])) _
      refine XS.iconst X0.here hx rfl (hb hby at_34) ?_
      show Steps p.tables e below (s₁.setTop (mkF m 35 #[.val (.int p0), .val (.int (p0 &&& (3 : Int32))), .unset, .unset] [(.int (2 : Int32)), (.int (p0 &&& (3 : Int32)))])) _
      refine XS.icmpYes X0.here hx rfl (pc0 := 35) (pc' := 49) rfl (hb hby at_35) rfl (feq (fun z => absurd (q.symm.trans z) (by decide))).2 (by decide) (by decide) ?_
      show Steps p.tables e below (s₁.setTop (mkF m 49 #[.val (.int p0), .val (.int (p0 &&& (3 : Int32))), .unset, .unset] [])) _
      refine st54 _ ?_
      show Steps p.tables e below (T54.setTop (mkF m 52 #[.val (.int p0), .val (.int (p0 &&& (3 : Int32))), .unset, .unset] [(.ref b_M_INTERRUPTED)])) _
      refine XS.astoreN X54.here hx rfl (hb hby at_52) rfl rfl (l' := #[.val (.int p0), .val (.int (p0 &&& (3 : Int32))), .val (.ref b_M_INTERRUPTED), .unset]) rfl ?_
      show Steps p.tables e below (T54.setTop (mkF m 53 #[.val (.int p0), .val (.int (p0 &&& (3 : Int32))), .val (.ref b_M_INTERRUPTED), .unset] [])) _
      refine st55 _ ?_
      show Steps p.tables e below (T55.setTop (mkF m 56 #[.val (.int p0), .val (.int (p0 &&& (3 : Int32))), .val (.ref b_M_INTERRUPTED), .unset] [(.ref b_K_INTERRUPTED)])) _
      refine XS.astoreN X55.here hx rfl (hb hby at_56) rfl rfl (l' := #[.val (.int p0), .val (.int (p0 &&& (3 : Int32))), .val (.ref b_M_INTERRUPTED), .val (.ref b_K_INTERRUPTED)]) rfl ?_
      exact k)
  obtain ⟨_, _, ⟨T56, L56, k56, n56⟩, -, X56, ⟨Lc56, hQ56, l56, y56, z56⟩, st56⟩ := Jvm.LawKit.callS X48 hx (y := (⟨"com/example/urashima/urashima/Problem$Kind", "of", "(Lcom/example/urashima/urashima/MigrationState;)Lcom/example/urashima/urashima/Problem$Kind;"⟩ : MethodName)) hown (mvT hZ (hw _ (List.mem_of_getElem? (i := 3) rfl))) (mvT hZ (hw _ (List.mem_of_getElem? (i := 4) rfl))) (mvT hZ (hw _ (List.mem_of_getElem? (i := 5) rfl))) (mvT hZ (hw _ (List.mem_of_getElem? (i := 6) rfl))) (by decide) (backOf (W := 0) (rm_of l Z a0 hw [] ob wv aV cV b_M_APPLIED b_K_PENDING b_K_EDITED b_K_MISSING b_K_OUT_OF_ORDER b_K_FAILED b_K_INTERRUPTED b_M_PENDING b_M_FAILED b_M_INTERRUPTED h0 n0 Z0 S_V A_V E_V FC_V L_V F_K_PENDING_state F_M_PENDING_ordinal F_M_APPLIED_ordinal F_K_EDITED_state F_K_MISSING_state F_K_OUT_OF_ORDER_state F_K_FAILED_state F_M_FAILED_ordinal F_K_INTERRUPTED_state F_M_INTERRUPTED_ordinal E_K_PENDING E_K_EDITED E_K_MISSING E_K_OUT_OF_ORDER E_K_FAILED E_K_INTERRUPTED hst) hZ (hw _ (List.mem_of_getElem? (i := 6) rfl)) (hw _ (List.mem_of_getElem? (i := 5) rfl)) (by decide) (by decide)) (g := (mkF m 58 #[.val (.int p0), .val (.int (p0 &&& (3 : Int32))), .val (.ref ob), .val wv] [(.ref ob)])) rfl (by rw [hml]; rfl) (argsL := [(.ref ob)]) (rest := []) (lenOf own_pd1 rfl) rfl (by show 2 * 0 + _ ≤ _; exact Nat.le_of_eq rfl) (hb hby at_58) (fun _ _ => ⟨rfl, e48, (by decide : 0 + 1 ≤ _), (by decide : 0 + 6 ≤ _)⟩)
  dsimp only [Pt.U, Pt.locs, Pt.cells, Pt.slots] at X56 l56 y56 z56 st56 hQ56
  subst l56 y56 z56
  obtain ⟨rfl, Nq56, xe56⟩ := hQ56
  have N56 := Fr.app N0 Nq56
  obtain ⟨fs, hr, hrun, hended, hW, hsame⟩ := X56.leave (v := some (.int (1 : Int32))) (fun h => by rw [Bd.returns] at h; cases h)
  refine ⟨_, _, pre0 _ ?_, hrun, hended, _, _, rfl, ?_, ⟨_, rfl⟩, hW, hsame.mono (by decide) (by decide)⟩
  · show Steps p.tables e below (s₁.setTop (mkF m 0 #[.val (.int p0), .unset, .unset, .unset] [])) _
    refine XS.iloadN X0.here hx rfl (hb hby at_0) rfl ?_
    show Steps p.tables e below (s₁.setTop (mkF m 1 #[.val (.int p0), .unset, .unset, .unset] [(.int p0)])) _
    refine XS.iconst X0.here hx rfl (hb hby at_1) ?_
    show Steps p.tables e below (s₁.setTop (mkF m 2 #[.val (.int p0), .unset, .unset, .unset] [(.int (3 : Int32)), (.int p0)])) _
    refine XS.iand X0.here hx rfl (hb hby at_2) rfl ?_
    show Steps p.tables e below (s₁.setTop (mkF m 3 #[.val (.int p0), .unset, .unset, .unset] [(.int (p0 &&& (3 : Int32)))])) _
    refine XS.istoreN X0.here hx rfl (hb hby at_3) rfl (l' := #[.val (.int p0), .val (.int (p0 &&& (3 : Int32))), .unset, .unset]) rfl ?_
    show Steps p.tables e below (s₁.setTop (mkF m 4 #[.val (.int p0), .val (.int (p0 &&& (3 : Int32))), .unset, .unset] [])) _
    refine XS.iloadN X0.here hx rfl (hb hby at_4) rfl ?_
    show Steps p.tables e below (s₁.setTop (mkF m 5 #[.val (.int p0), .val (.int (p0 &&& (3 : Int32))), .unset, .unset] [(.int (p0 &&& (3 : Int32)))])) _
    refine st48 _ ?_
    show Steps p.tables e below (T48.setTop (mkF m 57 #[.val (.int p0), .val (.int (p0 &&& (3 : Int32))), .val (.ref ob), .val wv] [])) _
    refine XS.aloadN X48.here hx rfl (hb hby at_57) rfl rfl ?_
    show Steps p.tables e below (T48.setTop (mkF m 58 #[.val (.int p0), .val (.int (p0 &&& (3 : Int32))), .val (.ref ob), .val wv] [(.ref ob)])) _
    refine st56 _ ?_
    show Steps p.tables e below (T56.setTop (mkF m 61 #[.val (.int p0), .val (.int (p0 &&& (3 : Int32))), .val (.ref ob), .val wv] [wv])) _
    refine XS.aloadN X56.here hx rfl (hb hby at_61) rfl hwr ?_
    show Steps p.tables e below (T56.setTop (mkF m 62 #[.val (.int p0), .val (.int (p0 &&& (3 : Int32))), .val (.ref ob), .val wv] [wv, wv])) _
    refine Jvm.RoadKit.acmp (g := (mkF m 62 #[.val (.int p0), .val (.int (p0 &&& (3 : Int32))), .val (.ref ob), .val wv] [wv, wv])) X56 hx rfl hwr hwr (pc0 := 62) (pc' := 65) (same := true) rfl (hb hby at_62) rfl (decide_eq_true rfl) (by decide) (by decide) ?_
    show Steps p.tables e below (T56.setTop (mkF m 65 #[.val (.int p0), .val (.int (p0 &&& (3 : Int32))), .val (.ref ob), .val wv] [])) _
    refine XS.iconst X56.here hx rfl (hb hby at_65) ?_
    show Steps p.tables e below (T56.setTop (mkF m 66 #[.val (.int p0), .val (.int (p0 &&& (3 : Int32))), .val (.ref ob), .val wv] [(.int (1 : Int32))])) _
    refine XS.goto X56.here hx rfl (pc0 := 66) (pc' := 70) rfl (hb hby at_66) (by decide) (by decide) ?_
    show Steps p.tables e below (T56.setTop (mkF m 70 #[.val (.int p0), .val (.int (p0 &&& (3 : Int32))), .val (.ref ob), .val wv] [(.int (1 : Int32))])) _
    exact own_retZ X56 hx rfl Bd.returns (hb hby at_70) hr
  · show rm_law_Q Z p0 aV cV b_M_APPLIED b_K_PENDING b_K_EDITED b_K_MISSING b_K_OUT_OF_ORDER b_K_FAILED b_K_INTERRUPTED b_M_PENDING b_M_FAILED b_M_INTERRUPTED h0 n0 _ T56.heap _
    exact ⟨rfl, N56⟩
set_option maxRecDepth 65536 in
set_option maxHeartbeats 40000000 in
theorem own_comes {Post : Tables → Env → Array Value → State → Outcome → State → Prop} (hpost : ∀ tb e args s v u, (limb_1_1.after args s (.returned v) u = true ∧ limb_1_2.after args s (.returned v) u = true ∧ True) → FrameEnd s (.returned v) u (Jvm.fieldLocs frame_1_writes args s ++ Jvm.arrayLocs frame_1_arrays args s ++ Jvm.staticLocs frame_1_statics s) 16 128 → Post tb e args s (.returned v) u) :
    ArmFor flags0 classFile x code maxLocals ret World_1 tables_1 room_1 Calls_1 rest_1 Pre_1 Post := by
  intro l hfl _ _ p e ha hc hk s m args below hf hA hF happ hP
  obtain ⟨hcalls, hrest, hpre⟩ := hP
  obtain ⟨-, -, -, hnamed, -, -, -, hat⟩ := (Spec.applies_iff hf).mp happ
  obtain ⟨hg, hn⟩ := and_e (Cond.before_iff.mp (show (Jvm.Cond.and given_1 narrow_1).before args s = true from hpre))
  obtain ⟨h1, h2⟩ := and_e hg
  obtain ⟨w0, rfl⟩ := own_arg1 h1
  have hw := fun d (hd : d ∈ tables_1) => atoms_spec (ws := Jvm.Cond.code x code maxLocals ret :: tables_1) hat d (List.mem_cons_of_mem _ hd)
  have hfit : Fit s := fun {y c} hc i hi => by
    obtain ⟨ha, rfl⟩ := Array.getElem?_eq_some_iff.mp hc
    have q := List.all_eq_true.mp ((Array.all_eq_true_iff_forall_mem.mp hF) _ (Array.getElem_mem ha)) i (List.mem_range.mpr hi)
    simpa [Array.getElem?_eq_getElem hi] using q
  have g0 := h2
  obtain ⟨i0, e0⟩ := is_v g0
  obtain rfl : w0 = (.int i0) := Option.some.inj e0
  obtain ⟨c0, hn⟩ := and_e hn
  obtain ⟨c1, hn⟩ := and_e hn
  obtain ⟨c2, hn⟩ := and_e hn
  obtain ⟨c3, hn⟩ := and_e hn
  obtain ⟨c4, hn⟩ := and_e hn
  obtain ⟨c5, hn⟩ := and_e hn
  obtain ⟨c6, hn⟩ := and_e hn
  obtain ⟨c7, hn⟩ := and_e hn
  obtain ⟨c8, hn⟩ := and_e hn
  obtain ⟨c9, hn⟩ := and_e hn
  obtain ⟨c10, hn⟩ := and_e hn
  obtain ⟨c11, hn⟩ := and_e hn
  obtain ⟨c12, hn⟩ := and_e hn
  obtain ⟨c13, hn⟩ := and_e hn
  obtain ⟨c14, hn⟩ := and_e hn
  obtain ⟨c15, hn⟩ := and_e hn
  obtain ⟨c16, hn⟩ := and_e hn
  obtain ⟨c17, hn⟩ := and_e hn
  obtain ⟨c18, hn⟩ := and_e hn
  obtain ⟨c19, hn⟩ := and_e hn
  obtain ⟨c20, hn⟩ := and_e hn
  obtain ⟨c21, hn⟩ := and_e hn
  obtain ⟨c22, hn⟩ := and_e hn
  obtain ⟨c23, hn⟩ := and_e hn
  obtain ⟨c24, hn⟩ := and_e hn
  obtain ⟨c25, hn⟩ := and_e hn
  obtain ⟨c26, hn⟩ := and_e hn
  obtain ⟨c27, hn⟩ := and_e hn
  have c28 := hn
  obtain ⟨b_M_APPLIED, ev_M_APPLIED⟩ := exa_v c0
  have S_M_APPLIED := Sta.start ev_M_APPLIED (Or.inr ⟨(hw _ (List.mem_of_getElem? (i := 1) rfl)), (hw _ (List.mem_of_getElem? (i := 2) rfl))⟩)
  have E_M_APPLIED := Exa.start ev_M_APPLIED c0
  obtain ⟨b_K_PENDING, ev_K_PENDING⟩ := exa_v c4
  have S_K_PENDING := Sta.start ev_K_PENDING (Or.inr ⟨(hw _ (List.mem_of_getElem? (i := 5) rfl)), (hw _ (List.mem_of_getElem? (i := 19) rfl))⟩)
  have E_K_PENDING := Exa.start ev_K_PENDING c4
  obtain ⟨b_K_EDITED, ev_K_EDITED⟩ := exa_v c6
  have S_K_EDITED := Sta.start ev_K_EDITED (Or.inr ⟨(hw _ (List.mem_of_getElem? (i := 5) rfl)), (hw _ (List.mem_of_getElem? (i := 20) rfl))⟩)
  have E_K_EDITED := Exa.start ev_K_EDITED c6
  obtain ⟨b_K_MISSING, ev_K_MISSING⟩ := exa_v c8
  have S_K_MISSING := Sta.start ev_K_MISSING (Or.inr ⟨(hw _ (List.mem_of_getElem? (i := 5) rfl)), (hw _ (List.mem_of_getElem? (i := 21) rfl))⟩)
  have E_K_MISSING := Exa.start ev_K_MISSING c8
  obtain ⟨b_K_OUT_OF_ORDER, ev_K_OUT_OF_ORDER⟩ := exa_v c10
  have S_K_OUT_OF_ORDER := Sta.start ev_K_OUT_OF_ORDER (Or.inr ⟨(hw _ (List.mem_of_getElem? (i := 5) rfl)), (hw _ (List.mem_of_getElem? (i := 22) rfl))⟩)
  have E_K_OUT_OF_ORDER := Exa.start ev_K_OUT_OF_ORDER c10
  obtain ⟨b_K_FAILED, ev_K_FAILED⟩ := exa_v c12
  have S_K_FAILED := Sta.start ev_K_FAILED (Or.inr ⟨(hw _ (List.mem_of_getElem? (i := 5) rfl)), (hw _ (List.mem_of_getElem? (i := 23) rfl))⟩)
  have E_K_FAILED := Exa.start ev_K_FAILED c12
  obtain ⟨b_K_INTERRUPTED, ev_K_INTERRUPTED⟩ := exa_v c14
  have S_K_INTERRUPTED := Sta.start ev_K_INTERRUPTED (Or.inr ⟨(hw _ (List.mem_of_getElem? (i := 5) rfl)), (hw _ (List.mem_of_getElem? (i := 24) rfl))⟩)
  have E_K_INTERRUPTED := Exa.start ev_K_INTERRUPTED c14
  obtain ⟨b_M_PENDING, ev_M_PENDING⟩ := exa_v c16
  have S_M_PENDING := Sta.start ev_M_PENDING (Or.inr ⟨(hw _ (List.mem_of_getElem? (i := 1) rfl)), (hw _ (List.mem_of_getElem? (i := 30) rfl))⟩)
  have E_M_PENDING := Exa.start ev_M_PENDING c16
  obtain ⟨b_M_FAILED, ev_M_FAILED⟩ := exa_v c23
  have S_M_FAILED := Sta.start ev_M_FAILED (Or.inr ⟨(hw _ (List.mem_of_getElem? (i := 1) rfl)), (hw _ (List.mem_of_getElem? (i := 31) rfl))⟩)
  have E_M_FAILED := Exa.start ev_M_FAILED c23
  obtain ⟨b_M_INTERRUPTED, ev_M_INTERRUPTED⟩ := exa_v c26
  have S_M_INTERRUPTED := Sta.start ev_M_INTERRUPTED (Or.inr ⟨(hw _ (List.mem_of_getElem? (i := 1) rfl)), (hw _ (List.mem_of_getElem? (i := 32) rfl))⟩)
  have E_M_INTERRUPTED := Exa.start ev_M_INTERRUPTED c26
  have F_K_PENDING_state := own_fR ev_M_PENDING ev_K_PENDING c17
  have F_M_PENDING_ordinal := own_fI ev_M_PENDING c18
  have F_M_APPLIED_ordinal := own_fI ev_M_APPLIED c19
  have F_K_EDITED_state := own_fN ev_K_EDITED c20
  have F_K_MISSING_state := own_fN ev_K_MISSING c21
  have F_K_OUT_OF_ORDER_state := own_fN ev_K_OUT_OF_ORDER c22
  have F_K_FAILED_state := own_fR ev_M_FAILED ev_K_FAILED c24
  have F_M_FAILED_ordinal := own_fI ev_M_FAILED c25
  have F_K_INTERRUPTED_state := own_fR ev_M_INTERRUPTED ev_K_INTERRUPTED c27
  have F_M_INTERRUPTED_ordinal := own_fI ev_M_INTERRUPTED c28
  obtain ⟨aV, ev_V⟩ := arr_v c1
  obtain ⟨cV, A_V⟩ := Arr.start ev_V c1
  have E_V := Exa.start ev_V c2
  have S_V := Sta.start ev_V (Or.inr ⟨(hw _ (List.mem_of_getElem? (i := 5) rfl)), (hw _ (List.mem_of_getElem? (i := 11) rfl))⟩)
  have FC_V := FitC.start hfit A_V
  have L_V : cV.slots.toList = [.ref b_K_PENDING, .ref b_K_EDITED, .ref b_K_MISSING, .ref b_K_OUT_OF_ORDER, .ref b_K_FAILED, .ref b_K_INTERRUPTED] := own_list6 (own_slen (by decide) c3 ev_V A_V.1) (own_selem ev_K_PENDING ev_V A_V.1 c5) (own_selem ev_K_EDITED ev_V A_V.1 c7) (own_selem ev_K_MISSING ev_V A_V.1 c9) (own_selem ev_K_OUT_OF_ORDER ev_V A_V.1 c11) (own_selem ev_K_FAILED ev_V A_V.1 c13) (own_selem ev_K_INTERRUPTED ev_V A_V.1 c15)
  obtain ⟨n, o, h1, h2, h3, _, L, rfl, ⟨rfl, N⟩, hq⟩ := rm_law l s _ hw tables_1 i0 aV cV b_M_APPLIED b_K_PENDING b_K_EDITED b_K_MISSING b_K_OUT_OF_ORDER b_K_FAILED b_K_INTERRUPTED b_M_PENDING b_M_FAILED b_M_INTERRUPTED s.heap s.heap.size (Nat.le_refl _) S_V A_V E_V FC_V L_V S_M_APPLIED E_M_APPLIED S_K_PENDING E_K_PENDING S_K_EDITED E_K_EDITED S_K_MISSING E_K_MISSING S_K_OUT_OF_ORDER E_K_OUT_OF_ORDER S_K_FAILED E_K_FAILED S_K_INTERRUPTED E_K_INTERRUPTED S_M_PENDING E_M_PENDING S_M_FAILED E_M_FAILED S_M_INTERRUPTED E_M_INTERRUPTED F_K_PENDING_state F_M_PENDING_ordinal F_M_APPLIED_ordinal F_K_EDITED_state F_K_MISSING_state F_K_OUT_OF_ORDER_state F_K_FAILED_state F_M_FAILED_ordinal F_K_INTERRUPTED_state F_M_INTERRUPTED_ordinal p e ha hc hk s m _ below hf ((Spec.applies_iff_loose hf).mp happ).1 ⟨rfl, State.Warmed39.refl s, rfl⟩ trivial
  exact ⟨n, _, h1, h2, h3, hpost _ _ _ _ _ _ ⟨Cond.after_iff.mpr rfl, Cond.after_iff.mpr (eq_i res_at (Term.int_eval (1)) rfl), trivial⟩ ⟨hq.1, hq.2.1, (hq.2.2.sift fun y hy => Or.inr (N y hy)).mono (by decide) (by decide)⟩⟩
theorem main_1_1 : Claimed_1_1 := own_comes fun _ _ _ _ _ _ h hF => ⟨h.1, hF⟩
theorem main_1_2 : Claimed_1_2 := own_comes fun _ _ _ _ _ _ h hF => ⟨h.2.1, hF⟩
end Jvm.Pilot.@@N@@
namespace Jvm.Pilot.@@N@@
open Jvm Jvm.ClassFile Sem Op Lib Jvm.Free Jvm.Stand Jvm.Pilot.@@N@@.Jvm.D
/-! MADE BY PROGRAM (witnessworld.py) out of the Statement's table words and the real class files: 14 classes; the members and pool entries that the words name. The judged class is class 1, her method 1. -/
namespace start1
open Jvm.ClassFile
def u (s : String) : CpInfo := .utf8 (stringToUtf16 s)
/-- a pool by its gaps: so many unusable entries, then the entry; so many at the end -/
def gap : Nat → List CpInfo → List CpInfo
  | 0, r => r
  | n + 1, r => .unusable :: gap n r
def poolList (es : List (Nat × CpInfo)) (last : Nat) : List CpInfo := es.foldr (fun e r => gap e.1 (e.2 :: r)) (gap last [])
def pool (es : List (Nat × CpInfo)) (last : Nat) : Array CpInfo := ⟨poolList es last⟩
def fileOf (pool : Array CpInfo) (this : Nat) (attrs : Array Attribute := #[]) (ms : Array MethodInfo := #[]) (fl : Nat := 33) (sup : Nat := 0) (ifs : Array Nat := #[]) (fds : Array FieldInfo := #[]) : ClassFile where
  minorVersion := 0
  majorVersion := 65
  constantPool := pool
  accessFlags := fl
  thisClass := this
  superClass := sup
  interfaces := ifs
  fields := fds
  methods := ms
  attributes := attrs
def plain (name : String) (sup : Option ClassId) : Class where
  name := name
  kind := .ordinary
  loader := none
  accessFlags := 33
  super := sup
  interfaces := #[]
  cf := none
  fields := #[]
  methods := #[]
  instanceTypes := #[]
  staticTypes := #[]
  resolved := #[]
  callSites := []
  init := .initialized
  statics := none
  mirror := none

def pool0 : Array CpInfo := pool [(5, u "<init>"), (0, u "()V"), (1, .class_ 10), (1, u "java/lang/Object"), (85, u "clone"), (0, u "()Ljava/lang/Object;")] 26

def k0m0 : Method := { name := "<init>", desc := "()V", sig := { parameters := [], returnType := none }, accessFlags := 1, code := none }
def k0m1 : Method := { name := "clone", desc := "()Ljava/lang/Object;", sig := { parameters := [], returnType := some (.object "java/lang/Object") }, accessFlags := 260, code := none }
/-- java/lang/Object -/
def k0 : Class := { plain "java/lang/Object" none with
  accessFlags := 33
  interfaces := #[]
  cf := some (fileOf pool0 8 #[] #[{ accessFlags := 1, nameIndex := 5, descriptorIndex := 6, attributes := #[] }, { accessFlags := 260, nameIndex := 96, descriptorIndex := 97, attributes := #[] }] 33 0 #[] #[])
  fields := #[]
  methods := #[k0m0, k0m1]
  instanceTypes := #[]
  staticTypes := #[]
  resolved := Array.replicate 124 none
  statics := none }

def pool1 : Array CpInfo := pool [(2, .class_ 4), (1, u "java/lang/Object"), (0, u "<init>"), (0, u "()V"), (0, .fieldref 8 9), (0, .class_ 10), (0, .nameAndType 11 12), (0, u "com/example/urashima/urashima/MigrationState"), (0, u "APPLIED"), (0, u "Lcom/example/urashima/urashima/MigrationState;"), (0, .fieldref 8 14), (0, .nameAndType 15 12), (0, u "PENDING"), (0, .fieldref 17 18), (0, .class_ 19), (0, .nameAndType 15 20), (0, u "com/example/urashima/urashima/Problem$Kind"), (0, u "Lcom/example/urashima/urashima/Problem$Kind;"), (0, .fieldref 8 22), (0, .nameAndType 23 12), (0, u "FAILED"), (0, .fieldref 17 25), (0, .nameAndType 23 20), (0, .fieldref 8 27), (0, .nameAndType 28 12), (0, u "INTERRUPTED"), (0, .fieldref 17 30), (0, .nameAndType 28 20), (0, .methodref 17 32), (0, .nameAndType 33 34), (0, u "of"), (0, u "(Lcom/example/urashima/urashima/MigrationState;)Lcom/example/urashima/urashima/Problem$Kind;"), (0, .class_ 36), (0, u "com/example/urashima/urashima/KindOfPinLaw"), (2, u "law"), (0, u "(I)Z")] 7

def k1m0 : Method := { name := "<init>", desc := "()V", sig := { parameters := [], returnType := none }, accessFlags := 2, code := none }
def k1c1 : Code := { maxStack := 2, maxLocals := 4, code := code, exceptionTable := #[], attributes := #[] }
def k1m1 : Method := { name := "law", desc := "(I)Z", sig := { parameters := [.int], returnType := some .boolean }, accessFlags := 9, code := some k1c1 }
/-- com/example/urashima/urashima/KindOfPinLaw -/
def k1 : Class := { plain "com/example/urashima/urashima/KindOfPinLaw" (some 0) with
  accessFlags := 49
  interfaces := #[]
  cf := some (fileOf pool1 35 #[] #[{ accessFlags := 2, nameIndex := 5, descriptorIndex := 6, attributes := #[] }, { accessFlags := 9, nameIndex := 39, descriptorIndex := 40, attributes := #[] }] 49 2 #[] #[])
  fields := #[]
  methods := #[k1m0, k1m1]
  instanceTypes := #[]
  staticTypes := #[]
  resolved := Array.replicate 48 none
  statics := none }

def pool2 : Array CpInfo := pool [(1, .class_ 2), (0, u "java/lang/constant/Constable"), (0, .class_ 4), (0, u "java/lang/Object")] 6

/-- java/lang/constant/Constable -/
def k2 : Class := { plain "java/lang/constant/Constable" (some 0) with
  accessFlags := 1537
  interfaces := #[]
  cf := some (fileOf pool2 1 #[] #[] 1537 3 #[] #[])
  fields := #[]
  methods := #[]
  instanceTypes := #[]
  staticTypes := #[]
  resolved := Array.replicate 11 none
  statics := none }

def pool3 : Array CpInfo := pool [(1, .class_ 2), (0, u "java/lang/Comparable"), (0, .class_ 4), (0, u "java/lang/Object")] 7

/-- java/lang/Comparable -/
def k3 : Class := { plain "java/lang/Comparable" (some 0) with
  accessFlags := 1537
  interfaces := #[]
  cf := some (fileOf pool3 1 #[] #[] 1537 3 #[] #[])
  fields := #[]
  methods := #[]
  instanceTypes := #[]
  staticTypes := #[]
  resolved := Array.replicate 12 none
  statics := none }

def pool4 : Array CpInfo := pool [(1, .class_ 2), (0, u "java/io/Serializable"), (0, .class_ 4), (0, u "java/lang/Object")] 2

/-- java/io/Serializable -/
def k4 : Class := { plain "java/io/Serializable" (some 0) with
  accessFlags := 1537
  interfaces := #[]
  cf := some (fileOf pool4 1 #[] #[] 1537 3 #[] #[])
  fields := #[]
  methods := #[]
  instanceTypes := #[]
  staticTypes := #[]
  resolved := Array.replicate 7 none
  statics := none }

def pool5 : Array CpInfo := pool [(2, .class_ 4), (1, u "java/lang/Enum"), (0, u "name"), (0, u "Ljava/lang/String;"), (2, u "ordinal"), (0, u "I"), (1, .class_ 14), (1, u "java/lang/Object"), (4, u "hash"), (86, .class_ 108), (1, u "java/lang/Enum$EnumDesc"), (2, .class_ 112), (0, u "java/lang/constant/Constable"), (0, .class_ 114), (0, u "java/lang/Comparable"), (0, .class_ 116), (0, u "java/io/Serializable")] 87

/-- java/lang/Enum -/
def k5 : Class := { plain "java/lang/Enum" (some 0) with
  accessFlags := 1057
  interfaces := #[2, 3, 4]
  cf := some (fileOf pool5 2 #[.nestMembers #[106]] #[] 1057 12 #[111, 113, 115] #[{ accessFlags := 18, nameIndex := 5, descriptorIndex := 6, attributes := #[] }, { accessFlags := 18, nameIndex := 9, descriptorIndex := 10, attributes := #[] }, { accessFlags := 2, nameIndex := 19, descriptorIndex := 10, attributes := #[] }])
  fields := #[{ name := "name", type := (.object "java/lang/String"), accessFlags := 18, slot := 0, constantValue := 0 }, { name := "ordinal", type := .int, accessFlags := 18, slot := 1, constantValue := 0 }, { name := "hash", type := .int, accessFlags := 2, slot := 2, constantValue := 0 }]
  methods := #[]
  instanceTypes := #[(.object "java/lang/String"), .int, .int]
  staticTypes := #[]
  resolved := Array.replicate 204 none
  statics := none }

def pool6 : Array CpInfo := pool [(1, .class_ 2), (0, u "com/example/urashima/urashima/MigrationState"), (2, u "APPLIED"), (0, u "Lcom/example/urashima/urashima/MigrationState;"), (2, u "PENDING"), (2, u "FAILED"), (2, u "INTERRUPTED"), (2, u "$VALUES"), (0, u "[Lcom/example/urashima/urashima/MigrationState;"), (6, .class_ 28), (1, u "java/lang/Enum"), (8, u "label"), (0, u "Ljava/lang/String;"), (2, u "recorded")] 69

/-- com/example/urashima/urashima/MigrationState -/
def k6 : Class := { plain "com/example/urashima/urashima/MigrationState" (some 5) with
  accessFlags := 16432
  interfaces := #[]
  cf := some (fileOf pool6 1 #[] #[] 16432 26 #[] #[{ accessFlags := 16409, nameIndex := 5, descriptorIndex := 6, attributes := #[] }, { accessFlags := 16409, nameIndex := 9, descriptorIndex := 6, attributes := #[] }, { accessFlags := 16409, nameIndex := 12, descriptorIndex := 6, attributes := #[] }, { accessFlags := 16409, nameIndex := 15, descriptorIndex := 6, attributes := #[] }, { accessFlags := 18, nameIndex := 37, descriptorIndex := 38, attributes := #[] }, { accessFlags := 18, nameIndex := 41, descriptorIndex := 38, attributes := #[] }, { accessFlags := 4122, nameIndex := 18, descriptorIndex := 19, attributes := #[] }])
  fields := #[{ name := "APPLIED", type := (.object "com/example/urashima/urashima/MigrationState"), accessFlags := 16409, slot := 0, constantValue := 0 }, { name := "PENDING", type := (.object "com/example/urashima/urashima/MigrationState"), accessFlags := 16409, slot := 1, constantValue := 0 }, { name := "FAILED", type := (.object "com/example/urashima/urashima/MigrationState"), accessFlags := 16409, slot := 2, constantValue := 0 }, { name := "INTERRUPTED", type := (.object "com/example/urashima/urashima/MigrationState"), accessFlags := 16409, slot := 3, constantValue := 0 }, { name := "label", type := (.object "java/lang/String"), accessFlags := 18, slot := 3, constantValue := 0 }, { name := "recorded", type := (.object "java/lang/String"), accessFlags := 18, slot := 4, constantValue := 0 }, { name := "$VALUES", type := (.array (.object "com/example/urashima/urashima/MigrationState")), accessFlags := 4122, slot := 4, constantValue := 0 }]
  methods := #[]
  instanceTypes := #[(.object "java/lang/String"), .int, .int, (.object "java/lang/String"), (.object "java/lang/String")]
  staticTypes := #[(.object "com/example/urashima/urashima/MigrationState"), (.object "com/example/urashima/urashima/MigrationState"), (.object "com/example/urashima/urashima/MigrationState"), (.object "com/example/urashima/urashima/MigrationState"), (.array (.object "com/example/urashima/urashima/MigrationState"))]
  resolved := Array.replicate 111 none
  statics := some 0 }

def pool7 : Array CpInfo := pool [(1, .class_ 2), (0, u "com/example/urashima/urashima/Problem$Kind"), (2, u "PENDING"), (0, u "Lcom/example/urashima/urashima/Problem$Kind;"), (2, u "EDITED"), (2, u "MISSING"), (2, u "OUT_OF_ORDER"), (2, u "FAILED"), (2, u "INTERRUPTED"), (0, .fieldref 1 23), (0, .nameAndType 24 25), (0, u "$VALUES"), (0, u "[Lcom/example/urashima/urashima/Problem$Kind;"), (0, .methodref 27 28), (0, .class_ 25), (0, .nameAndType 29 30), (0, u "clone"), (0, u "()Ljava/lang/Object;"), (1, .class_ 34), (1, u "java/lang/Enum"), (8, u "word"), (0, u "Ljava/lang/String;"), (0, .fieldref 1 46), (0, .nameAndType 47 48), (0, u "state"), (0, u "Lcom/example/urashima/urashima/MigrationState;"), (6, .methodref 1 56), (0, .nameAndType 57 58), (0, u "values"), (0, u "()[Lcom/example/urashima/urashima/Problem$Kind;"), (34, u "of"), (0, u "(Lcom/example/urashima/urashima/MigrationState;)Lcom/example/urashima/urashima/Problem$Kind;"), (7, .class_ 103), (0, u "com/example/urashima/urashima/Problem")] 2

def k7c0 : Code := { maxStack := 1, maxLocals := 0, code := prog_35_method_1_code, exceptionTable := #[], attributes := #[] }
def k7m0 : Method := { name := "values", desc := "()[Lcom/example/urashima/urashima/Problem$Kind;", sig := { parameters := [], returnType := some (.array (.object "com/example/urashima/urashima/Problem$Kind")) }, accessFlags := 9, code := some k7c0 }
def k7c1 : Code := { maxStack := 2, maxLocals := 5, code := prog_35_method_5_code, exceptionTable := #[], attributes := #[] }
def k7m1 : Method := { name := "of", desc := "(Lcom/example/urashima/urashima/MigrationState;)Lcom/example/urashima/urashima/Problem$Kind;", sig := { parameters := [(.object "com/example/urashima/urashima/MigrationState")], returnType := some (.object "com/example/urashima/urashima/Problem$Kind") }, accessFlags := 8, code := some k7c1 }
/-- com/example/urashima/urashima/Problem$Kind -/
def k7 : Class := { plain "com/example/urashima/urashima/Problem$Kind" (some 5) with
  accessFlags := 16432
  interfaces := #[]
  cf := some (fileOf pool7 1 #[.nestHost 102] #[{ accessFlags := 9, nameIndex := 57, descriptorIndex := 58, attributes := #[] }, { accessFlags := 8, nameIndex := 93, descriptorIndex := 94, attributes := #[] }] 16432 32 #[] #[{ accessFlags := 16409, nameIndex := 5, descriptorIndex := 6, attributes := #[] }, { accessFlags := 16409, nameIndex := 9, descriptorIndex := 6, attributes := #[] }, { accessFlags := 16409, nameIndex := 12, descriptorIndex := 6, attributes := #[] }, { accessFlags := 16409, nameIndex := 15, descriptorIndex := 6, attributes := #[] }, { accessFlags := 16409, nameIndex := 18, descriptorIndex := 6, attributes := #[] }, { accessFlags := 16409, nameIndex := 21, descriptorIndex := 6, attributes := #[] }, { accessFlags := 18, nameIndex := 43, descriptorIndex := 44, attributes := #[] }, { accessFlags := 18, nameIndex := 47, descriptorIndex := 48, attributes := #[] }, { accessFlags := 4122, nameIndex := 24, descriptorIndex := 25, attributes := #[] }])
  fields := #[{ name := "PENDING", type := (.object "com/example/urashima/urashima/Problem$Kind"), accessFlags := 16409, slot := 0, constantValue := 0 }, { name := "EDITED", type := (.object "com/example/urashima/urashima/Problem$Kind"), accessFlags := 16409, slot := 1, constantValue := 0 }, { name := "MISSING", type := (.object "com/example/urashima/urashima/Problem$Kind"), accessFlags := 16409, slot := 2, constantValue := 0 }, { name := "OUT_OF_ORDER", type := (.object "com/example/urashima/urashima/Problem$Kind"), accessFlags := 16409, slot := 3, constantValue := 0 }, { name := "FAILED", type := (.object "com/example/urashima/urashima/Problem$Kind"), accessFlags := 16409, slot := 4, constantValue := 0 }, { name := "INTERRUPTED", type := (.object "com/example/urashima/urashima/Problem$Kind"), accessFlags := 16409, slot := 5, constantValue := 0 }, { name := "word", type := (.object "java/lang/String"), accessFlags := 18, slot := 3, constantValue := 0 }, { name := "state", type := (.object "com/example/urashima/urashima/MigrationState"), accessFlags := 18, slot := 4, constantValue := 0 }, { name := "$VALUES", type := (.array (.object "com/example/urashima/urashima/Problem$Kind")), accessFlags := 4122, slot := 6, constantValue := 0 }]
  methods := #[k7m0, k7m1]
  instanceTypes := #[(.object "java/lang/String"), .int, .int, (.object "java/lang/String"), (.object "com/example/urashima/urashima/MigrationState")]
  staticTypes := #[(.object "com/example/urashima/urashima/Problem$Kind"), (.object "com/example/urashima/urashima/Problem$Kind"), (.object "com/example/urashima/urashima/Problem$Kind"), (.object "com/example/urashima/urashima/Problem$Kind"), (.object "com/example/urashima/urashima/Problem$Kind"), (.object "com/example/urashima/urashima/Problem$Kind"), (.array (.object "com/example/urashima/urashima/Problem$Kind"))]
  resolved := Array.replicate 106 none
  statics := some 1 }

def pool8 : Array CpInfo := pool [(1, .class_ 2), (0, u "java/lang/Cloneable"), (0, .class_ 4), (0, u "java/lang/Object")] 2

/-- java/lang/Cloneable -/
def k8 : Class := { plain "java/lang/Cloneable" (some 0) with
  accessFlags := 1537
  interfaces := #[]
  cf := some (fileOf pool8 1 #[] #[] 1537 3 #[] #[])
  fields := #[]
  methods := #[]
  instanceTypes := #[]
  staticTypes := #[]
  resolved := Array.replicate 7 none
  statics := none }

/-- the primitive byte -/
def k9 : Class := { plain "byte" none with kind := .primitive 'B', accessFlags := 0x411 }
/-- [B -/
def k10 : Class := { plain "[B" (some 0) with kind := .array 9 .byte, interfaces := #[8, 4], accessFlags := 1041 }

/-- the primitive int -/
def k11 : Class := { plain "int" none with kind := .primitive 'I', accessFlags := 0x411 }
/-- [I -/
def k12 : Class := { plain "[I" (some 0) with kind := .array 11 .int, interfaces := #[8, 4], accessFlags := 1041 }

/-- [Lcom/example/urashima/urashima/Problem$Kind; -/
def k13 : Class := { plain "[Lcom/example/urashima/urashima/Problem$Kind;" (some 0) with kind := .array 7 (.object "com/example/urashima/urashima/Problem$Kind"), interfaces := #[8, 4], accessFlags := 1041 }

def heap : Heap := #[{ cls := 6, slots := #[.ref 3, .ref 10, .ref 11, .ref 12, .null], vm := .statics 6 },
  { cls := 7, slots := #[.ref 4, .ref 5, .ref 6, .ref 7, .ref 8, .ref 9, .ref 2], vm := .statics 7 },
  { cls := 13, slots := #[.ref 4, .ref 5, .ref 6, .ref 7, .ref 8, .ref 9], vm := .none },
  { cls := 6, slots := #[.null, .int 0, .int 0, .null, .null], vm := .none },
  { cls := 7, slots := #[.null, .int 0, .int 0, .null, .ref 10], vm := .none },
  { cls := 7, slots := #[.null, .int 0, .int 0, .null, .null], vm := .none },
  { cls := 7, slots := #[.null, .int 0, .int 0, .null, .null], vm := .none },
  { cls := 7, slots := #[.null, .int 0, .int 0, .null, .null], vm := .none },
  { cls := 7, slots := #[.null, .int 0, .int 0, .null, .ref 11], vm := .none },
  { cls := 7, slots := #[.null, .int 0, .int 0, .null, .ref 12], vm := .none },
  { cls := 6, slots := #[.null, .int 1, .int 0, .null, .null], vm := .none },
  { cls := 6, slots := #[.null, .int 2, .int 0, .null, .null], vm := .none },
  { cls := 6, slots := #[.null, .int 3, .int 0, .null, .null], vm := .none }]
def classes : Array Class := #[k0, k1, k2, k3, k4, k5, k6, k7, k8, k9, k10, k11, k12, k13]
def interned : List (Array UInt16 × Addr) := []
def slotsUsed : Nat := 68
def theMethod : MethodId := ⟨1, 1⟩
def args0 : Array Value := #[.int 5]
def aboutOver (below : List Frame) : State where
  vm := { classes := classes, interned := interned.toArray }
  heap := heap
  slotsUsed := slotsUsed
  threads := #[{ frames := .invoking theMethod args0 :: below }]
def below0 : List Frame := [.native { method := ⟨0, 0⟩, args := #[] }]
def about1 : State := aboutOver below0
def p0 : Program := .bare "" "" ""
def e0 : Env := launch0.env 0 0 0
theorem w_frames : about1.frames = Frame.invoking theMethod args0 :: below0 := rfl
set_option maxRecDepth 65536 in
theorem w_args : argsFit about1.vm theMethod args0 = true := by decide +kernel
set_option maxRecDepth 65536 in
theorem w_heap : heapFits about1 = true := by decide +kernel
set_option maxRecDepth 65536 in
theorem w_runnable : about1.curStatus? = some .runnable := by decide +kernel
set_option maxRecDepth 65536 in
theorem w_alone : about1.alone = true := by decide +kernel
set_option maxRecDepth 65536 in
theorem w_named : about1.methodNamed? x = some theMethod := by decide +kernel
set_option maxRecDepth 65536 in
theorem w_hears : about1.hears theMethod below0 = true := by decide +kernel
set_option maxRecDepth 65536 in
theorem w_ripe : about1.ripe theMethod args0 below0 = true := by decide +kernel
theorem w_running : about1.status = .running := rfl
set_option maxRecDepth 65536 in
theorem w_room : about1.hasRoom e0.platform room_1 = true :=
  launch0.hasRoom_least _ room_1 (by decide +kernel) (by decide +kernel) (by decide +kernel) (by decide +kernel) (by decide +kernel) (by decide +kernel)
theorem allAtoms_all (ts : List Jvm.Cond) (a : Array Jvm.Value) (st : Jvm.State) : (allAtoms ts).before a st = ts.all (fun c => c.before a st) := by
  induction ts with
  | nil => rfl
  | cons c t ih =>
    show (Jvm.Cond.and c (allAtoms t)).before a st = _
    rw [Jvm.Cond.before_and, ih, List.all_cons]
def words1 : List Jvm.Cond := Jvm.Cond.code x code maxLocals ret :: tables_1
/-- a 'code' word, met by the world's own term for the bytes: nothing is compared byte by byte -/
theorem code_word {y : MethodName} {bytes : ByteArray} {mx : Nat} {rt : Option FieldType} {a : Array Value} {s : State} {m : MethodId} {meth : Method} {c : Code} (h1 : s.methodNamed? y = some m) (h2 : s.vm.method? m = some meth) (h3 : meth.code = some c) (h4 : c.code = bytes)
    (h5 : (c.maxLocals == mx && c.exceptionTable.isEmpty && decide (c.maxStack ≤ mostOperands) && decide (meth.sig.returnType = rt) && !meth.locks && decide (parseMethodDescriptor y.desc = some meth.sig)) = true) : (Jvm.Cond.code y bytes mx rt).before a s = true := by
  simp only [Bool.and_eq_true, beq_iff_eq, Bool.not_eq_true', decide_eq_true_eq] at h5
  obtain ⟨⟨⟨⟨⟨g1, g2⟩, g3⟩, g4⟩, g5⟩, g6⟩ := h5
  simp [Cond.before, Cond.holds, Cond.value, h1, h2, h3, h4, g1, g2, g3, g4, g5, g6]
def isCode : Jvm.Cond → Bool
  | .code _ _ _ _ => true
  | _ => false
theorem all_split {L : List Jvm.Cond} {P : Jvm.Cond → Bool} (h1 : L.all (fun c => isCode c || P c) = true) (h2 : ∀ c ∈ L.filter isCode, P c = true) : L.all P = true := by
  refine List.all_eq_true.mpr fun c hc => ?_
  have h := List.all_eq_true.mp h1 c hc
  rcases Bool.eq_false_or_eq_true (isCode c) with hi | hi
  · exact h2 c (List.mem_filter.mpr ⟨hc, hi⟩)
  · simpa [hi] using h
set_option maxRecDepth 65536 in
theorem w_c0 : (Jvm.Cond.code x code maxLocals ret).before args0 about1 = true := code_word (m := ⟨1, 1⟩) (meth := k1m1) (c := k1c1) (by decide +kernel) rfl rfl rfl (by decide +kernel)
set_option maxRecDepth 65536 in
theorem w_c1 : (Jvm.Cond.code ({ cls := "com/example/urashima/urashima/Problem$Kind", name := "of", desc := "(Lcom/example/urashima/urashima/MigrationState;)Lcom/example/urashima/urashima/Problem$Kind;" } : Jvm.MethodName) prog_35_method_5_code (5 : Nat) (Option.some (Jvm.ClassFile.FieldType.object "com/example/urashima/urashima/Problem$Kind"))).before args0 about1 = true := code_word (m := ⟨7, 1⟩) (meth := k7m1) (c := k7c1) (by decide +kernel) rfl rfl rfl (by decide +kernel)
set_option maxRecDepth 65536 in
theorem w_c2 : (Jvm.Cond.code ({ cls := "com/example/urashima/urashima/Problem$Kind", name := "values", desc := "()[Lcom/example/urashima/urashima/Problem$Kind;" } : Jvm.MethodName) prog_35_method_1_code (0 : Nat) (Option.some (Jvm.ClassFile.FieldType.array (Jvm.ClassFile.FieldType.object "com/example/urashima/urashima/Problem$Kind")))).before args0 about1 = true := code_word (m := ⟨7, 0⟩) (meth := k7m0) (c := k7c0) (by decide +kernel) rfl rfl rfl (by decide +kernel)
def codes1 : List Jvm.Cond := [Jvm.Cond.code x code maxLocals ret, Jvm.Cond.code ({ cls := "com/example/urashima/urashima/Problem$Kind", name := "of", desc := "(Lcom/example/urashima/urashima/MigrationState;)Lcom/example/urashima/urashima/Problem$Kind;" } : Jvm.MethodName) prog_35_method_5_code (5 : Nat) (Option.some (Jvm.ClassFile.FieldType.object "com/example/urashima/urashima/Problem$Kind")), Jvm.Cond.code ({ cls := "com/example/urashima/urashima/Problem$Kind", name := "values", desc := "()[Lcom/example/urashima/urashima/Problem$Kind;" } : Jvm.MethodName) prog_35_method_1_code (0 : Nat) (Option.some (Jvm.ClassFile.FieldType.array (Jvm.ClassFile.FieldType.object "com/example/urashima/urashima/Problem$Kind")))]
set_option maxRecDepth 65536 in
theorem codes_eq : words1.filter isCode = codes1 := rfl
theorem w_codes : ∀ c ∈ words1.filter isCode, c.before args0 about1 = true := by
  rw [codes_eq]
  intro c hc
  simp only [codes1, List.mem_cons, List.not_mem_nil, or_false] at hc
  rcases hc with rfl | rfl | rfl
  · exact w_c0
  · exact w_c1
  · exact w_c2
set_option maxRecDepth 65536 in
theorem w_t1 : (words1.take 24).all (fun c => isCode c || c.before args0 about1) = true := by decide +kernel
set_option maxRecDepth 65536 in
theorem w_t2 : (words1.drop 24).all (fun c => isCode c || c.before args0 about1) = true := by decide +kernel
theorem w_tables : (allAtoms (Jvm.Cond.code x code maxLocals ret :: tables_1)).before args0 about1 = true := by
  rw [allAtoms_all]
  show words1.all (fun c => c.before args0 about1) = true
  refine all_split ?_ w_codes
  rw [← List.take_append_drop 24 words1, List.all_append, w_t1, w_t2]
  rfl
set_option maxRecDepth 65536 in
theorem w_case : (Jvm.Cond.and given_1 narrow_1).before args0 about1 = true := by decide +kernel
theorem w_applies : (headSpec (Jvm.Cond.code x code maxLocals ret :: tables_1) room_1).applies x e0.platform about1 = true :=
  (Spec.applies_iff w_frames).mpr ⟨w_running, w_runnable, w_alone, w_named, w_hears, w_ripe, w_room, w_tables⟩
theorem atStart : AtStart classFile x code maxLocals ret World_1 tables_1 room_1 Calls_1 rest_1 Pre_1 launch0 p0 e0 about1 theMethod args0 below0 :=
  ⟨lists_1, trivial, launch0.admits_env _ _ _, launch0.least_env, fairChoices_fair.cas, fairChoices_fair.clock, w_frames, w_args, w_heap, w_applies, trivial, trivial, w_case⟩
end start1
theorem witness_1 : WitnessClaimed_1 := ⟨start1.p0, start1.e0, start1.about1, start1.theMethod, start1.args0, start1.below0, start1.atStart⟩
end Jvm.Pilot.@@N@@
