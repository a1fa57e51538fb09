import JvmDerived
import JvmDerived.Pilot.@@N@@Statement
import JvmDerived.Pilot.@@N@@Code
set_option linter.unusedVariables false
set_option linter.unusedSimpArgs false
namespace Jvm.Pilot.@@N@@
open Jvm Jvm.ClassFile Sem Op Lib Jvm.Free Jvm.Stand Jvm.LawKit Jvm.RoadKit Bundle Jvm.Pilot.@@N@@.Jvm.D
section OwnKit
variable {p : Program} {l : Launch} {e : Env} {R : Room} {s : State} {m : MethodId} {args : Array Value} {below : List Frame} {meth : Method} {c : Code} {T : State} {locs : List Loc} {cells slots : Nat} {Z : State} {a0 : Array Value} {h h' h0 : Heap} {a b : Addr} {sl : Nat} {v w : Value} {C n d : String}
theorem own_retZ (X : Stand p l e R s m args below meth c T locs cells slots) (hx : p.tables.exec = Jvm.exec) {pc : Nat} {Ls : Array Slot} {z : Int32} {rest : List Value} (hz : nar .boolean z = z) (hret : meth.sig.returnType = some .boolean) (hd : decode c.code pc = .ok (.ireturn, 1)) {fs : List Frame}
    (hl : ∀ (f : JFrame) (acts : List Action), f.method = m → f.locked = none → f.entered = [] → (doReturn e (T.setTop f) acts (some (.int z))).1 = T.setFrames fs) : Steps p.tables e below (T.setTop (mkF m pc Ls (.int z :: rest))) (T.setFrames fs) :=
  retN X hx hret (Or.inl rfl) hd (by rw [hz]; exact hl)
theorem own_retI (X : Stand p l e R s m args below meth c T locs cells slots) (hx : p.tables.exec = Jvm.exec) {pc : Nat} {Ls : Array Slot} {z : Int32} {rest : List Value} (hret : meth.sig.returnType = some .int) (hd : decode c.code pc = .ok (.ireturn, 1)) {fs : List Frame}
    (hl : ∀ (f : JFrame) (acts : List Action), f.method = m → f.locked = none → f.entered = [] → (doReturn e (T.setTop f) acts (some (.int z))).1 = T.setFrames fs) : Steps p.tables e below (T.setTop (mkF m pc Ls (.int z :: rest))) (T.setFrames fs) :=
  retOut X hx hret rfl (Or.inl ⟨rfl, Or.inl rfl, z, rfl⟩) hd hl
theorem own_retJ (X : Stand p l e R s m args below meth c T locs cells slots) (hx : p.tables.exec = Jvm.exec) {pc : Nat} {Ls : Array Slot} {z : Int64} {rest : List Value} (hret : meth.sig.returnType = some .long) (hd : decode c.code pc = .ok (.lreturn, 1)) {fs : List Frame}
    (hl : ∀ (f : JFrame) (acts : List Action), f.method = m → f.locked = none → f.entered = [] → (doReturn e (T.setTop f) acts (some (.long z))).1 = T.setFrames fs) : Steps p.tables e below (T.setTop (mkF m pc Ls (.long z :: rest))) (T.setFrames fs) :=
  retOut X hx hret rfl (Or.inr (Or.inl ⟨rfl, rfl, z, rfl⟩)) hd hl
theorem own_narR {t : FieldType} (ht : t.isReference = true) (hw : w.isRef = true) : narrow t w = w := by
  cases t <;> first | (cases ht; done) | (cases w <;> first | rfl | (cases hw; done))
theorem own_retA (X : Stand p l e R s m args below meth c T locs cells slots) (hx : p.tables.exec = Jvm.exec) {pc : Nat} {Ls : Array Slot} {t : FieldType} {rest : List Value} (ht : t.isReference = true) (hw : w.isRef = true) (hret : meth.sig.returnType = some t) (hd : decode c.code pc = .ok (.areturn, 1)) {fs : List Frame}
    (hl : ∀ (f : JFrame) (acts : List Action), f.method = m → f.locked = none → f.entered = [] → (doReturn e (T.setTop f) acts (some w)).1 = T.setFrames fs) : Steps p.tables e below (T.setTop (mkF m pc Ls (w :: rest))) (T.setFrames fs) :=
  retOut X hx hret (own_narR ht hw) (Or.inr (Or.inr (Or.inr (Or.inr ⟨rfl, ht, hw⟩)))) hd hl
theorem own_join (X : Stand p l e R s m args below meth c T locs cells slots) {h : Heap} {g g' : JFrame} (K : ∃ T', Stand p l e R s m args below meth c T' locs cells slots ∧ T'.heap = h ∧ ∀ target, Steps p.tables e below (T'.setTop g') target → Steps p.tables e below (T.setTop g) target) :
    ∃ T', Stand p l e R s m args below meth c T' locs cells slots ∧ T'.heap = h ∧ ∀ target, Steps p.tables e below (T'.setTop g') target → Steps p.tables e below (T.setTop g) target := K
theorem own_ext_refl (h : Heap) : Ext h h := ⟨Nat.le_refl _, fun _ _ q => q⟩
theorem own_ext_tr (E : Ext h0 h) (E' : Ext h h') : Ext h0 h' := ⟨Nat.le_trans E.1 E'.1, fun x y q => E'.2 x y (E.2 x y q)⟩
theorem own_ext_wr (E : Ext h0 h) (W : Wr h h' a sl v) (g : h0.size ≤ a) : Ext h0 h' := ⟨by rw [W.size]; exact E.1, fun x y q => by
  obtain ⟨cb', h1, -, -, -, h5, -⟩ := wr_at W (E.2 x y q)
  rw [h1, h5 (fun r => by subst r; exact absurd (Array.getElem?_eq_some_iff.mp q).1 (Nat.not_lt.mpr g))]⟩
theorem own_fld_inj (F : Fld Z h a C n d v) (G : Fld Z h a C n d w) : v = w := by
  obtain ⟨cell, cf, k, i, f, h1, h2, h3, h4, h5, h6, h7⟩ := F
  obtain ⟨cell', cf', k', i', f', g1, g2, g3, g4, g5, g6, g7⟩ := G
  cases h1.symm.trans g1
  cases h2.symm.trans g2
  exact Option.some.inj (h7.symm.trans g7)
theorem own_fld_ne (F : Fld Z h a C n d v) (G : Fld Z h b C n d w) (q : v ≠ w) : a ≠ b := fun r => by subst r; exact q (own_fld_inj F G)
theorem own_ref_ne (q : a ≠ b) : ¬ Value.ref a = Value.ref b := fun r => q (Value.ref.inj r)
theorem own_ref_eq (q : a = b) : Value.ref a = Value.ref b := congrArg Value.ref q
/-- the array at a, of class k, holds just xs -/
def OwnLst (Z : State) (h : Heap) (a : Addr) (ty : FieldType) (k : ClassId) (xs : List Value) : Prop := ∃ cl : Cell, Arr Z h a cl ty ∧ cl.cls = k ∧ cl.slots.toList = xs
theorem OwnLst.ext {ty : FieldType} {k : ClassId} {xs : List Value} (F : OwnLst Z h a ty k xs) (E : Ext h h') : OwnLst Z h' a ty k xs := by obtain ⟨cl, A, q, G⟩ := F; exact ⟨cl, A.ext E, q, G⟩
theorem OwnLst.other {ty : FieldType} {k : ClassId} {xs : List Value} (F : OwnLst Z h b ty k xs) (W : Wr h h' a sl v) (q : b ≠ a) : OwnLst Z h' b ty k xs := by obtain ⟨cl, A, q1, G⟩ := F; exact ⟨cl, A.other W q, q1, G⟩
theorem OwnLst.keep {ty : FieldType} {k : ClassId} {xs : List Value} {ws : List Addr} (F : OwnLst Z h a ty k xs) (K : Keep h h' ws) (q : a ∉ ws) : OwnLst Z h' a ty k xs := by obtain ⟨cl, A, q1, G⟩ := F; exact ⟨cl, ⟨K.2.1 _ _ A.1 q, A.2⟩, q1, G⟩
theorem own_lst_set {ty : FieldType} {k : ClassId} {xs : List Value} {cl : Cell} (A : Arr Z h a cl ty) (q : cl.cls = k) (G : cl.slots.toList = xs) (W : Wr h h' a sl v) : OwnLst Z h' a ty k (xs.set sl v) :=
  ⟨cl.setSlot sl v, A.same W, q, by rw [← G]; simp [Cell.setSlot]⟩
theorem own_lst_new {ty : FieldType} {k : ClassId} {z : Int32} (A : Arr Z h a (newA k ty z) ty) : OwnLst Z h a ty k (List.replicate z.toNatClampNeg (defaultValue ty)) := ⟨_, A, rfl, by simp [newA]⟩
theorem own_inb {xs : List Value} {cl : Cell} {j : Int32} (G : cl.slots.toList = xs) (k : Nat) (hk : xs.length = k) (q : ¬ (j < 0 ∨ k ≤ j.toNatClampNeg)) : ¬ (j < 0 ∨ cl.slots.size ≤ j.toNatClampNeg) := by
  have r : cl.slots.size = k := by rw [← hk, ← G]; simp
  rw [r]; exact q
theorem own_get {xs : List Value} {cl : Cell} {i : Nat} (G : cl.slots.toList = xs) (q : xs[i]? = some v) : cl.slots[i]? = some v := by rw [← Array.getElem?_toList, G]; exact q
theorem own_len {xs : List Value} {cl : Cell} {z : Int32} (G : cl.slots.toList = xs) (q : xs.length.toInt32 = z) : cl.slots.size.toInt32 = z := by rw [← q, ← G]; simp
theorem own_fI {t : Term} {k : Int32} (ht : t.eval args s none [] s = some (.ref a)) (q : (Jvm.Cond.eq (Term.field t C n d) (Term.int k)).value args s none s [] = some true) : Fld s s.heap a C n d (.int k) := by
  obtain ⟨x, y, e1, e2, -, e4⟩ := cmp_v (Or.inl q)
  cases (Term.int_eval k).symm.trans e2
  obtain ⟨z, rfl⟩ := e4
  have r := gotT (Cond.eq_ints e1 (Term.int_eval k)) q
  subst r
  rw [fld_at ht] at e1
  exact Fld.start e1
theorem own_fR {t u : Term} (hu : u.eval args s none [] s = some (.ref b)) (ht : t.eval args s none [] s = some (.ref a)) (q : (Jvm.Cond.eq (Term.field t C n d) u).value args s none s [] = some true) : Fld s s.heap a C n d (.ref b) := by
  obtain ⟨x, y, e1, e2, -, e4⟩ := cmp_v (Or.inl q)
  cases hu.symm.trans e2
  have r := gotT (eq_R e1 hu e4.2 rfl) q
  subst r
  rw [fld_at ht] at e1
  exact Fld.start e1
theorem own_fN {t : Term} (ht : t.eval args s none [] s = some (.ref a)) (q : (Jvm.Cond.eq (Term.field t C n d) Term.null).value args s none s [] = some true) : Fld s s.heap a C n d .null := by
  have e1 := null_v q
  rw [fld_at ht] at e1
  exact Fld.start e1
theorem own_arg1 {args : Array Value} (h1 : (Jvm.Cond.count 1).value args s none s [] = some true) : ∃ w0 : Value, args = #[w0] := by
  have hs : args.size = 1 := by simpa [Cond.value] using h1
  obtain ⟨L⟩ := args
  match L, hs with
  | [w0], _ => exact ⟨w0, rfl⟩
theorem own_arg2 {args : Array Value} (h1 : (Jvm.Cond.count 2).value args s none s [] = some true) : ∃ w0 w1 : Value, args = #[w0, w1] := by
  have hs : args.size = 2 := by simpa [Cond.value] using h1
  obtain ⟨L⟩ := args
  match L, hs with
  | [w0, w1], _ => exact ⟨w0, w1, rfl⟩
theorem own_arg3 {args : Array Value} (h1 : (Jvm.Cond.count 3).value args s none s [] = some true) : ∃ w0 w1 w2 : Value, args = #[w0, w1, w2] := by
  have hs : args.size = 3 := by simpa [Cond.value] using h1
  obtain ⟨L⟩ := args
  match L, hs with
  | [w0, w1, w2], _ => exact ⟨w0, w1, w2, rfl⟩
theorem own_narB (q : Prop) [Decidable q] : nar .boolean (if q then (1 : Int32) else (0 : Int32)) = if q then (1 : Int32) else (0 : Int32) := by split <;> rfl
theorem own_mod (x k : Int32) (z : Int) (hk : k.toInt = z) (hz : 0 < z) : 0 ≤ ((x &&& (2147483647 : Int32)) % k).toInt ∧ ((x &&& (2147483647 : Int32)) % k).toInt < z := by
  have h1 := c_and x (2147483647 : Int32) (by decide)
  rw [(c_irem (x &&& (2147483647 : Int32)) k z hk).1 h1.1]
  exact ⟨Int.emod_nonneg _ (by omega), Int.emod_lt_of_pos _ hz⟩
theorem own_and3 (x : Int32) : (x &&& (3 : Int32)) = 0 ∨ (x &&& (3 : Int32)) = 1 ∨ (x &&& (3 : Int32)) = 2 ∨ (x &&& (3 : Int32)) = 3 := by
  have h1 := c_and x (3 : Int32) (by decide)
  have e3 : (3 : Int32).toInt = 3 := by decide
  rw [e3] at h1
  have e : (x &&& (3 : Int32)).toInt = 0 ∨ (x &&& (3 : Int32)).toInt = 1 ∨ (x &&& (3 : Int32)).toInt = 2 ∨ (x &&& (3 : Int32)).toInt = 3 := by omega
  rcases e with e | e | e | e
  · exact Or.inl (Int32.toInt_inj.mp e)
  · exact Or.inr (Or.inl (Int32.toInt_inj.mp e))
  · exact Or.inr (Or.inr (Or.inl (Int32.toInt_inj.mp e)))
  · exact Or.inr (Or.inr (Or.inr (Int32.toInt_inj.mp e)))
end OwnKit
section OwnKit2
variable {args : Array Value} {s : State} {a b : Addr} {cl : Cell}
theorem own_slen {t : Term} {z : Int32} (hz : ¬ z < 0) (q : (Jvm.Cond.eq (Term.length t) (Term.int z)).value args s none s [] = some true) (ht : t.eval args s none [] s = some (.ref a)) (hc : s.heap[a]? = some cl) : cl.slots.size = z.toNatClampNeg := by
  obtain ⟨x, y, e1, e2, -, e4⟩ := cmp_v (Or.inl q)
  cases (Term.int_eval z).symm.trans e2
  obtain ⟨k, rfl⟩ := e4
  have r := gotT (Cond.eq_ints e1 (Term.int_eval z)) q
  subst r
  obtain ⟨a', c', g1, g2, g3⟩ := Term.length_spec e1
  have g6 := SBG.length_lt g1 g2 e1
  cases ht.symm.trans g1
  have g5 : c' = cl := Option.some.inj ((State.arrayAt?_spec g2).1.symm.trans hc)
  subst g5
  have h3 : c'.slots.size.toInt32 = k := (Value.int.inj g3).symm
  have h1 := back32 hz
  have h4 : c'.slots.size.toInt32.toInt = (c'.slots.size : Int) := len_toInt g6
  have h5 : k.toNatClampNeg.toInt32.toInt = (k.toNatClampNeg : Int) := len_toInt h1.2
  rw [h1.1] at h5
  rw [h3] at h4
  omega
theorem own_selem {t u : Term} {j : Int32} (hu : u.eval args s none [] s = some (.ref b)) (ht : t.eval args s none [] s = some (.ref a)) (hc : s.heap[a]? = some cl) (q : (Jvm.Cond.eq (Term.elem t (Term.int j)) u).value args s none s [] = some true) : cl.slots[j.toNatClampNeg]? = some (.ref b) := by
  obtain ⟨x, y, e1, e2, -, e4⟩ := cmp_v (Or.inl q)
  cases hu.symm.trans e2
  have r := gotT (eq_R e1 hu e4.2 rfl) q
  subst r
  exact (elem_in e1 ht (Term.int_eval j) hc).2
theorem own_nil {A : Array Value} (hs : A.size = (0 : Int32).toNatClampNeg) : A.toList = [] := by
  have q : (0 : Int32).toNatClampNeg = 0 := by decide
  rw [q] at hs
  exact List.eq_nil_of_length_eq_zero (by rw [Array.length_toList]; exact hs)
theorem own_list6 {A : Array Value} (hs : A.size = 6) {v0 v1 v2 v3 v4 v5 : Value} (h0 : A[0]? = some v0) (h1 : A[1]? = some v1) (h2 : A[2]? = some v2) (h3 : A[3]? = some v3) (h4 : A[4]? = some v4) (h5 : A[5]? = some v5) : A.toList = [v0, v1, v2, v3, v4, v5] := by
  obtain ⟨l⟩ := A
  match l, hs with
  | [a, b, c, d, e, f], _ =>
    simp at h0 h1 h2 h3 h4 h5
    simp [h0, h1, h2, h3, h4, h5]
theorem own_list4 {A : Array Value} (hs : A.size = 4) {v0 v1 v2 v3 : Value} (h0 : A[0]? = some v0) (h1 : A[1]? = some v1) (h2 : A[2]? = some v2) (h3 : A[3]? = some v3) : A.toList = [v0, v1, v2, v3] := by
  obtain ⟨l⟩ := A
  match l, hs with
  | [a, b, c, d], _ =>
    simp at h0 h1 h2 h3
    simp [h0, h1, h2, h3]
end OwnKit2
section OwnKit3
variable {Z : State} {h h' h0 : Heap} {a b : Addr} {v : Value} {ty : FieldType} {k : ClassId} {xs : List Value} {n0 : Nat} {ws : List Addr} {sl : Nat}
theorem OwnLst.lt (F : OwnLst Z h a ty k xs) : a < h.size := by obtain ⟨cl, A, -⟩ := F; exact A.lt
theorem own_old_ext (O : Old Z n0 h) (E : Ext h h') : Old Z n0 h' := ⟨O.1, own_ext_tr O.2 E⟩
theorem own_ne_lt (q : a < h.size) (g : b = h.size) : a ≠ b := fun r => by rw [r, g] at q; exact Nat.lt_irrefl _ q
theorem own_ne_le (q : a < h.size) (g : h.size ≤ b) : a ≠ b := fun r => by rw [r] at q; exact Nat.lt_irrefl _ (Nat.lt_of_lt_of_le q g)
theorem own_lst_eq {xs' : List Value} (F : OwnLst Z h a ty k xs) (q : xs = xs') : OwnLst Z h a ty k xs' := q ▸ F
end OwnKit3
theorem own_d_prog_86_method_7_0 : decode prog_86_method_7_code 0 = .ok (.aload_n 0, 1) := by decide +kernel
theorem own_d_prog_86_method_7_1 : decode prog_86_method_7_code 1 = .ok (.getfield 103, 3) := by decide +kernel
theorem own_d_prog_86_method_7_4 : decode prog_86_method_7_code 4 = .ok (.ifCond .eq 12, 3) := by decide +kernel
theorem own_d_prog_86_method_7_7 : decode prog_86_method_7_code 7 = .ok (.iload_n 1, 1) := by decide +kernel
theorem own_d_prog_86_method_7_8 : decode prog_86_method_7_code 8 = .ok (.iconst 1, 1) := by decide +kernel
theorem own_d_prog_86_method_7_9 : decode prog_86_method_7_code 9 = .ok (.if_icmp .eq 7, 3) := by decide +kernel
theorem own_d_prog_86_method_7_12 : decode prog_86_method_7_code 12 = .ok (.iconst 1, 1) := by decide +kernel
theorem own_d_prog_86_method_7_13 : decode prog_86_method_7_code 13 = .ok (.goto 4, 3) := by decide +kernel
theorem own_d_prog_86_method_7_16 : decode prog_86_method_7_code 16 = .ok (.iconst 0, 1) := by decide +kernel
theorem own_d_prog_86_method_7_17 : decode prog_86_method_7_code 17 = .ok (.ireturn, 1) := by decide +kernel
theorem own_pn0 : plainName "com/example/passeren/passeren/sync/StepScheduler$Operation" = true := by first | (simp [plainName, overriddenIn]; done) | decide +kernel
theorem own_pn1 : plainName "com/example/passeren/passeren/sync/OperationLeavesPinLaw" = true := by first | (simp [plainName, overriddenIn]; done) | decide +kernel
theorem own_pd0 : parseMethodDescriptor "(I)Z" = some ⟨[.int], some .boolean⟩ := by decide +kernel
theorem own_22 {k : Int32} (h0 : 0 ≤ k.toInt) (h1 : k.toInt < 22) : k = (0 : Int32) ∨ k = (1 : Int32) ∨ k = (2 : Int32) ∨ k = (3 : Int32) ∨ k = (4 : Int32) ∨ k = (5 : Int32) ∨ k = (6 : Int32) ∨ k = (7 : Int32) ∨ k = (8 : Int32) ∨ k = (9 : Int32) ∨ k = (10 : Int32) ∨ k = (11 : Int32) ∨ k = (12 : Int32) ∨ k = (13 : Int32) ∨ k = (14 : Int32) ∨ k = (15 : Int32) ∨ k = (16 : Int32) ∨ k = (17 : Int32) ∨ k = (18 : Int32) ∨ k = (19 : Int32) ∨ k = (20 : Int32) ∨ k = (21 : Int32) := by
  have e : k.toInt = 0 ∨ k.toInt = 1 ∨ k.toInt = 2 ∨ k.toInt = 3 ∨ k.toInt = 4 ∨ k.toInt = 5 ∨ k.toInt = 6 ∨ k.toInt = 7 ∨ k.toInt = 8 ∨ k.toInt = 9 ∨ k.toInt = 10 ∨ k.toInt = 11 ∨ k.toInt = 12 ∨ k.toInt = 13 ∨ k.toInt = 14 ∨ k.toInt = 15 ∨ k.toInt = 16 ∨ k.toInt = 17 ∨ k.toInt = 18 ∨ k.toInt = 19 ∨ k.toInt = 20 ∨ k.toInt = 21 := by omega
  rcases e with e | e | e | e | e | e | e | e | e | e | e | e | e | e | e | e | e | e | e | e | e | e
  · exact Or.inl (Int32.toInt_inj.mp e)
  · exact Or.inr (Or.inl (Int32.toInt_inj.mp e))
  · exact Or.inr (Or.inr (Or.inl (Int32.toInt_inj.mp e)))
  · exact Or.inr (Or.inr (Or.inr (Or.inl (Int32.toInt_inj.mp e))))
  · exact Or.inr (Or.inr (Or.inr (Or.inr (Or.inl (Int32.toInt_inj.mp e)))))
  · exact Or.inr (Or.inr (Or.inr (Or.inr (Or.inr (Or.inl (Int32.toInt_inj.mp e))))))
  · exact Or.inr (Or.inr (Or.inr (Or.inr (Or.inr (Or.inr (Or.inl (Int32.toInt_inj.mp e)))))))
  · exact Or.inr (Or.inr (Or.inr (Or.inr (Or.inr (Or.inr (Or.inr (Or.inl (Int32.toInt_inj.mp e))))))))
  · exact Or.inr (Or.inr (Or.inr (Or.inr (Or.inr (Or.inr (Or.inr (Or.inr (Or.inl (Int32.toInt_inj.mp e)))))))))
  · exact Or.inr (Or.inr (Or.inr (Or.inr (Or.inr (Or.inr (Or.inr (Or.inr (Or.inr (Or.inl (Int32.toInt_inj.mp e))))))))))
  · exact Or.inr (Or.inr (Or.inr (Or.inr (Or.inr (Or.inr (Or.inr (Or.inr (Or.inr (Or.inr (Or.inl (Int32.toInt_inj.mp e)))))))))))
  · exact Or.inr (Or.inr (Or.inr (Or.inr (Or.inr (Or.inr (Or.inr (Or.inr (Or.inr (Or.inr (Or.inr (Or.inl (Int32.toInt_inj.mp e))))))))))))
  · exact Or.inr (Or.inr (Or.inr (Or.inr (Or.inr (Or.inr (Or.inr (Or.inr (Or.inr (Or.inr (Or.inr (Or.inr (Or.inl (Int32.toInt_inj.mp e)))))))))))))
  · exact Or.inr (Or.inr (Or.inr (Or.inr (Or.inr (Or.inr (Or.inr (Or.inr (Or.inr (Or.inr (Or.inr (Or.inr (Or.inr (Or.inl (Int32.toInt_inj.mp e))))))))))))))
  · exact Or.inr (Or.inr (Or.inr (Or.inr (Or.inr (Or.inr (Or.inr (Or.inr (Or.inr (Or.inr (Or.inr (Or.inr (Or.inr (Or.inr (Or.inl (Int32.toInt_inj.mp e)))))))))))))))
  · exact Or.inr (Or.inr (Or.inr (Or.inr (Or.inr (Or.inr (Or.inr (Or.inr (Or.inr (Or.inr (Or.inr (Or.inr (Or.inr (Or.inr (Or.inr (Or.inl (Int32.toInt_inj.mp e))))))))))))))))
  · exact Or.inr (Or.inr (Or.inr (Or.inr (Or.inr (Or.inr (Or.inr (Or.inr (Or.inr (Or.inr (Or.inr (Or.inr (Or.inr (Or.inr (Or.inr (Or.inr (Or.inl (Int32.toInt_inj.mp e)))))))))))))))))
  · exact Or.inr (Or.inr (Or.inr (Or.inr (Or.inr (Or.inr (Or.inr (Or.inr (Or.inr (Or.inr (Or.inr (Or.inr (Or.inr (Or.inr (Or.inr (Or.inr (Or.inr (Or.inl (Int32.toInt_inj.mp e))))))))))))))))))
  · exact Or.inr (Or.inr (Or.inr (Or.inr (Or.inr (Or.inr (Or.inr (Or.inr (Or.inr (Or.inr (Or.inr (Or.inr (Or.inr (Or.inr (Or.inr (Or.inr (Or.inr (Or.inr (Or.inl (Int32.toInt_inj.mp e)))))))))))))))))))
  · exact Or.inr (Or.inr (Or.inr (Or.inr (Or.inr (Or.inr (Or.inr (Or.inr (Or.inr (Or.inr (Or.inr (Or.inr (Or.inr (Or.inr (Or.inr (Or.inr (Or.inr (Or.inr (Or.inr (Or.inl (Int32.toInt_inj.mp e))))))))))))))))))))
  · exact Or.inr (Or.inr (Or.inr (Or.inr (Or.inr (Or.inr (Or.inr (Or.inr (Or.inr (Or.inr (Or.inr (Or.inr (Or.inr (Or.inr (Or.inr (Or.inr (Or.inr (Or.inr (Or.inr (Or.inr (Or.inl (Int32.toInt_inj.mp e)))))))))))))))))))))
  · exact Or.inr (Or.inr (Or.inr (Or.inr (Or.inr (Or.inr (Or.inr (Or.inr (Or.inr (Or.inr (Or.inr (Or.inr (Or.inr (Or.inr (Or.inr (Or.inr (Or.inr (Or.inr (Or.inr (Or.inr (Or.inr ((Int32.toInt_inj.mp e))))))))))))))))))))))
theorem rm_leaves_ef (m : MethodId) (x0 : Addr) (x1 : Int32) : entryFrame m #[(.ref x0), (.int x1)] 2 = mkF m 0 #[.val (.ref x0), .val (.int x1)] [] := by first | (simp [entryFrame, mkF, argsToLocals, Value.category]; done) | rfl
def rm_leaves_Q (Z : State) (a : Addr) (pv : Int32) (ml : Int32) (h0 : Heap) (n0 : Nat) (v : Option Value) (h : Heap) (L : List Loc) : Prop := v = some (.int (if ml = (0 : Int32) ∨ pv = (1 : Int32) then (0 : Int32) else (1 : Int32))) ∧ Fr n0 L ∧ h = h0
set_option maxRecDepth 65536 in
set_option maxHeartbeats 40000000 in
theorem rm_leaves (l : Launch) (Z : State) (a0 : Array Value) (hw : ∀ d ∈ tables_1, d.before a0 Z = true) (ws : List Jvm.Cond) (a : Addr) (pv : Int32) (ml : Int32) (h0 : Heap) (n0 : Nat) (Z0 : n0 ≤ h0.size) (Fm : Fld Z h0 a "com/example/passeren/passeren/sync/StepScheduler$Operation" "mayLeave" "Z" (.int ml)) :
    MetFree l (⟨"com/example/passeren/passeren/sync/StepScheduler$Operation", "leaves", "(I)Z"⟩ : MethodName) (head1 (Jvm.Cond.code (⟨"com/example/passeren/passeren/sync/StepScheduler$Operation", "leaves", "(I)Z"⟩ : MethodName) prog_86_method_7_code 2 (some .boolean) :: ws) ({ frames := 0, cells := 0, slots := 0, locals := 0 } : Room)) (fun a₀ U₀ => a₀ = #[(.ref a), (.int pv)] ∧ Z.Warmed39 U₀.vm ∧ U₀.heap = h0) (fun _ _ _ _ _ => True) (fun _ U₀ o₀ U₁ => ∃ v₀ L₀, o₀ = .returned v₀ ∧ rm_leaves_Q Z a pv ml h0 n0 v₀ U₁.heap L₀ ∧ FrameEnd U₀ o₀ U₁ L₀ ({ frames := 0, cells := 0, slots := 0, locals := 0 } : Room).cells ({ frames := 0, cells := 0, slots := 0, locals := 0 } : Room).slots) := by
  refine MetFree.of_bodySF (plainFor_of_name own_pn0) hisR ?_
  intro p e s m args below meth c s₁ Bd hml0 hP hK
  obtain ⟨rfl, hZ, hh⟩ := hP
  have hx := Bd.exec
  have hby := Bd.bytes
  have hml : c.maxLocals = 2 := hml0
  have hown : s.vm.findClass "com/example/passeren/passeren/sync/StepScheduler$Operation" = some m.cls := findClass_of_methodNamed Bd.named
  have hnm := (name_of_methodNamed Bd.named Bd.method).1
  have X0 : Stand p l e ({ frames := 0, cells := 0, slots := 0, locals := 0 } : Room) s m #[(.ref a), (.int pv)] below meth c s₁ [] 0 0 := Stand.of_body Bd
  have e0 : s₁.heap = h0 := by rw [← hh, Bd.state]; rfl
  have N0 := Fr.nil n0
  have pre0 : ∀ t, Steps p.tables e below (s₁.setTop (mkF m 0 #[.val (.ref a), .val (.int pv)] [])) t → Steps p.tables e below (s₁.setTop (entryFrame m #[(.ref a), (.int pv)] 2)) t := fun t kk₀ => castTop (rm_leaves_ef m a pv) kk₀
  by_cases q0 : ml = (0 : Int32)
  rotate_left
  by_cases q1 : pv = (1 : Int32)
  rotate_left
  · obtain ⟨T3, X3, e3, st3⟩ := getF X0 hx hZ hown (host := "") (Or.inl (hw _ (List.mem_of_getElem? (i := 54) rfl))) Via.refl e0 Fm (g := (mkF m 1 #[.val (.ref a), .val (.int pv)] [(.ref a)])) rfl rfl (hb hby own_d_prog_86_method_7_1)
    obtain ⟨fs, hr, hrun, hended, hW, hsame⟩ := X3.leave (v := some (.int (1 : Int32))) (fun h => by rw [Bd.returns] at h; cases h)
    refine ⟨_, _, pre0 _ ?_, hrun, hended, _, _, rfl, ?_, ⟨_, rfl⟩, hW, hsame.mono (by decide) (by decide)⟩
    · show Steps p.tables e below (s₁.setTop (mkF m 0 #[.val (.ref a), .val (.int pv)] [])) _
      refine XS.aloadN X0.here hx rfl (hb hby own_d_prog_86_method_7_0) rfl rfl ?_
      show Steps p.tables e below (s₁.setTop (mkF m 1 #[.val (.ref a), .val (.int pv)] [(.ref a)])) _
      refine st3 _ ?_
      show Steps p.tables e below (T3.setTop (mkF m 4 #[.val (.ref a), .val (.int pv)] [(.int ml)])) _
      refine XS.ifNo X3.here hx rfl (hb hby own_d_prog_86_method_7_4) rfl ((if0 _ _).trans (feq q0).1) ?_
      show Steps p.tables e below (T3.setTop (mkF m 7 #[.val (.ref a), .val (.int pv)] [])) _
      refine XS.iloadN X3.here hx rfl (hb hby own_d_prog_86_method_7_7) rfl ?_
      show Steps p.tables e below (T3.setTop (mkF m 8 #[.val (.ref a), .val (.int pv)] [(.int pv)])) _
      refine XS.iconst X3.here hx rfl (hb hby own_d_prog_86_method_7_8) ?_
      show Steps p.tables e below (T3.setTop (mkF m 9 #[.val (.ref a), .val (.int pv)] [(.int (1 : Int32)), (.int pv)])) _
      refine XS.icmpNo X3.here hx rfl (hb hby own_d_prog_86_method_7_9) rfl (feq q1).1 ?_
      show Steps p.tables e below (T3.setTop (mkF m 12 #[.val (.ref a), .val (.int pv)] [])) _
      refine XS.iconst X3.here hx rfl (hb hby own_d_prog_86_method_7_12) ?_
      show Steps p.tables e below (T3.setTop (mkF m 13 #[.val (.ref a), .val (.int pv)] [(.int (1 : Int32))])) _
      refine XS.goto X3.here hx rfl (pc0 := 13) (pc' := 17) rfl (hb hby own_d_prog_86_method_7_13) (by decide) (by decide) ?_
      show Steps p.tables e below (T3.setTop (mkF m 17 #[.val (.ref a), .val (.int pv)] [(.int (1 : Int32))])) _
      exact own_retZ X3 hx rfl Bd.returns (hb hby own_d_prog_86_method_7_17) hr
    · show rm_leaves_Q Z a pv ml h0 n0 _ T3.heap _
      rw [e3]
      exact ⟨by simp [q0, q1], N0, rfl⟩
  · obtain ⟨T1, X1, e1, st1⟩ := getF X0 hx hZ hown (host := "") (Or.inl (hw _ (List.mem_of_getElem? (i := 54) rfl))) Via.refl e0 Fm (g := (mkF m 1 #[.val (.ref a), .val (.int pv)] [(.ref a)])) rfl rfl (hb hby own_d_prog_86_method_7_1)
    obtain ⟨fs, hr, hrun, hended, hW, hsame⟩ := X1.leave (v := some (.int (0 : Int32))) (fun h => by rw [Bd.returns] at h; cases h)
    refine ⟨_, _, pre0 _ ?_, hrun, hended, _, _, rfl, ?_, ⟨_, rfl⟩, hW, hsame.mono (by decide) (by decide)⟩
    · show Steps p.tables e below (s₁.setTop (mkF m 0 #[.val (.ref a), .val (.int pv)] [])) _
      refine XS.aloadN X0.here hx rfl (hb hby own_d_prog_86_method_7_0) rfl rfl ?_
      show Steps p.tables e below (s₁.setTop (mkF m 1 #[.val (.ref a), .val (.int pv)] [(.ref a)])) _
      refine st1 _ ?_
      show Steps p.tables e below (T1.setTop (mkF m 4 #[.val (.ref a), .val (.int pv)] [(.int ml)])) _
      refine XS.ifYes X1.here hx rfl (pc0 := 4) (pc' := 16) rfl (hb hby own_d_prog_86_method_7_4) rfl ((if0 _ _).trans (teq q0).1) (by decide) (by decide) ?_
      show Steps p.tables e below (T1.setTop (mkF m 16 #[.val (.ref a), .val (.int pv)] [])) _
      refine XS.iconst X1.here hx rfl (hb hby own_d_prog_86_method_7_16) ?_
      show Steps p.tables e below (T1.setTop (mkF m 17 #[.val (.ref a), .val (.int pv)] [(.int (0 : Int32))])) _
      exact own_retZ X1 hx rfl Bd.returns (hb hby own_d_prog_86_method_7_17) hr
    · show rm_leaves_Q Z a pv ml h0 n0 _ T1.heap _
      rw [e1]
      exact ⟨by simp [q0], N0, rfl⟩
  · obtain ⟨T2, X2, e2, st2⟩ := getF X0 hx hZ hown (host := "") (Or.inl (hw _ (List.mem_of_getElem? (i := 54) rfl))) Via.refl e0 Fm (g := (mkF m 1 #[.val (.ref a), .val (.int pv)] [(.ref a)])) rfl rfl (hb hby own_d_prog_86_method_7_1)
    obtain ⟨fs, hr, hrun, hended, hW, hsame⟩ := X2.leave (v := some (.int (0 : Int32))) (fun h => by rw [Bd.returns] at h; cases h)
    refine ⟨_, _, pre0 _ ?_, hrun, hended, _, _, rfl, ?_, ⟨_, rfl⟩, hW, hsame.mono (by decide) (by decide)⟩
    · show Steps p.tables e below (s₁.setTop (mkF m 0 #[.val (.ref a), .val (.int pv)] [])) _
      refine XS.aloadN X0.here hx rfl (hb hby own_d_prog_86_method_7_0) rfl rfl ?_
      show Steps p.tables e below (s₁.setTop (mkF m 1 #[.val (.ref a), .val (.int pv)] [(.ref a)])) _
      refine st2 _ ?_
      show Steps p.tables e below (T2.setTop (mkF m 4 #[.val (.ref a), .val (.int pv)] [(.int ml)])) _
      refine XS.ifNo X2.here hx rfl (hb hby own_d_prog_86_method_7_4) rfl ((if0 _ _).trans (feq q0).1) ?_
      show Steps p.tables e below (T2.setTop (mkF m 7 #[.val (.ref a), .val (.int pv)] [])) _
      refine XS.iloadN X2.here hx rfl (hb hby own_d_prog_86_method_7_7) rfl ?_
      show Steps p.tables e below (T2.setTop (mkF m 8 #[.val (.ref a), .val (.int pv)] [(.int pv)])) _
      refine XS.iconst X2.here hx rfl (hb hby own_d_prog_86_method_7_8) ?_
      show Steps p.tables e below (T2.setTop (mkF m 9 #[.val (.ref a), .val (.int pv)] [(.int (1 : Int32)), (.int pv)])) _
      refine XS.icmpYes X2.here hx rfl (pc0 := 9) (pc' := 16) rfl (hb hby own_d_prog_86_method_7_9) rfl (teq q1).1 (by decide) (by decide) ?_
      show Steps p.tables e below (T2.setTop (mkF m 16 #[.val (.ref a), .val (.int pv)] [])) _
      refine XS.iconst X2.here hx rfl (hb hby own_d_prog_86_method_7_16) ?_
      show Steps p.tables e below (T2.setTop (mkF m 17 #[.val (.ref a), .val (.int pv)] [(.int (0 : Int32))])) _
      exact own_retZ X2 hx rfl Bd.returns (hb hby own_d_prog_86_method_7_17) hr
    · show rm_leaves_Q Z a pv ml h0 n0 _ T2.heap _
      rw [e2]
      exact ⟨by simp [q1], N0, rfl⟩
theorem rm_law_ef (m : MethodId) (x0 : Int32) (x1 : Int32) (x2 : Int32) : entryFrame m #[(.int x0), (.int x1), (.int x2)] maxLocals = mkF m 0 #[.val (.int x0), .val (.int x1), .val (.int x2), .unset, .unset, .unset, .unset, .unset, .unset] [] := by first | (simp [entryFrame, mkF, argsToLocals, Value.category, maxLocals]; done) | rfl
def rm_law_Q (Z : State) (p0 : Int32) (p1 : Int32) (p2 : Int32) (b_READ : Addr) (b_WRITE : Addr) (b_TEST_AND_SET : Addr) (b_ACQUIRE : Addr) (b_TRY_ACQUIRE : Addr) (b_AWAIT : Addr) (b_RELEASE : Addr) (b_DRAIN_PERMITS : Addr) (b_AVAILABLE_PERMITS : Addr) (b_HAS_QUEUED_THREADS : Addr) (b_GET_QUEUE_LENGTH : Addr) (b_ENTER : Addr) (b_EXIT : Addr) (b_WAIT : Addr) (b_SIGNAL : Addr) (b_SIGNAL_ALL : Addr) (b_IS_EMPTY : Addr) (b_GET_ENTRY_QUEUE_LENGTH : Addr) (b_READ_LOCK : Addr) (b_READ_UNLOCK : Addr) (b_WRITE_LOCK : Addr) (b_WRITE_UNLOCK : Addr) (h0 : Heap) (n0 : Nat) (v : Option Value) (h : Heap) (L : List Loc) : Prop := v = some (.int (1 : Int32)) ∧ Fr n0 L
set_option maxRecDepth 65536 in
set_option maxHeartbeats 40000000 in
theorem rm_law (l : Launch) (Z : State) (a0 : Array Value) (hw : ∀ d ∈ tables_1, d.before a0 Z = true) (ws : List Jvm.Cond) (p0 : Int32) (p1 : Int32) (p2 : Int32) (b_READ : Addr) (b_WRITE : Addr) (b_TEST_AND_SET : Addr) (b_ACQUIRE : Addr) (b_TRY_ACQUIRE : Addr) (b_AWAIT : Addr) (b_RELEASE : Addr) (b_DRAIN_PERMITS : Addr) (b_AVAILABLE_PERMITS : Addr) (b_HAS_QUEUED_THREADS : Addr) (b_GET_QUEUE_LENGTH : Addr) (b_ENTER : Addr) (b_EXIT : Addr) (b_WAIT : Addr) (b_SIGNAL : Addr) (b_SIGNAL_ALL : Addr) (b_IS_EMPTY : Addr) (b_GET_ENTRY_QUEUE_LENGTH : Addr) (b_READ_LOCK : Addr) (b_READ_UNLOCK : Addr) (b_WRITE_LOCK : Addr) (b_WRITE_UNLOCK : Addr) (h0 : Heap) (n0 : Nat) (Z0 : n0 ≤ h0.size) (S_READ : Sta Z h0 "com/example/passeren/passeren/sync/StepScheduler$Operation" "READ" "Lcom/example/passeren/passeren/sync/StepScheduler$Operation;" (.ref b_READ)) (E_READ : Exa Z h0 b_READ "com/example/passeren/passeren/sync/StepScheduler$Operation") (S_WRITE : Sta Z h0 "com/example/passeren/passeren/sync/StepScheduler$Operation" "WRITE" "Lcom/example/passeren/passeren/sync/StepScheduler$Operation;" (.ref b_WRITE)) (E_WRITE : Exa Z h0 b_WRITE "com/example/passeren/passeren/sync/StepScheduler$Operation") (S_TEST_AND_SET : Sta Z h0 "com/example/passeren/passeren/sync/StepScheduler$Operation" "TEST_AND_SET" "Lcom/example/passeren/passeren/sync/StepScheduler$Operation;" (.ref b_TEST_AND_SET)) (E_TEST_AND_SET : Exa Z h0 b_TEST_AND_SET "com/example/passeren/passeren/sync/StepScheduler$Operation") (S_ACQUIRE : Sta Z h0 "com/example/passeren/passeren/sync/StepScheduler$Operation" "ACQUIRE" "Lcom/example/passeren/passeren/sync/StepScheduler$Operation;" (.ref b_ACQUIRE)) (E_ACQUIRE : Exa Z h0 b_ACQUIRE "com/example/passeren/passeren/sync/StepScheduler$Operation") (S_TRY_ACQUIRE : Sta Z h0 "com/example/passeren/passeren/sync/StepScheduler$Operation" "TRY_ACQUIRE" "Lcom/example/passeren/passeren/sync/StepScheduler$Operation;" (.ref b_TRY_ACQUIRE)) (E_TRY_ACQUIRE : Exa Z h0 b_TRY_ACQUIRE "com/example/passeren/passeren/sync/StepScheduler$Operation") (S_AWAIT : Sta Z h0 "com/example/passeren/passeren/sync/StepScheduler$Operation" "AWAIT" "Lcom/example/passeren/passeren/sync/StepScheduler$Operation;" (.ref b_AWAIT)) (E_AWAIT : Exa Z h0 b_AWAIT "com/example/passeren/passeren/sync/StepScheduler$Operation") (S_RELEASE : Sta Z h0 "com/example/passeren/passeren/sync/StepScheduler$Operation" "RELEASE" "Lcom/example/passeren/passeren/sync/StepScheduler$Operation;" (.ref b_RELEASE)) (E_RELEASE : Exa Z h0 b_RELEASE "com/example/passeren/passeren/sync/StepScheduler$Operation") (S_DRAIN_PERMITS : Sta Z h0 "com/example/passeren/passeren/sync/StepScheduler$Operation" "DRAIN_PERMITS" "Lcom/example/passeren/passeren/sync/StepScheduler$Operation;" (.ref b_DRAIN_PERMITS)) (E_DRAIN_PERMITS : Exa Z h0 b_DRAIN_PERMITS "com/example/passeren/passeren/sync/StepScheduler$Operation") (S_AVAILABLE_PERMITS : Sta Z h0 "com/example/passeren/passeren/sync/StepScheduler$Operation" "AVAILABLE_PERMITS" "Lcom/example/passeren/passeren/sync/StepScheduler$Operation;" (.ref b_AVAILABLE_PERMITS)) (E_AVAILABLE_PERMITS : Exa Z h0 b_AVAILABLE_PERMITS "com/example/passeren/passeren/sync/StepScheduler$Operation") (S_HAS_QUEUED_THREADS : Sta Z h0 "com/example/passeren/passeren/sync/StepScheduler$Operation" "HAS_QUEUED_THREADS" "Lcom/example/passeren/passeren/sync/StepScheduler$Operation;" (.ref b_HAS_QUEUED_THREADS)) (E_HAS_QUEUED_THREADS : Exa Z h0 b_HAS_QUEUED_THREADS "com/example/passeren/passeren/sync/StepScheduler$Operation") (S_GET_QUEUE_LENGTH : Sta Z h0 "com/example/passeren/passeren/sync/StepScheduler$Operation" "GET_QUEUE_LENGTH" "Lcom/example/passeren/passeren/sync/StepScheduler$Operation;" (.ref b_GET_QUEUE_LENGTH)) (E_GET_QUEUE_LENGTH : Exa Z h0 b_GET_QUEUE_LENGTH "com/example/passeren/passeren/sync/StepScheduler$Operation") (S_ENTER : Sta Z h0 "com/example/passeren/passeren/sync/StepScheduler$Operation" "ENTER" "Lcom/example/passeren/passeren/sync/StepScheduler$Operation;" (.ref b_ENTER)) (E_ENTER : Exa Z h0 b_ENTER "com/example/passeren/passeren/sync/StepScheduler$Operation") (S_EXIT : Sta Z h0 "com/example/passeren/passeren/sync/StepScheduler$Operation" "EXIT" "Lcom/example/passeren/passeren/sync/StepScheduler$Operation;" (.ref b_EXIT)) (E_EXIT : Exa Z h0 b_EXIT "com/example/passeren/passeren/sync/StepScheduler$Operation") (S_WAIT : Sta Z h0 "com/example/passeren/passeren/sync/StepScheduler$Operation" "WAIT" "Lcom/example/passeren/passeren/sync/StepScheduler$Operation;" (.ref b_WAIT)) (E_WAIT : Exa Z h0 b_WAIT "com/example/passeren/passeren/sync/StepScheduler$Operation") (S_SIGNAL : Sta Z h0 "com/example/passeren/passeren/sync/StepScheduler$Operation" "SIGNAL" "Lcom/example/passeren/passeren/sync/StepScheduler$Operation;" (.ref b_SIGNAL)) (E_SIGNAL : Exa Z h0 b_SIGNAL "com/example/passeren/passeren/sync/StepScheduler$Operation") (S_SIGNAL_ALL : Sta Z h0 "com/example/passeren/passeren/sync/StepScheduler$Operation" "SIGNAL_ALL" "Lcom/example/passeren/passeren/sync/StepScheduler$Operation;" (.ref b_SIGNAL_ALL)) (E_SIGNAL_ALL : Exa Z h0 b_SIGNAL_ALL "com/example/passeren/passeren/sync/StepScheduler$Operation") (S_IS_EMPTY : Sta Z h0 "com/example/passeren/passeren/sync/StepScheduler$Operation" "IS_EMPTY" "Lcom/example/passeren/passeren/sync/StepScheduler$Operation;" (.ref b_IS_EMPTY)) (E_IS_EMPTY : Exa Z h0 b_IS_EMPTY "com/example/passeren/passeren/sync/StepScheduler$Operation") (S_GET_ENTRY_QUEUE_LENGTH : Sta Z h0 "com/example/passeren/passeren/sync/StepScheduler$Operation" "GET_ENTRY_QUEUE_LENGTH" "Lcom/example/passeren/passeren/sync/StepScheduler$Operation;" (.ref b_GET_ENTRY_QUEUE_LENGTH)) (E_GET_ENTRY_QUEUE_LENGTH : Exa Z h0 b_GET_ENTRY_QUEUE_LENGTH "com/example/passeren/passeren/sync/StepScheduler$Operation") (S_READ_LOCK : Sta Z h0 "com/example/passeren/passeren/sync/StepScheduler$Operation" "READ_LOCK" "Lcom/example/passeren/passeren/sync/StepScheduler$Operation;" (.ref b_READ_LOCK)) (E_READ_LOCK : Exa Z h0 b_READ_LOCK "com/example/passeren/passeren/sync/StepScheduler$Operation") (S_READ_UNLOCK : Sta Z h0 "com/example/passeren/passeren/sync/StepScheduler$Operation" "READ_UNLOCK" "Lcom/example/passeren/passeren/sync/StepScheduler$Operation;" (.ref b_READ_UNLOCK)) (E_READ_UNLOCK : Exa Z h0 b_READ_UNLOCK "com/example/passeren/passeren/sync/StepScheduler$Operation") (S_WRITE_LOCK : Sta Z h0 "com/example/passeren/passeren/sync/StepScheduler$Operation" "WRITE_LOCK" "Lcom/example/passeren/passeren/sync/StepScheduler$Operation;" (.ref b_WRITE_LOCK)) (E_WRITE_LOCK : Exa Z h0 b_WRITE_LOCK "com/example/passeren/passeren/sync/StepScheduler$Operation") (S_WRITE_UNLOCK : Sta Z h0 "com/example/passeren/passeren/sync/StepScheduler$Operation" "WRITE_UNLOCK" "Lcom/example/passeren/passeren/sync/StepScheduler$Operation;" (.ref b_WRITE_UNLOCK)) (E_WRITE_UNLOCK : Exa Z h0 b_WRITE_UNLOCK "com/example/passeren/passeren/sync/StepScheduler$Operation") (F_READ_mayLeave : Fld Z h0 b_READ "com/example/passeren/passeren/sync/StepScheduler$Operation" "mayLeave" "Z" (.int (0 : Int32))) (F_WRITE_mayLeave : Fld Z h0 b_WRITE "com/example/passeren/passeren/sync/StepScheduler$Operation" "mayLeave" "Z" (.int (0 : Int32))) (F_GET_QUEUE_LENGTH_mayLeave : Fld Z h0 b_GET_QUEUE_LENGTH "com/example/passeren/passeren/sync/StepScheduler$Operation" "mayLeave" "Z" (.int (0 : Int32))) (F_READ_UNLOCK_mayLeave : Fld Z h0 b_READ_UNLOCK "com/example/passeren/passeren/sync/StepScheduler$Operation" "mayLeave" "Z" (.int (1 : Int32))) (F_AVAILABLE_PERMITS_mayLeave : Fld Z h0 b_AVAILABLE_PERMITS "com/example/passeren/passeren/sync/StepScheduler$Operation" "mayLeave" "Z" (.int (0 : Int32))) (F_AWAIT_mayLeave : Fld Z h0 b_AWAIT "com/example/passeren/passeren/sync/StepScheduler$Operation" "mayLeave" "Z" (.int (0 : Int32))) (F_ACQUIRE_mayLeave : Fld Z h0 b_ACQUIRE "com/example/passeren/passeren/sync/StepScheduler$Operation" "mayLeave" "Z" (.int (0 : Int32))) (F_IS_EMPTY_mayLeave : Fld Z h0 b_IS_EMPTY "com/example/passeren/passeren/sync/StepScheduler$Operation" "mayLeave" "Z" (.int (0 : Int32))) (F_WAIT_mayLeave : Fld Z h0 b_WAIT "com/example/passeren/passeren/sync/StepScheduler$Operation" "mayLeave" "Z" (.int (1 : Int32))) (F_GET_ENTRY_QUEUE_LENGTH_mayLeave : Fld Z h0 b_GET_ENTRY_QUEUE_LENGTH "com/example/passeren/passeren/sync/StepScheduler$Operation" "mayLeave" "Z" (.int (0 : Int32))) (F_TEST_AND_SET_mayLeave : Fld Z h0 b_TEST_AND_SET "com/example/passeren/passeren/sync/StepScheduler$Operation" "mayLeave" "Z" (.int (0 : Int32))) (F_ENTER_mayLeave : Fld Z h0 b_ENTER "com/example/passeren/passeren/sync/StepScheduler$Operation" "mayLeave" "Z" (.int (0 : Int32))) (F_READ_LOCK_mayLeave : Fld Z h0 b_READ_LOCK "com/example/passeren/passeren/sync/StepScheduler$Operation" "mayLeave" "Z" (.int (0 : Int32))) (F_HAS_QUEUED_THREADS_mayLeave : Fld Z h0 b_HAS_QUEUED_THREADS "com/example/passeren/passeren/sync/StepScheduler$Operation" "mayLeave" "Z" (.int (0 : Int32))) (F_DRAIN_PERMITS_mayLeave : Fld Z h0 b_DRAIN_PERMITS "com/example/passeren/passeren/sync/StepScheduler$Operation" "mayLeave" "Z" (.int (0 : Int32))) (F_SIGNAL_mayLeave : Fld Z h0 b_SIGNAL "com/example/passeren/passeren/sync/StepScheduler$Operation" "mayLeave" "Z" (.int (1 : Int32))) (F_SIGNAL_ALL_mayLeave : Fld Z h0 b_SIGNAL_ALL "com/example/passeren/passeren/sync/StepScheduler$Operation" "mayLeave" "Z" (.int (1 : Int32))) (F_RELEASE_mayLeave : Fld Z h0 b_RELEASE "com/example/passeren/passeren/sync/StepScheduler$Operation" "mayLeave" "Z" (.int (0 : Int32))) (F_EXIT_mayLeave : Fld Z h0 b_EXIT "com/example/passeren/passeren/sync/StepScheduler$Operation" "mayLeave" "Z" (.int (1 : Int32))) (F_WRITE_UNLOCK_mayLeave : Fld Z h0 b_WRITE_UNLOCK "com/example/passeren/passeren/sync/StepScheduler$Operation" "mayLeave" "Z" (.int (1 : Int32))) (F_WRITE_LOCK_mayLeave : Fld Z h0 b_WRITE_LOCK "com/example/passeren/passeren/sync/StepScheduler$Operation" "mayLeave" "Z" (.int (0 : Int32))) (F_TRY_ACQUIRE_mayLeave : Fld Z h0 b_TRY_ACQUIRE "com/example/passeren/passeren/sync/StepScheduler$Operation" "mayLeave" "Z" (.int (0 : Int32))) :
    MetFree l x (head1 (Jvm.Cond.code x code maxLocals ret :: ws) room_1) (fun a₀ U₀ => a₀ = #[(.int p0), (.int p1), (.int p2)] ∧ Z.Warmed39 U₀.vm ∧ U₀.heap = h0) (fun _ _ _ _ _ => True) (fun _ U₀ o₀ U₁ => ∃ v₀ L₀, o₀ = .returned v₀ ∧ rm_law_Q Z p0 p1 p2 b_READ b_WRITE b_TEST_AND_SET b_ACQUIRE b_TRY_ACQUIRE b_AWAIT b_RELEASE b_DRAIN_PERMITS b_AVAILABLE_PERMITS b_HAS_QUEUED_THREADS b_GET_QUEUE_LENGTH b_ENTER b_EXIT b_WAIT b_SIGNAL b_SIGNAL_ALL b_IS_EMPTY b_GET_ENTRY_QUEUE_LENGTH b_READ_LOCK b_READ_UNLOCK b_WRITE_LOCK b_WRITE_UNLOCK h0 n0 v₀ U₁.heap L₀ ∧ FrameEnd U₀ o₀ U₁ L₀ room_1.cells room_1.slots) := by
  refine MetFree.of_bodySF (plainFor_of_name own_pn1) hisR ?_
  intro p e s m args below meth c s₁ Bd hml0 hP hK
  obtain ⟨rfl, hZ, hh⟩ := hP
  have hx := Bd.exec
  have hby := Bd.bytes
  have hml : c.maxLocals = 9 := hml0
  have hown : s.vm.findClass "com/example/passeren/passeren/sync/OperationLeavesPinLaw" = some m.cls := findClass_of_methodNamed Bd.named
  have hnm := (name_of_methodNamed Bd.named Bd.method).1
  have X0 : Stand p l e room_1 s m #[(.int p0), (.int p1), (.int p2)] below meth c s₁ [] 0 0 := Stand.of_body Bd
  have e0 : s₁.heap = h0 := by rw [← hh, Bd.state]; rfl
  have N0 := Fr.nil n0
  have pre0 : ∀ t, Steps p.tables e below (s₁.setTop (mkF m 0 #[.val (.int p0), .val (.int p1), .val (.int p2), .unset, .unset, .unset, .unset, .unset, .unset] [])) t → Steps p.tables e below (s₁.setTop (entryFrame m #[(.int p0), (.int p1), (.int p2)] maxLocals)) t := fun t kk₀ => castTop (rm_law_ef m p0 p1 p2) kk₀
  obtain ⟨K, hK⟩ : ∃ K, ((p0 &&& (2147483647 : Int32)) % (22 : Int32)) = K := ⟨_, rfl⟩
  have hr22 := own_mod p0 (22 : Int32) 22 (by decide) (by decide)
  rw [hK] at hr22
  have hK22 := own_22 hr22.1 hr22.2
  obtain ⟨M, ml, hM⟩ : ∃ (M : Addr) (ml : Int32), (K = (0 : Int32) ∧ b_READ = M ∧ (0 : Int32) = ml) ∨ (K = (1 : Int32) ∧ b_WRITE = M ∧ (0 : Int32) = ml) ∨ (K = (2 : Int32) ∧ b_TEST_AND_SET = M ∧ (0 : Int32) = ml) ∨ (K = (3 : Int32) ∧ b_ACQUIRE = M ∧ (0 : Int32) = ml) ∨ (K = (4 : Int32) ∧ b_TRY_ACQUIRE = M ∧ (0 : Int32) = ml) ∨ (K = (5 : Int32) ∧ b_AWAIT = M ∧ (0 : Int32) = ml) ∨ (K = (6 : Int32) ∧ b_RELEASE = M ∧ (0 : Int32) = ml) ∨ (K = (7 : Int32) ∧ b_DRAIN_PERMITS = M ∧ (0 : Int32) = ml) ∨ (K = (8 : Int32) ∧ b_AVAILABLE_PERMITS = M ∧ (0 : Int32) = ml) ∨ (K = (9 : Int32) ∧ b_HAS_QUEUED_THREADS = M ∧ (0 : Int32) = ml) ∨ (K = (10 : Int32) ∧ b_GET_QUEUE_LENGTH = M ∧ (0 : Int32) = ml) ∨ (K = (11 : Int32) ∧ b_ENTER = M ∧ (0 : Int32) = ml) ∨ (K = (12 : Int32) ∧ b_EXIT = M ∧ (1 : Int32) = ml) ∨ (K = (13 : Int32) ∧ b_WAIT = M ∧ (1 : Int32) = ml) ∨ (K = (14 : Int32) ∧ b_SIGNAL = M ∧ (1 : Int32) = ml) ∨ (K = (15 : Int32) ∧ b_SIGNAL_ALL = M ∧ (1 : Int32) = ml) ∨ (K = (16 : Int32) ∧ b_IS_EMPTY = M ∧ (0 : Int32) = ml) ∨ (K = (17 : Int32) ∧ b_GET_ENTRY_QUEUE_LENGTH = M ∧ (0 : Int32) = ml) ∨ (K = (18 : Int32) ∧ b_READ_LOCK = M ∧ (0 : Int32) = ml) ∨ (K = (19 : Int32) ∧ b_READ_UNLOCK = M ∧ (1 : Int32) = ml) ∨ (K = (20 : Int32) ∧ b_WRITE_LOCK = M ∧ (0 : Int32) = ml) ∨ (K = (21 : Int32) ∧ b_WRITE_UNLOCK = M ∧ (1 : Int32) = ml) := by
    rcases hK22 with q | q | q | q | q | q | q | q | q | q | q | q | q | q | q | q | q | q | q | q | q | q
    · exact ⟨_, _, Or.inl (⟨q, rfl, rfl⟩)⟩
    · exact ⟨_, _, Or.inr (Or.inl (⟨q, rfl, rfl⟩))⟩
    · exact ⟨_, _, Or.inr (Or.inr (Or.inl (⟨q, rfl, rfl⟩)))⟩
    · exact ⟨_, _, Or.inr (Or.inr (Or.inr (Or.inl (⟨q, rfl, rfl⟩))))⟩
    · exact ⟨_, _, Or.inr (Or.inr (Or.inr (Or.inr (Or.inl (⟨q, rfl, rfl⟩)))))⟩
    · exact ⟨_, _, Or.inr (Or.inr (Or.inr (Or.inr (Or.inr (Or.inl (⟨q, rfl, rfl⟩))))))⟩
    · exact ⟨_, _, Or.inr (Or.inr (Or.inr (Or.inr (Or.inr (Or.inr (Or.inl (⟨q, rfl, rfl⟩)))))))⟩
    · exact ⟨_, _, Or.inr (Or.inr (Or.inr (Or.inr (Or.inr (Or.inr (Or.inr (Or.inl (⟨q, rfl, rfl⟩))))))))⟩
    · exact ⟨_, _, Or.inr (Or.inr (Or.inr (Or.inr (Or.inr (Or.inr (Or.inr (Or.inr (Or.inl (⟨q, rfl, rfl⟩)))))))))⟩
    · exact ⟨_, _, Or.inr (Or.inr (Or.inr (Or.inr (Or.inr (Or.inr (Or.inr (Or.inr (Or.inr (Or.inl (⟨q, rfl, rfl⟩))))))))))⟩
    · exact ⟨_, _, Or.inr (Or.inr (Or.inr (Or.inr (Or.inr (Or.inr (Or.inr (Or.inr (Or.inr (Or.inr (Or.inl (⟨q, rfl, rfl⟩)))))))))))⟩
    · exact ⟨_, _, Or.inr (Or.inr (Or.inr (Or.inr (Or.inr (Or.inr (Or.inr (Or.inr (Or.inr (Or.inr (Or.inr (Or.inl (⟨q, rfl, rfl⟩))))))))))))⟩
    · exact ⟨_, _, Or.inr (Or.inr (Or.inr (Or.inr (Or.inr (Or.inr (Or.inr (Or.inr (Or.inr (Or.inr (Or.inr (Or.inr (Or.inl (⟨q, rfl, rfl⟩)))))))))))))⟩
    · exact ⟨_, _, Or.inr (Or.inr (Or.inr (Or.inr (Or.inr (Or.inr (Or.inr (Or.inr (Or.inr (Or.inr (Or.inr (Or.inr (Or.inr (Or.inl (⟨q, rfl, rfl⟩))))))))))))))⟩
    · exact ⟨_, _, Or.inr (Or.inr (Or.inr (Or.inr (Or.inr (Or.inr (Or.inr (Or.inr (Or.inr (Or.inr (Or.inr (Or.inr (Or.inr (Or.inr (Or.inl (⟨q, rfl, rfl⟩)))))))))))))))⟩
    · exact ⟨_, _, Or.inr (Or.inr (Or.inr (Or.inr (Or.inr (Or.inr (Or.inr (Or.inr (Or.inr (Or.inr (Or.inr (Or.inr (Or.inr (Or.inr (Or.inr (Or.inl (⟨q, rfl, rfl⟩))))))))))))))))⟩
    · exact ⟨_, _, Or.inr (Or.inr (Or.inr (Or.inr (Or.inr (Or.inr (Or.inr (Or.inr (Or.inr (Or.inr (Or.inr (Or.inr (Or.inr (Or.inr (Or.inr (Or.inr (Or.inl (⟨q, rfl, rfl⟩)))))))))))))))))⟩
    · exact ⟨_, _, Or.inr (Or.inr (Or.inr (Or.inr (Or.inr (Or.inr (Or.inr (Or.inr (Or.inr (Or.inr (Or.inr (Or.inr (Or.inr (Or.inr (Or.inr (Or.inr (Or.inr (Or.inl (⟨q, rfl, rfl⟩))))))))))))))))))⟩
    · exact ⟨_, _, Or.inr (Or.inr (Or.inr (Or.inr (Or.inr (Or.inr (Or.inr (Or.inr (Or.inr (Or.inr (Or.inr (Or.inr (Or.inr (Or.inr (Or.inr (Or.inr (Or.inr (Or.inr (Or.inl (⟨q, rfl, rfl⟩)))))))))))))))))))⟩
    · exact ⟨_, _, Or.inr (Or.inr (Or.inr (Or.inr (Or.inr (Or.inr (Or.inr (Or.inr (Or.inr (Or.inr (Or.inr (Or.inr (Or.inr (Or.inr (Or.inr (Or.inr (Or.inr (Or.inr (Or.inr (Or.inl (⟨q, rfl, rfl⟩))))))))))))))))))))⟩
    · exact ⟨_, _, Or.inr (Or.inr (Or.inr (Or.inr (Or.inr (Or.inr (Or.inr (Or.inr (Or.inr (Or.inr (Or.inr (Or.inr (Or.inr (Or.inr (Or.inr (Or.inr (Or.inr (Or.inr (Or.inr (Or.inr (Or.inl (⟨q, rfl, rfl⟩)))))))))))))))))))))⟩
    · exact ⟨_, _, Or.inr (Or.inr (Or.inr (Or.inr (Or.inr (Or.inr (Or.inr (Or.inr (Or.inr (Or.inr (Or.inr (Or.inr (Or.inr (Or.inr (Or.inr (Or.inr (Or.inr (Or.inr (Or.inr (Or.inr (Or.inr (⟨q, rfl, rfl⟩)))))))))))))))))))))⟩
  have E_M : Exa Z h0 M "com/example/passeren/passeren/sync/StepScheduler$Operation" := by
    rcases hM with ⟨q, r, t⟩ | ⟨q, r, t⟩ | ⟨q, r, t⟩ | ⟨q, r, t⟩ | ⟨q, r, t⟩ | ⟨q, r, t⟩ | ⟨q, r, t⟩ | ⟨q, r, t⟩ | ⟨q, r, t⟩ | ⟨q, r, t⟩ | ⟨q, r, t⟩ | ⟨q, r, t⟩ | ⟨q, r, t⟩ | ⟨q, r, t⟩ | ⟨q, r, t⟩ | ⟨q, r, t⟩ | ⟨q, r, t⟩ | ⟨q, r, t⟩ | ⟨q, r, t⟩ | ⟨q, r, t⟩ | ⟨q, r, t⟩ | ⟨q, r, t⟩
    · rw [← r]; exact E_READ
    · rw [← r]; exact E_WRITE
    · rw [← r]; exact E_TEST_AND_SET
    · rw [← r]; exact E_ACQUIRE
    · rw [← r]; exact E_TRY_ACQUIRE
    · rw [← r]; exact E_AWAIT
    · rw [← r]; exact E_RELEASE
    · rw [← r]; exact E_DRAIN_PERMITS
    · rw [← r]; exact E_AVAILABLE_PERMITS
    · rw [← r]; exact E_HAS_QUEUED_THREADS
    · rw [← r]; exact E_GET_QUEUE_LENGTH
    · rw [← r]; exact E_ENTER
    · rw [← r]; exact E_EXIT
    · rw [← r]; exact E_WAIT
    · rw [← r]; exact E_SIGNAL
    · rw [← r]; exact E_SIGNAL_ALL
    · rw [← r]; exact E_IS_EMPTY
    · rw [← r]; exact E_GET_ENTRY_QUEUE_LENGTH
    · rw [← r]; exact E_READ_LOCK
    · rw [← r]; exact E_READ_UNLOCK
    · rw [← r]; exact E_WRITE_LOCK
    · rw [← r]; exact E_WRITE_UNLOCK
  have F_M : Fld Z h0 M "com/example/passeren/passeren/sync/StepScheduler$Operation" "mayLeave" "Z" (.int ml) := by
    rcases hM with ⟨q, r, t⟩ | ⟨q, r, t⟩ | ⟨q, r, t⟩ | ⟨q, r, t⟩ | ⟨q, r, t⟩ | ⟨q, r, t⟩ | ⟨q, r, t⟩ | ⟨q, r, t⟩ | ⟨q, r, t⟩ | ⟨q, r, t⟩ | ⟨q, r, t⟩ | ⟨q, r, t⟩ | ⟨q, r, t⟩ | ⟨q, r, t⟩ | ⟨q, r, t⟩ | ⟨q, r, t⟩ | ⟨q, r, t⟩ | ⟨q, r, t⟩ | ⟨q, r, t⟩ | ⟨q, r, t⟩ | ⟨q, r, t⟩ | ⟨q, r, t⟩
    · rw [← r, ← t]; exact F_READ_mayLeave
    · rw [← r, ← t]; exact F_WRITE_mayLeave
    · rw [← r, ← t]; exact F_TEST_AND_SET_mayLeave
    · rw [← r, ← t]; exact F_ACQUIRE_mayLeave
    · rw [← r, ← t]; exact F_TRY_ACQUIRE_mayLeave
    · rw [← r, ← t]; exact F_AWAIT_mayLeave
    · rw [← r, ← t]; exact F_RELEASE_mayLeave
    · rw [← r, ← t]; exact F_DRAIN_PERMITS_mayLeave
    · rw [← r, ← t]; exact F_AVAILABLE_PERMITS_mayLeave
    · rw [← r, ← t]; exact F_HAS_QUEUED_THREADS_mayLeave
    · rw [← r, ← t]; exact F_GET_QUEUE_LENGTH_mayLeave
    · rw [← r, ← t]; exact F_ENTER_mayLeave
    · rw [← r, ← t]; exact F_EXIT_mayLeave
    · rw [← r, ← t]; exact F_WAIT_mayLeave
    · rw [← r, ← t]; exact F_SIGNAL_mayLeave
    · rw [← r, ← t]; exact F_SIGNAL_ALL_mayLeave
    · rw [← r, ← t]; exact F_IS_EMPTY_mayLeave
    · rw [← r, ← t]; exact F_GET_ENTRY_QUEUE_LENGTH_mayLeave
    · rw [← r, ← t]; exact F_READ_LOCK_mayLeave
    · rw [← r, ← t]; exact F_READ_UNLOCK_mayLeave
    · rw [← r, ← t]; exact F_WRITE_LOCK_mayLeave
    · rw [← r, ← t]; exact F_WRITE_UNLOCK_mayLeave
  obtain ⟨vL, hvL⟩ : ∃ z, z = if K = (12 : Int32) ∨ K = (13 : Int32) ∨ K = (14 : Int32) ∨ K = (15 : Int32) ∨ K = (19 : Int32) ∨ K = (21 : Int32) then (1 : Int32) else (0 : Int32) := ⟨_, rfl⟩
  have hmlv : ml = vL := by
    rcases hM with ⟨q, r, t⟩ | ⟨q, r, t⟩ | ⟨q, r, t⟩ | ⟨q, r, t⟩ | ⟨q, r, t⟩ | ⟨q, r, t⟩ | ⟨q, r, t⟩ | ⟨q, r, t⟩ | ⟨q, r, t⟩ | ⟨q, r, t⟩ | ⟨q, r, t⟩ | ⟨q, r, t⟩ | ⟨q, r, t⟩ | ⟨q, r, t⟩ | ⟨q, r, t⟩ | ⟨q, r, t⟩ | ⟨q, r, t⟩ | ⟨q, r, t⟩ | ⟨q, r, t⟩ | ⟨q, r, t⟩ | ⟨q, r, t⟩ | ⟨q, r, t⟩ <;> (rw [hvL, q, ← t]; decide)
  obtain ⟨R, hR⟩ : ∃ R : Int32, ((p1 &&& (3 : Int32)) = (0 : Int32) ∧ (1 : Int32) = R) ∨ ((p1 &&& (3 : Int32)) = (1 : Int32) ∧ (0 : Int32) = R) ∨ ((p1 &&& (3 : Int32)) = (2 : Int32) ∧ (2 : Int32) = R) ∨ ((p1 &&& (3 : Int32)) = (3 : Int32) ∧ p2 = R) := by
    rcases own_and3 p1 with q | q | q | q
    · exact ⟨_, Or.inl (⟨q, rfl⟩)⟩
    · exact ⟨_, Or.inr (Or.inl (⟨q, rfl⟩))⟩
    · exact ⟨_, Or.inr (Or.inr (Or.inl (⟨q, rfl⟩)))⟩
    · exact ⟨_, Or.inr (Or.inr (Or.inr (⟨q, rfl⟩)))⟩
  obtain ⟨vE, hvE⟩ : ∃ z, z = if vL = (0 : Int32) ∨ R = (1 : Int32) then (0 : Int32) else (1 : Int32) := ⟨_, rfl⟩
  have hfin : (if ml = (0 : Int32) ∨ R = (1 : Int32) then (0 : Int32) else (1 : Int32)) = vE := by rw [hvE, hmlv]
  obtain ⟨T4, h4, k4, X4, e4, E4, A4, O4, st4⟩ := newR X0 hx hZ hown (hw _ (List.mem_of_getElem? (i := 0) rfl)) (hw _ (List.mem_of_getElem? (i := 1) rfl)) e0 (g := (mkF m 2 #[.val (.int p0), .val (.int p1), .val (.int p2), .unset, .unset, .unset, .unset, .unset, .unset] [(.int (22 : Int32))])) rfl (hb hby at_2) rfl (by decide) (cap := 22) (by decide) (by decide) (by decide) (by decide)
  obtain ⟨b4, g4⟩ : ∃ z, z = h0.size := ⟨_, rfl⟩
  rw [← g4] at A4 st4
  have sz4 : h0.size ≤ b4 := Nat.le_of_eq g4.symm
  have XE4 : Ext h0 h4 := E4
  have gn4 : n0 ≤ b4 := Nat.le_trans Z0 sz4
  have Zs4 : n0 ≤ h4.size := Nat.le_trans Z0 XE4.1
  have V4_ : OwnLst Z h4 b4 (.object "com/example/passeren/passeren/sync/StepScheduler$Operation") k4 [.null, .null, .null, .null, .null, .null, .null, .null, .null, .null, .null, .null, .null, .null, .null, .null, .null, .null, .null, .null, .null, .null] := own_lst_new A4
  obtain ⟨T5, X5, e5, st5⟩ := getS X4 hx hZ (host := "") hown (hw _ (List.mem_of_getElem? (i := 2) rfl)) Via.refl e4 (S_READ.ext XE4) (g := (mkF m 7 #[.val (.int p0), .val (.int p1), .val (.int p2), .unset, .unset, .unset, .unset, .unset, .unset] [(.int (0 : Int32)), (.ref b4), (.ref b4)])) rfl (hb hby at_7)
  obtain ⟨cl6, Ar6, q6, G6⟩ := id V4_
  obtain ⟨T6, h6, X6, e6, W6, st6⟩ := stR X5 hx hZ e5 Ar6 (j := (0 : Int32)) (own_inb G6 22 rfl (by decide)) rfl (Sto.of Ar6 (by rw [q6]; exact O4) (Ins.self (E_READ.ext XE4))) (g := (mkF m 10 #[.val (.int p0), .val (.int p1), .val (.int p2), .unset, .unset, .unset, .unset, .unset, .unset] [(.ref b_READ), (.int (0 : Int32)), (.ref b4), (.ref b4)])) rfl rfl (hb hby at_10)
  have N6 := Fr.snoc X6 N0 gn4
  have XE6 : Ext h0 h6 := own_ext_wr XE4 W6 sz4
  have V4_0 := own_lst_set Ar6 q6 G6 W6
  have V4_0 : OwnLst Z h6 b4 (.object "com/example/passeren/passeren/sync/StepScheduler$Operation") k4 [.ref b_READ, .null, .null, .null, .null, .null, .null, .null, .null, .null, .null, .null, .null, .null, .null, .null, .null, .null, .null, .null, .null, .null] := V4_0
  obtain ⟨T7, X7, e7, st7⟩ := getS X6 hx hZ (host := "") hown (hw _ (List.mem_of_getElem? (i := 6) rfl)) Via.refl e6 (S_WRITE.ext XE6) (g := (mkF m 13 #[.val (.int p0), .val (.int p1), .val (.int p2), .unset, .unset, .unset, .unset, .unset, .unset] [(.int (1 : Int32)), (.ref b4), (.ref b4)])) rfl (hb hby at_13)
  obtain ⟨cl8, Ar8, q8, G8⟩ := id V4_0
  obtain ⟨T8, h8, X8, e8, W8, st8⟩ := stR X7 hx hZ e7 Ar8 (j := (1 : Int32)) (own_inb G8 22 rfl (by decide)) rfl (Sto.of Ar8 (by rw [q8]; exact O4) (Ins.self (E_WRITE.ext XE6))) (g := (mkF m 16 #[.val (.int p0), .val (.int p1), .val (.int p2), .unset, .unset, .unset, .unset, .unset, .unset] [(.ref b_WRITE), (.int (1 : Int32)), (.ref b4), (.ref b4)])) rfl rfl (hb hby at_16)
  have N8 := Fr.snoc X8 N6 gn4
  have XE8 : Ext h0 h8 := own_ext_wr XE6 W8 sz4
  have V4_1 := own_lst_set Ar8 q8 G8 W8
  have V4_1 : OwnLst Z h8 b4 (.object "com/example/passeren/passeren/sync/StepScheduler$Operation") k4 [.ref b_READ, .ref b_WRITE, .null, .null, .null, .null, .null, .null, .null, .null, .null, .null, .null, .null, .null, .null, .null, .null, .null, .null, .null, .null] := V4_1
  obtain ⟨T9, X9, e9, st9⟩ := getS X8 hx hZ (host := "") hown (hw _ (List.mem_of_getElem? (i := 8) rfl)) Via.refl e8 (S_TEST_AND_SET.ext XE8) (g := (mkF m 19 #[.val (.int p0), .val (.int p1), .val (.int p2), .unset, .unset, .unset, .unset, .unset, .unset] [(.int (2 : Int32)), (.ref b4), (.ref b4)])) rfl (hb hby at_19)
  obtain ⟨cl10, Ar10, q10, G10⟩ := id V4_1
  obtain ⟨T10, h10, X10, e10, W10, st10⟩ := stR X9 hx hZ e9 Ar10 (j := (2 : Int32)) (own_inb G10 22 rfl (by decide)) rfl (Sto.of Ar10 (by rw [q10]; exact O4) (Ins.self (E_TEST_AND_SET.ext XE8))) (g := (mkF m 22 #[.val (.int p0), .val (.int p1), .val (.int p2), .unset, .unset, .unset, .unset, .unset, .unset] [(.ref b_TEST_AND_SET), (.int (2 : Int32)), (.ref b4), (.ref b4)])) rfl rfl (hb hby at_22)
  have N10 := Fr.snoc X10 N8 gn4
  have XE10 : Ext h0 h10 := own_ext_wr XE8 W10 sz4
  have V4_2 := own_lst_set Ar10 q10 G10 W10
  have V4_2 : OwnLst Z h10 b4 (.object "com/example/passeren/passeren/sync/StepScheduler$Operation") k4 [.ref b_READ, .ref b_WRITE, .ref b_TEST_AND_SET, .null, .null, .null, .null, .null, .null, .null, .null, .null, .null, .null, .null, .null, .null, .null, .null, .null, .null, .null] := V4_2
  obtain ⟨T11, X11, e11, st11⟩ := getS X10 hx hZ (host := "") hown (hw _ (List.mem_of_getElem? (i := 10) rfl)) Via.refl e10 (S_ACQUIRE.ext XE10) (g := (mkF m 25 #[.val (.int p0), .val (.int p1), .val (.int p2), .unset, .unset, .unset, .unset, .unset, .unset] [(.int (3 : Int32)), (.ref b4), (.ref b4)])) rfl (hb hby at_25)
  obtain ⟨cl12, Ar12, q12, G12⟩ := id V4_2
  obtain ⟨T12, h12, X12, e12, W12, st12⟩ := stR X11 hx hZ e11 Ar12 (j := (3 : Int32)) (own_inb G12 22 rfl (by decide)) rfl (Sto.of Ar12 (by rw [q12]; exact O4) (Ins.self (E_ACQUIRE.ext XE10))) (g := (mkF m 28 #[.val (.int p0), .val (.int p1), .val (.int p2), .unset, .unset, .unset, .unset, .unset, .unset] [(.ref b_ACQUIRE), (.int (3 : Int32)), (.ref b4), (.ref b4)])) rfl rfl (hb hby at_28)
  have N12 := Fr.snoc X12 N10 gn4
  have XE12 : Ext h0 h12 := own_ext_wr XE10 W12 sz4
  have V4_3 := own_lst_set Ar12 q12 G12 W12
  have V4_3 : OwnLst Z h12 b4 (.object "com/example/passeren/passeren/sync/StepScheduler$Operation") k4 [.ref b_READ, .ref b_WRITE, .ref b_TEST_AND_SET, .ref b_ACQUIRE, .null, .null, .null, .null, .null, .null, .null, .null, .null, .null, .null, .null, .null, .null, .null, .null, .null, .null] := V4_3
  obtain ⟨T13, X13, e13, st13⟩ := getS X12 hx hZ (host := "") hown (hw _ (List.mem_of_getElem? (i := 12) rfl)) Via.refl e12 (S_TRY_ACQUIRE.ext XE12) (g := (mkF m 31 #[.val (.int p0), .val (.int p1), .val (.int p2), .unset, .unset, .unset, .unset, .unset, .unset] [(.int (4 : Int32)), (.ref b4), (.ref b4)])) rfl (hb hby at_31)
  obtain ⟨cl14, Ar14, q14, G14⟩ := id V4_3
  obtain ⟨T14, h14, X14, e14, W14, st14⟩ := stR X13 hx hZ e13 Ar14 (j := (4 : Int32)) (own_inb G14 22 rfl (by decide)) rfl (Sto.of Ar14 (by rw [q14]; exact O4) (Ins.self (E_TRY_ACQUIRE.ext XE12))) (g := (mkF m 34 #[.val (.int p0), .val (.int p1), .val (.int p2), .unset, .unset, .unset, .unset, .unset, .unset] [(.ref b_TRY_ACQUIRE), (.int (4 : Int32)), (.ref b4), (.ref b4)])) rfl rfl (hb hby at_34)
  have N14 := Fr.snoc X14 N12 gn4
  have XE14 : Ext h0 h14 := own_ext_wr XE12 W14 sz4
  have V4_4 := own_lst_set Ar14 q14 G14 W14
  have V4_4 : OwnLst Z h14 b4 (.object "com/example/passeren/passeren/sync/StepScheduler$Operation") k4 [.ref b_READ, .ref b_WRITE, .ref b_TEST_AND_SET, .ref b_ACQUIRE, .ref b_TRY_ACQUIRE, .null, .null, .null, .null, .null, .null, .null, .null, .null, .null, .null, .null, .null, .null, .null, .null, .null] := V4_4
  obtain ⟨T15, X15, e15, st15⟩ := getS X14 hx hZ (host := "") hown (hw _ (List.mem_of_getElem? (i := 14) rfl)) Via.refl e14 (S_AWAIT.ext XE14) (g := (mkF m 37 #[.val (.int p0), .val (.int p1), .val (.int p2), .unset, .unset, .unset, .unset, .unset, .unset] [(.int (5 : Int32)), (.ref b4), (.ref b4)])) rfl (hb hby at_37)
  obtain ⟨cl16, Ar16, q16, G16⟩ := id V4_4
  obtain ⟨T16, h16, X16, e16, W16, st16⟩ := stR X15 hx hZ e15 Ar16 (j := (5 : Int32)) (own_inb G16 22 rfl (by decide)) rfl (Sto.of Ar16 (by rw [q16]; exact O4) (Ins.self (E_AWAIT.ext XE14))) (g := (mkF m 40 #[.val (.int p0), .val (.int p1), .val (.int p2), .unset, .unset, .unset, .unset, .unset, .unset] [(.ref b_AWAIT), (.int (5 : Int32)), (.ref b4), (.ref b4)])) rfl rfl (hb hby at_40)
  have N16 := Fr.snoc X16 N14 gn4
  have XE16 : Ext h0 h16 := own_ext_wr XE14 W16 sz4
  have V4_5 := own_lst_set Ar16 q16 G16 W16
  have V4_5 : OwnLst Z h16 b4 (.object "com/example/passeren/passeren/sync/StepScheduler$Operation") k4 [.ref b_READ, .ref b_WRITE, .ref b_TEST_AND_SET, .ref b_ACQUIRE, .ref b_TRY_ACQUIRE, .ref b_AWAIT, .null, .null, .null, .null, .null, .null, .null, .null, .null, .null, .null, .null, .null, .null, .null, .null] := V4_5
  obtain ⟨T17, X17, e17, st17⟩ := getS X16 hx hZ (host := "") hown (hw _ (List.mem_of_getElem? (i := 16) rfl)) Via.refl e16 (S_RELEASE.ext XE16) (g := (mkF m 44 #[.val (.int p0), .val (.int p1), .val (.int p2), .unset, .unset, .unset, .unset, .unset, .unset] [(.int (6 : Int32)), (.ref b4), (.ref b4)])) rfl (hb hby at_44)
  obtain ⟨cl18, Ar18, q18, G18⟩ := id V4_5
  obtain ⟨T18, h18, X18, e18, W18, st18⟩ := stR X17 hx hZ e17 Ar18 (j := (6 : Int32)) (own_inb G18 22 rfl (by decide)) rfl (Sto.of Ar18 (by rw [q18]; exact O4) (Ins.self (E_RELEASE.ext XE16))) (g := (mkF m 47 #[.val (.int p0), .val (.int p1), .val (.int p2), .unset, .unset, .unset, .unset, .unset, .unset] [(.ref b_RELEASE), (.int (6 : Int32)), (.ref b4), (.ref b4)])) rfl rfl (hb hby at_47)
  have N18 := Fr.snoc X18 N16 gn4
  have XE18 : Ext h0 h18 := own_ext_wr XE16 W18 sz4
  have V4_6 := own_lst_set Ar18 q18 G18 W18
  have V4_6 : OwnLst Z h18 b4 (.object "com/example/passeren/passeren/sync/StepScheduler$Operation") k4 [.ref b_READ, .ref b_WRITE, .ref b_TEST_AND_SET, .ref b_ACQUIRE, .ref b_TRY_ACQUIRE, .ref b_AWAIT, .ref b_RELEASE, .null, .null, .null, .null, .null, .null, .null, .null, .null, .null, .null, .null, .null, .null, .null] := V4_6
  obtain ⟨T19, X19, e19, st19⟩ := getS X18 hx hZ (host := "") hown (hw _ (List.mem_of_getElem? (i := 18) rfl)) Via.refl e18 (S_DRAIN_PERMITS.ext XE18) (g := (mkF m 51 #[.val (.int p0), .val (.int p1), .val (.int p2), .unset, .unset, .unset, .unset, .unset, .unset] [(.int (7 : Int32)), (.ref b4), (.ref b4)])) rfl (hb hby at_51)
  obtain ⟨cl20, Ar20, q20, G20⟩ := id V4_6
  obtain ⟨T20, h20, X20, e20, W20, st20⟩ := stR X19 hx hZ e19 Ar20 (j := (7 : Int32)) (own_inb G20 22 rfl (by decide)) rfl (Sto.of Ar20 (by rw [q20]; exact O4) (Ins.self (E_DRAIN_PERMITS.ext XE18))) (g := (mkF m 54 #[.val (.int p0), .val (.int p1), .val (.int p2), .unset, .unset, .unset, .unset, .unset, .unset] [(.ref b_DRAIN_PERMITS), (.int (7 : Int32)), (.ref b4), (.ref b4)])) rfl rfl (hb hby at_54)
  have N20 := Fr.snoc X20 N18 gn4
  have XE20 : Ext h0 h20 := own_ext_wr XE18 W20 sz4
  have V4_7 := own_lst_set Ar20 q20 G20 W20
  have V4_7 : OwnLst Z h20 b4 (.object "com/example/passeren/passeren/sync/StepScheduler$Operation") k4 [.ref b_READ, .ref b_WRITE, .ref b_TEST_AND_SET, .ref b_ACQUIRE, .ref b_TRY_ACQUIRE, .ref b_AWAIT, .ref b_RELEASE, .ref b_DRAIN_PERMITS, .null, .null, .null, .null, .null, .null, .null, .null, .null, .null, .null, .null, .null, .null] := V4_7
  obtain ⟨T21, X21, e21, st21⟩ := getS X20 hx hZ (host := "") hown (hw _ (List.mem_of_getElem? (i := 20) rfl)) Via.refl e20 (S_AVAILABLE_PERMITS.ext XE20) (g := (mkF m 58 #[.val (.int p0), .val (.int p1), .val (.int p2), .unset, .unset, .unset, .unset, .unset, .unset] [(.int (8 : Int32)), (.ref b4), (.ref b4)])) rfl (hb hby at_58)
  obtain ⟨cl22, Ar22, q22, G22⟩ := id V4_7
  obtain ⟨T22, h22, X22, e22, W22, st22⟩ := stR X21 hx hZ e21 Ar22 (j := (8 : Int32)) (own_inb G22 22 rfl (by decide)) rfl (Sto.of Ar22 (by rw [q22]; exact O4) (Ins.self (E_AVAILABLE_PERMITS.ext XE20))) (g := (mkF m 61 #[.val (.int p0), .val (.int p1), .val (.int p2), .unset, .unset, .unset, .unset, .unset, .unset] [(.ref b_AVAILABLE_PERMITS), (.int (8 : Int32)), (.ref b4), (.ref b4)])) rfl rfl (hb hby at_61)
  have N22 := Fr.snoc X22 N20 gn4
  have XE22 : Ext h0 h22 := own_ext_wr XE20 W22 sz4
  have V4_8 := own_lst_set Ar22 q22 G22 W22
  have V4_8 : OwnLst Z h22 b4 (.object "com/example/passeren/passeren/sync/StepScheduler$Operation") k4 [.ref b_READ, .ref b_WRITE, .ref b_TEST_AND_SET, .ref b_ACQUIRE, .ref b_TRY_ACQUIRE, .ref b_AWAIT, .ref b_RELEASE, .ref b_DRAIN_PERMITS, .ref b_AVAILABLE_PERMITS, .null, .null, .null, .null, .null, .null, .null, .null, .null, .null, .null, .null, .null] := V4_8
  obtain ⟨T23, X23, e23, st23⟩ := getS X22 hx hZ (host := "") hown (hw _ (List.mem_of_getElem? (i := 22) rfl)) Via.refl e22 (S_HAS_QUEUED_THREADS.ext XE22) (g := (mkF m 65 #[.val (.int p0), .val (.int p1), .val (.int p2), .unset, .unset, .unset, .unset, .unset, .unset] [(.int (9 : Int32)), (.ref b4), (.ref b4)])) rfl (hb hby at_65)
  obtain ⟨cl24, Ar24, q24, G24⟩ := id V4_8
  obtain ⟨T24, h24, X24, e24, W24, st24⟩ := stR X23 hx hZ e23 Ar24 (j := (9 : Int32)) (own_inb G24 22 rfl (by decide)) rfl (Sto.of Ar24 (by rw [q24]; exact O4) (Ins.self (E_HAS_QUEUED_THREADS.ext XE22))) (g := (mkF m 68 #[.val (.int p0), .val (.int p1), .val (.int p2), .unset, .unset, .unset, .unset, .unset, .unset] [(.ref b_HAS_QUEUED_THREADS), (.int (9 : Int32)), (.ref b4), (.ref b4)])) rfl rfl (hb hby at_68)
  have N24 := Fr.snoc X24 N22 gn4
  have XE24 : Ext h0 h24 := own_ext_wr XE22 W24 sz4
  have V4_9 := own_lst_set Ar24 q24 G24 W24
  have V4_9 : OwnLst Z h24 b4 (.object "com/example/passeren/passeren/sync/StepScheduler$Operation") k4 [.ref b_READ, .ref b_WRITE, .ref b_TEST_AND_SET, .ref b_ACQUIRE, .ref b_TRY_ACQUIRE, .ref b_AWAIT, .ref b_RELEASE, .ref b_DRAIN_PERMITS, .ref b_AVAILABLE_PERMITS, .ref b_HAS_QUEUED_THREADS, .null, .null, .null, .null, .null, .null, .null, .null, .null, .null, .null, .null] := V4_9
  obtain ⟨T25, X25, e25, st25⟩ := getS X24 hx hZ (host := "") hown (hw _ (List.mem_of_getElem? (i := 24) rfl)) Via.refl e24 (S_GET_QUEUE_LENGTH.ext XE24) (g := (mkF m 72 #[.val (.int p0), .val (.int p1), .val (.int p2), .unset, .unset, .unset, .unset, .unset, .unset] [(.int (10 : Int32)), (.ref b4), (.ref b4)])) rfl (hb hby at_72)
  obtain ⟨cl26, Ar26, q26, G26⟩ := id V4_9
  obtain ⟨T26, h26, X26, e26, W26, st26⟩ := stR X25 hx hZ e25 Ar26 (j := (10 : Int32)) (own_inb G26 22 rfl (by decide)) rfl (Sto.of Ar26 (by rw [q26]; exact O4) (Ins.self (E_GET_QUEUE_LENGTH.ext XE24))) (g := (mkF m 75 #[.val (.int p0), .val (.int p1), .val (.int p2), .unset, .unset, .unset, .unset, .unset, .unset] [(.ref b_GET_QUEUE_LENGTH), (.int (10 : Int32)), (.ref b4), (.ref b4)])) rfl rfl (hb hby at_75)
  have N26 := Fr.snoc X26 N24 gn4
  have XE26 : Ext h0 h26 := own_ext_wr XE24 W26 sz4
  have V4_10 := own_lst_set Ar26 q26 G26 W26
  have V4_10 : OwnLst Z h26 b4 (.object "com/example/passeren/passeren/sync/StepScheduler$Operation") k4 [.ref b_READ, .ref b_WRITE, .ref b_TEST_AND_SET, .ref b_ACQUIRE, .ref b_TRY_ACQUIRE, .ref b_AWAIT, .ref b_RELEASE, .ref b_DRAIN_PERMITS, .ref b_AVAILABLE_PERMITS, .ref b_HAS_QUEUED_THREADS, .ref b_GET_QUEUE_LENGTH, .null, .null, .null, .null, .null, .null, .null, .null, .null, .null, .null] := V4_10
  obtain ⟨T27, X27, e27, st27⟩ := getS X26 hx hZ (host := "") hown (hw _ (List.mem_of_getElem? (i := 26) rfl)) Via.refl e26 (S_ENTER.ext XE26) (g := (mkF m 79 #[.val (.int p0), .val (.int p1), .val (.int p2), .unset, .unset, .unset, .unset, .unset, .unset] [(.int (11 : Int32)), (.ref b4), (.ref b4)])) rfl (hb hby at_79)
  obtain ⟨cl28, Ar28, q28, G28⟩ := id V4_10
  obtain ⟨T28, h28, X28, e28, W28, st28⟩ := stR X27 hx hZ e27 Ar28 (j := (11 : Int32)) (own_inb G28 22 rfl (by decide)) rfl (Sto.of Ar28 (by rw [q28]; exact O4) (Ins.self (E_ENTER.ext XE26))) (g := (mkF m 82 #[.val (.int p0), .val (.int p1), .val (.int p2), .unset, .unset, .unset, .unset, .unset, .unset] [(.ref b_ENTER), (.int (11 : Int32)), (.ref b4), (.ref b4)])) rfl rfl (hb hby at_82)
  have N28 := Fr.snoc X28 N26 gn4
  have XE28 : Ext h0 h28 := own_ext_wr XE26 W28 sz4
  have V4_11 := own_lst_set Ar28 q28 G28 W28
  have V4_11 : OwnLst Z h28 b4 (.object "com/example/passeren/passeren/sync/StepScheduler$Operation") k4 [.ref b_READ, .ref b_WRITE, .ref b_TEST_AND_SET, .ref b_ACQUIRE, .ref b_TRY_ACQUIRE, .ref b_AWAIT, .ref b_RELEASE, .ref b_DRAIN_PERMITS, .ref b_AVAILABLE_PERMITS, .ref b_HAS_QUEUED_THREADS, .ref b_GET_QUEUE_LENGTH, .ref b_ENTER, .null, .null, .null, .null, .null, .null, .null, .null, .null, .null] := V4_11
  obtain ⟨T29, X29, e29, st29⟩ := getS X28 hx hZ (host := "") hown (hw _ (List.mem_of_getElem? (i := 28) rfl)) Via.refl e28 (S_EXIT.ext XE28) (g := (mkF m 86 #[.val (.int p0), .val (.int p1), .val (.int p2), .unset, .unset, .unset, .unset, .unset, .unset] [(.int (12 : Int32)), (.ref b4), (.ref b4)])) rfl (hb hby at_86)
  obtain ⟨cl30, Ar30, q30, G30⟩ := id V4_11
  obtain ⟨T30, h30, X30, e30, W30, st30⟩ := stR X29 hx hZ e29 Ar30 (j := (12 : Int32)) (own_inb G30 22 rfl (by decide)) rfl (Sto.of Ar30 (by rw [q30]; exact O4) (Ins.self (E_EXIT.ext XE28))) (g := (mkF m 89 #[.val (.int p0), .val (.int p1), .val (.int p2), .unset, .unset, .unset, .unset, .unset, .unset] [(.ref b_EXIT), (.int (12 : Int32)), (.ref b4), (.ref b4)])) rfl rfl (hb hby at_89)
  have N30 := Fr.snoc X30 N28 gn4
  have XE30 : Ext h0 h30 := own_ext_wr XE28 W30 sz4
  have V4_12 := own_lst_set Ar30 q30 G30 W30
  have V4_12 : OwnLst Z h30 b4 (.object "com/example/passeren/passeren/sync/StepScheduler$Operation") k4 [.ref b_READ, .ref b_WRITE, .ref b_TEST_AND_SET, .ref b_ACQUIRE, .ref b_TRY_ACQUIRE, .ref b_AWAIT, .ref b_RELEASE, .ref b_DRAIN_PERMITS, .ref b_AVAILABLE_PERMITS, .ref b_HAS_QUEUED_THREADS, .ref b_GET_QUEUE_LENGTH, .ref b_ENTER, .ref b_EXIT, .null, .null, .null, .null, .null, .null, .null, .null, .null] := V4_12
  obtain ⟨T31, X31, e31, st31⟩ := getS X30 hx hZ (host := "") hown (hw _ (List.mem_of_getElem? (i := 30) rfl)) Via.refl e30 (S_WAIT.ext XE30) (g := (mkF m 93 #[.val (.int p0), .val (.int p1), .val (.int p2), .unset, .unset, .unset, .unset, .unset, .unset] [(.int (13 : Int32)), (.ref b4), (.ref b4)])) rfl (hb hby at_93)
  obtain ⟨cl32, Ar32, q32, G32⟩ := id V4_12
  obtain ⟨T32, h32, X32, e32, W32, st32⟩ := stR X31 hx hZ e31 Ar32 (j := (13 : Int32)) (own_inb G32 22 rfl (by decide)) rfl (Sto.of Ar32 (by rw [q32]; exact O4) (Ins.self (E_WAIT.ext XE30))) (g := (mkF m 96 #[.val (.int p0), .val (.int p1), .val (.int p2), .unset, .unset, .unset, .unset, .unset, .unset] [(.ref b_WAIT), (.int (13 : Int32)), (.ref b4), (.ref b4)])) rfl rfl (hb hby at_96)
  have N32 := Fr.snoc X32 N30 gn4
  have XE32 : Ext h0 h32 := own_ext_wr XE30 W32 sz4
  have V4_13 := own_lst_set Ar32 q32 G32 W32
  have V4_13 : OwnLst Z h32 b4 (.object "com/example/passeren/passeren/sync/StepScheduler$Operation") k4 [.ref b_READ, .ref b_WRITE, .ref b_TEST_AND_SET, .ref b_ACQUIRE, .ref b_TRY_ACQUIRE, .ref b_AWAIT, .ref b_RELEASE, .ref b_DRAIN_PERMITS, .ref b_AVAILABLE_PERMITS, .ref b_HAS_QUEUED_THREADS, .ref b_GET_QUEUE_LENGTH, .ref b_ENTER, .ref b_EXIT, .ref b_WAIT, .null, .null, .null, .null, .null, .null, .null, .null] := V4_13
  obtain ⟨T33, X33, e33, st33⟩ := getS X32 hx hZ (host := "") hown (hw _ (List.mem_of_getElem? (i := 32) rfl)) Via.refl e32 (S_SIGNAL.ext XE32) (g := (mkF m 100 #[.val (.int p0), .val (.int p1), .val (.int p2), .unset, .unset, .unset, .unset, .unset, .unset] [(.int (14 : Int32)), (.ref b4), (.ref b4)])) rfl (hb hby at_100)
  obtain ⟨cl34, Ar34, q34, G34⟩ := id V4_13
  obtain ⟨T34, h34, X34, e34, W34, st34⟩ := stR X33 hx hZ e33 Ar34 (j := (14 : Int32)) (own_inb G34 22 rfl (by decide)) rfl (Sto.of Ar34 (by rw [q34]; exact O4) (Ins.self (E_SIGNAL.ext XE32))) (g := (mkF m 103 #[.val (.int p0), .val (.int p1), .val (.int p2), .unset, .unset, .unset, .unset, .unset, .unset] [(.ref b_SIGNAL), (.int (14 : Int32)), (.ref b4), (.ref b4)])) rfl rfl (hb hby at_103)
  have N34 := Fr.snoc X34 N32 gn4
  have XE34 : Ext h0 h34 := own_ext_wr XE32 W34 sz4
  have V4_14 := own_lst_set Ar34 q34 G34 W34
  have V4_14 : OwnLst Z h34 b4 (.object "com/example/passeren/passeren/sync/StepScheduler$Operation") k4 [.ref b_READ, .ref b_WRITE, .ref b_TEST_AND_SET, .ref b_ACQUIRE, .ref b_TRY_ACQUIRE, .ref b_AWAIT, .ref b_RELEASE, .ref b_DRAIN_PERMITS, .ref b_AVAILABLE_PERMITS, .ref b_HAS_QUEUED_THREADS, .ref b_GET_QUEUE_LENGTH, .ref b_ENTER, .ref b_EXIT, .ref b_WAIT, .ref b_SIGNAL, .null, .null, .null, .null, .null, .null, .null] := V4_14
  obtain ⟨T35, X35, e35, st35⟩ := getS X34 hx hZ (host := "") hown (hw _ (List.mem_of_getElem? (i := 34) rfl)) Via.refl e34 (S_SIGNAL_ALL.ext XE34) (g := (mkF m 107 #[.val (.int p0), .val (.int p1), .val (.int p2), .unset, .unset, .unset, .unset, .unset, .unset] [(.int (15 : Int32)), (.ref b4), (.ref b4)])) rfl (hb hby at_107)
  obtain ⟨cl36, Ar36, q36, G36⟩ := id V4_14
  obtain ⟨T36, h36, X36, e36, W36, st36⟩ := stR X35 hx hZ e35 Ar36 (j := (15 : Int32)) (own_inb G36 22 rfl (by decide)) rfl (Sto.of Ar36 (by rw [q36]; exact O4) (Ins.self (E_SIGNAL_ALL.ext XE34))) (g := (mkF m 110 #[.val (.int p0), .val (.int p1), .val (.int p2), .unset, .unset, .unset, .unset, .unset, .unset] [(.ref b_SIGNAL_ALL), (.int (15 : Int32)), (.ref b4), (.ref b4)])) rfl rfl (hb hby at_110)
  have N36 := Fr.snoc X36 N34 gn4
  have XE36 : Ext h0 h36 := own_ext_wr XE34 W36 sz4
  have V4_15 := own_lst_set Ar36 q36 G36 W36
  have V4_15 : OwnLst Z h36 b4 (.object "com/example/passeren/passeren/sync/StepScheduler$Operation") k4 [.ref b_READ, .ref b_WRITE, .ref b_TEST_AND_SET, .ref b_ACQUIRE, .ref b_TRY_ACQUIRE, .ref b_AWAIT, .ref b_RELEASE, .ref b_DRAIN_PERMITS, .ref b_AVAILABLE_PERMITS, .ref b_HAS_QUEUED_THREADS, .ref b_GET_QUEUE_LENGTH, .ref b_ENTER, .ref b_EXIT, .ref b_WAIT, .ref b_SIGNAL, .ref b_SIGNAL_ALL, .null, .null, .null, .null, .null, .null] := V4_15
  obtain ⟨T37, X37, e37, st37⟩ := getS X36 hx hZ (host := "") hown (hw _ (List.mem_of_getElem? (i := 36) rfl)) Via.refl e36 (S_IS_EMPTY.ext XE36) (g := (mkF m 114 #[.val (.int p0), .val (.int p1), .val (.int p2), .unset, .unset, .unset, .unset, .unset, .unset] [(.int (16 : Int32)), (.ref b4), (.ref b4)])) rfl (hb hby at_114)
  obtain ⟨cl38, Ar38, q38, G38⟩ := id V4_15
  obtain ⟨T38, h38, X38, e38, W38, st38⟩ := stR X37 hx hZ e37 Ar38 (j := (16 : Int32)) (own_inb G38 22 rfl (by decide)) rfl (Sto.of Ar38 (by rw [q38]; exact O4) (Ins.self (E_IS_EMPTY.ext XE36))) (g := (mkF m 117 #[.val (.int p0), .val (.int p1), .val (.int p2), .unset, .unset, .unset, .unset, .unset, .unset] [(.ref b_IS_EMPTY), (.int (16 : Int32)), (.ref b4), (.ref b4)])) rfl rfl (hb hby at_117)
  have N38 := Fr.snoc X38 N36 gn4
  have XE38 : Ext h0 h38 := own_ext_wr XE36 W38 sz4
  have V4_16 := own_lst_set Ar38 q38 G38 W38
  have V4_16 : OwnLst Z h38 b4 (.object "com/example/passeren/passeren/sync/StepScheduler$Operation") k4 [.ref b_READ, .ref b_WRITE, .ref b_TEST_AND_SET, .ref b_ACQUIRE, .ref b_TRY_ACQUIRE, .ref b_AWAIT, .ref b_RELEASE, .ref b_DRAIN_PERMITS, .ref b_AVAILABLE_PERMITS, .ref b_HAS_QUEUED_THREADS, .ref b_GET_QUEUE_LENGTH, .ref b_ENTER, .ref b_EXIT, .ref b_WAIT, .ref b_SIGNAL, .ref b_SIGNAL_ALL, .ref b_IS_EMPTY, .null, .null, .null, .null, .null] := V4_16
  obtain ⟨T39, X39, e39, st39⟩ := getS X38 hx hZ (host := "") hown (hw _ (List.mem_of_getElem? (i := 38) rfl)) Via.refl e38 (S_GET_ENTRY_QUEUE_LENGTH.ext XE38) (g := (mkF m 121 #[.val (.int p0), .val (.int p1), .val (.int p2), .unset, .unset, .unset, .unset, .unset, .unset] [(.int (17 : Int32)), (.ref b4), (.ref b4)])) rfl (hb hby at_121)
  obtain ⟨cl40, Ar40, q40, G40⟩ := id V4_16
  obtain ⟨T40, h40, X40, e40, W40, st40⟩ := stR X39 hx hZ e39 Ar40 (j := (17 : Int32)) (own_inb G40 22 rfl (by decide)) rfl (Sto.of Ar40 (by rw [q40]; exact O4) (Ins.self (E_GET_ENTRY_QUEUE_LENGTH.ext XE38))) (g := (mkF m 124 #[.val (.int p0), .val (.int p1), .val (.int p2), .unset, .unset, .unset, .unset, .unset, .unset] [(.ref b_GET_ENTRY_QUEUE_LENGTH), (.int (17 : Int32)), (.ref b4), (.ref b4)])) rfl rfl (hb hby at_124)
  have N40 := Fr.snoc X40 N38 gn4
  have XE40 : Ext h0 h40 := own_ext_wr XE38 W40 sz4
  have V4_17 := own_lst_set Ar40 q40 G40 W40
  have V4_17 : OwnLst Z h40 b4 (.object "com/example/passeren/passeren/sync/StepScheduler$Operation") k4 [.ref b_READ, .ref b_WRITE, .ref b_TEST_AND_SET, .ref b_ACQUIRE, .ref b_TRY_ACQUIRE, .ref b_AWAIT, .ref b_RELEASE, .ref b_DRAIN_PERMITS, .ref b_AVAILABLE_PERMITS, .ref b_HAS_QUEUED_THREADS, .ref b_GET_QUEUE_LENGTH, .ref b_ENTER, .ref b_EXIT, .ref b_WAIT, .ref b_SIGNAL, .ref b_SIGNAL_ALL, .ref b_IS_EMPTY, .ref b_GET_ENTRY_QUEUE_LENGTH, .null, .null, .null, .null] := V4_17
  obtain ⟨T41, X41, e41, st41⟩ := getS X40 hx hZ (host := "") hown (hw _ (List.mem_of_getElem? (i := 40) rfl)) Via.refl e40 (S_READ_LOCK.ext XE40) (g := (mkF m 128 #[.val (.int p0), .val (.int p1), .val (.int p2), .unset, .unset, .unset, .unset, .unset, .unset] [(.int (18 : Int32)), (.ref b4), (.ref b4)])) rfl (hb hby at_128)
  obtain ⟨cl42, Ar42, q42, G42⟩ := id V4_17
  obtain ⟨T42, h42, X42, e42, W42, st42⟩ := stR X41 hx hZ e41 Ar42 (j := (18 : Int32)) (own_inb G42 22 rfl (by decide)) rfl (Sto.of Ar42 (by rw [q42]; exact O4) (Ins.self (E_READ_LOCK.ext XE40))) (g := (mkF m 131 #[.val (.int p0), .val (.int p1), .val (.int p2), .unset, .unset, .unset, .unset, .unset, .unset] [(.ref b_READ_LOCK), (.int (18 : Int32)), (.ref b4), (.ref b4)])) rfl rfl (hb hby at_131)
  have N42 := Fr.snoc X42 N40 gn4
  have XE42 : Ext h0 h42 := own_ext_wr XE40 W42 sz4
  have V4_18 := own_lst_set Ar42 q42 G42 W42
  have V4_18 : OwnLst Z h42 b4 (.object "com/example/passeren/passeren/sync/StepScheduler$Operation") k4 [.ref b_READ, .ref b_WRITE, .ref b_TEST_AND_SET, .ref b_ACQUIRE, .ref b_TRY_ACQUIRE, .ref b_AWAIT, .ref b_RELEASE, .ref b_DRAIN_PERMITS, .ref b_AVAILABLE_PERMITS, .ref b_HAS_QUEUED_THREADS, .ref b_GET_QUEUE_LENGTH, .ref b_ENTER, .ref b_EXIT, .ref b_WAIT, .ref b_SIGNAL, .ref b_SIGNAL_ALL, .ref b_IS_EMPTY, .ref b_GET_ENTRY_QUEUE_LENGTH, .ref b_READ_LOCK, .null, .null, .null] := V4_18
  obtain ⟨T43, X43, e43, st43⟩ := getS X42 hx hZ (host := "") hown (hw _ (List.mem_of_getElem? (i := 42) rfl)) Via.refl e42 (S_READ_UNLOCK.ext XE42) (g := (mkF m 135 #[.val (.int p0), .val (.int p1), .val (.int p2), .unset, .unset, .unset, .unset, .unset, .unset] [(.int (19 : Int32)), (.ref b4), (.ref b4)])) rfl (hb hby at_135)
  obtain ⟨cl44, Ar44, q44, G44⟩ := id V4_18
  obtain ⟨T44, h44, X44, e44, W44, st44⟩ := stR X43 hx hZ e43 Ar44 (j := (19 : Int32)) (own_inb G44 22 rfl (by decide)) rfl (Sto.of Ar44 (by rw [q44]; exact O4) (Ins.self (E_READ_UNLOCK.ext XE42))) (g := (mkF m 138 #[.val (.int p0), .val (.int p1), .val (.int p2), .unset, .unset, .unset, .unset, .unset, .unset] [(.ref b_READ_UNLOCK), (.int (19 : Int32)), (.ref b4), (.ref b4)])) rfl rfl (hb hby at_138)
  have N44 := Fr.snoc X44 N42 gn4
  have XE44 : Ext h0 h44 := own_ext_wr XE42 W44 sz4
  have V4_19 := own_lst_set Ar44 q44 G44 W44
  have V4_19 : OwnLst Z h44 b4 (.object "com/example/passeren/passeren/sync/StepScheduler$Operation") k4 [.ref b_READ, .ref b_WRITE, .ref b_TEST_AND_SET, .ref b_ACQUIRE, .ref b_TRY_ACQUIRE, .ref b_AWAIT, .ref b_RELEASE, .ref b_DRAIN_PERMITS, .ref b_AVAILABLE_PERMITS, .ref b_HAS_QUEUED_THREADS, .ref b_GET_QUEUE_LENGTH, .ref b_ENTER, .ref b_EXIT, .ref b_WAIT, .ref b_SIGNAL, .ref b_SIGNAL_ALL, .ref b_IS_EMPTY, .ref b_GET_ENTRY_QUEUE_LENGTH, .ref b_READ_LOCK, .ref b_READ_UNLOCK, .null, .null] := V4_19
  obtain ⟨T45, X45, e45, st45⟩ := getS X44 hx hZ (host := "") hown (hw _ (List.mem_of_getElem? (i := 44) rfl)) Via.refl e44 (S_WRITE_LOCK.ext XE44) (g := (mkF m 142 #[.val (.int p0), .val (.int p1), .val (.int p2), .unset, .unset, .unset, .unset, .unset, .unset] [(.int (20 : Int32)), (.ref b4), (.ref b4)])) rfl (hb hby at_142)
  obtain ⟨cl46, Ar46, q46, G46⟩ := id V4_19
  obtain ⟨T46, h46, X46, e46, W46, st46⟩ := stR X45 hx hZ e45 Ar46 (j := (20 : Int32)) (own_inb G46 22 rfl (by decide)) rfl (Sto.of Ar46 (by rw [q46]; exact O4) (Ins.self (E_WRITE_LOCK.ext XE44))) (g := (mkF m 145 #[.val (.int p0), .val (.int p1), .val (.int p2), .unset, .unset, .unset, .unset, .unset, .unset] [(.ref b_WRITE_LOCK), (.int (20 : Int32)), (.ref b4), (.ref b4)])) rfl rfl (hb hby at_145)
  have N46 := Fr.snoc X46 N44 gn4
  have XE46 : Ext h0 h46 := own_ext_wr XE44 W46 sz4
  have V4_20 := own_lst_set Ar46 q46 G46 W46
  have V4_20 : OwnLst Z h46 b4 (.object "com/example/passeren/passeren/sync/StepScheduler$Operation") k4 [.ref b_READ, .ref b_WRITE, .ref b_TEST_AND_SET, .ref b_ACQUIRE, .ref b_TRY_ACQUIRE, .ref b_AWAIT, .ref b_RELEASE, .ref b_DRAIN_PERMITS, .ref b_AVAILABLE_PERMITS, .ref b_HAS_QUEUED_THREADS, .ref b_GET_QUEUE_LENGTH, .ref b_ENTER, .ref b_EXIT, .ref b_WAIT, .ref b_SIGNAL, .ref b_SIGNAL_ALL, .ref b_IS_EMPTY, .ref b_GET_ENTRY_QUEUE_LENGTH, .ref b_READ_LOCK, .ref b_READ_UNLOCK, .ref b_WRITE_LOCK, .null] := V4_20
  obtain ⟨T47, X47, e47, st47⟩ := getS X46 hx hZ (host := "") hown (hw _ (List.mem_of_getElem? (i := 46) rfl)) Via.refl e46 (S_WRITE_UNLOCK.ext XE46) (g := (mkF m 149 #[.val (.int p0), .val (.int p1), .val (.int p2), .unset, .unset, .unset, .unset, .unset, .unset] [(.int (21 : Int32)), (.ref b4), (.ref b4)])) rfl (hb hby at_149)
  obtain ⟨cl48, Ar48, q48, G48⟩ := id V4_20
  obtain ⟨T48, h48, X48, e48, W48, st48⟩ := stR X47 hx hZ e47 Ar48 (j := (21 : Int32)) (own_inb G48 22 rfl (by decide)) rfl (Sto.of Ar48 (by rw [q48]; exact O4) (Ins.self (E_WRITE_UNLOCK.ext XE46))) (g := (mkF m 152 #[.val (.int p0), .val (.int p1), .val (.int p2), .unset, .unset, .unset, .unset, .unset, .unset] [(.ref b_WRITE_UNLOCK), (.int (21 : Int32)), (.ref b4), (.ref b4)])) rfl rfl (hb hby at_152)
  have N48 := Fr.snoc X48 N46 gn4
  have XE48 : Ext h0 h48 := own_ext_wr XE46 W48 sz4
  have V4_21 := own_lst_set Ar48 q48 G48 W48
  have V4_21 : OwnLst Z h48 b4 (.object "com/example/passeren/passeren/sync/StepScheduler$Operation") k4 [.ref b_READ, .ref b_WRITE, .ref b_TEST_AND_SET, .ref b_ACQUIRE, .ref b_TRY_ACQUIRE, .ref b_AWAIT, .ref b_RELEASE, .ref b_DRAIN_PERMITS, .ref b_AVAILABLE_PERMITS, .ref b_HAS_QUEUED_THREADS, .ref b_GET_QUEUE_LENGTH, .ref b_ENTER, .ref b_EXIT, .ref b_WAIT, .ref b_SIGNAL, .ref b_SIGNAL_ALL, .ref b_IS_EMPTY, .ref b_GET_ENTRY_QUEUE_LENGTH, .ref b_READ_LOCK, .ref b_READ_UNLOCK, .ref b_WRITE_LOCK, .ref b_WRITE_UNLOCK] := V4_21
  obtain ⟨T49, X49, e49, st49⟩ := own_join X48 (h := h48) (g := (mkF m 170 #[.val (.int p0), .val (.int p1), .val (.int p2), .val (.ref b4), .val (.int K), .val (.int (p1 &&& (3 : Int32))), .unset, .unset, .unset] [(.int (p1 &&& (3 : Int32)))])) (g' := (mkF m 206 #[.val (.int p0), .val (.int p1), .val (.int p2), .val (.ref b4), .val (.int K), .val (.int (p1 &&& (3 : Int32))), .val (.int R), .unset, .unset] [])) (by
    rcases hR with ⟨q, rfl⟩ | ⟨q, rfl⟩ | ⟨q, rfl⟩ | ⟨q, rfl⟩
    · refine ⟨T48, X48, e48, fun target k => ?_⟩
      show Steps p.tables e below (T48.setTop (mkF m 170 #[.val (.int p0), .val (.int p1), .val (.int p2), .val (.ref b4), .val (.int K), .val (.int (p1 &&& (3 : Int32))), .unset, .unset, .unset] [(.int (p1 &&& (3 : Int32)))])) _
      refine XS.ifNo X48.here hx rfl (hb hby at_170) rfl ((if0 _ _).trans (teq q).2) ?_
      show Steps p.tables e below (T48.setTop (mkF m 173 #[.val (.int p0), .val (.int p1), .val (.int p2), .val (.ref b4), .val (.int K), .val (.int (p1 &&& (3 : Int32))), .unset, .unset, .unset] [])) _
      refine XS.iconst X48.here hx rfl (hb hby at_173) ?_
      show Steps p.tables e below (T48.setTop (mkF m 174 #[.val (.int p0), .val (.int p1), .val (.int p2), .val (.ref b4), .val (.int K), .val (.int (p1 &&& (3 : Int32))), .unset, .unset, .unset] [(.int (1 : Int32))])) _
      refine XS.istore X48.here hx rfl (hb hby at_174) rfl (l' := #[.val (.int p0), .val (.int p1), .val (.int p2), .val (.ref b4), .val (.int K), .val (.int (p1 &&& (3 : Int32))), .val (.int (1 : Int32)), .unset, .unset]) rfl ?_
      show Steps p.tables e below (T48.setTop (mkF m 176 #[.val (.int p0), .val (.int p1), .val (.int p2), .val (.ref b4), .val (.int K), .val (.int (p1 &&& (3 : Int32))), .val (.int (1 : Int32)), .unset, .unset] [])) _
      refine XS.goto X48.here hx rfl (pc0 := 176) (pc' := 206) rfl (hb hby at_176) (by decide) (by decide) ?_
      exact k
    · refine ⟨T48, X48, e48, fun target k => ?_⟩
      show Steps p.tables e below (T48.setTop (mkF m 170 #[.val (.int p0), .val (.int p1), .val (.int p2), .val (.ref b4), .val (.int K), .val (.int (p1 &&& (3 : Int32))), .unset, .unset, .unset] [(.int (p1 &&& (3 : Int32)))])) _
      refine XS.ifYes X48.here hx rfl (pc0 := 170) (pc' := 179) rfl (hb hby at_170) rfl ((if0 _ _).trans (feq (fun z => absurd (q.symm.trans z) (by decide))).2) (by decide) (by decide) ?_
      show Steps p.tables e below (T48.setTop (mkF m 179 #[.val (.int p0), .val (.int p1), .val (.int p2), .val (.ref b4), .val (.int K), .val (.int (p1 &&& (3 : Int32))), .unset, .unset, .unset] [])) _
      refine XS.iload X48.here hx rfl (hb hby at_179) rfl ?_
      show Steps p.tables e below (T48.setTop (mkF m 181 #[.val (.int p0), .val (.int p1), .val (.int p2), .val (.ref b4), .val (.int K), .val (.int (p1 &&& (3 : Int32))), .unset, .unset, .unset] [(.int (p1 &&& (3 : Int32)))])) _
      refine XS.iconst X48.here hx rfl (hb hby at_181) ?_
      show Steps p.tables e below (T48.setTop (mkF m 182 #[.val (.int p0), .val (.int p1), .val (.int p2), .val (.ref b4), .val (.int K), .val (.int (p1 &&& (3 : Int32))), .unset, .unset, .unset] [(.int (1 : Int32)), (.int (p1 &&& (3 : Int32)))])) _
      refine XS.icmpNo X48.here hx rfl (hb hby at_182) rfl (teq q).2 ?_
      show Steps p.tables e below (T48.setTop (mkF m 185 #[.val (.int p0), .val (.int p1), .val (.int p2), .val (.ref b4), .val (.int K), .val (.int (p1 &&& (3 : Int32))), .unset, .unset, .unset] [])) _
      refine XS.iconst X48.here hx rfl (hb hby at_185) ?_
      show Steps p.tables e below (T48.setTop (mkF m 186 #[.val (.int p0), .val (.int p1), .val (.int p2), .val (.ref b4), .val (.int K), .val (.int (p1 &&& (3 : Int32))), .unset, .unset, .unset] [(.int (0 : Int32))])) _
      refine XS.istore X48.here hx rfl (hb hby at_186) rfl (l' := #[.val (.int p0), .val (.int p1), .val (.int p2), .val (.ref b4), .val (.int K), .val (.int (p1 &&& (3 : Int32))), .val (.int (0 : Int32)), .unset, .unset]) rfl ?_
      show Steps p.tables e below (T48.setTop (mkF m 188 #[.val (.int p0), .val (.int p1), .val (.int p2), .val (.ref b4), .val (.int K), .val (.int (p1 &&& (3 : Int32))), .val (.int (0 : Int32)), .unset, .unset] [])) _
      refine XS.goto X48.here hx rfl (pc0 := 188) (pc' := 206) rfl (hb hby at_188) (by decide) (by decide) ?_
      exact k
    · refine ⟨T48, X48, e48, fun target k => ?_⟩
      show Steps p.tables e below (T48.setTop (mkF m 170 #[.val (.int p0), .val (.int p1), .val (.int p2), .val (.ref b4), .val (.int K), .val (.int (p1 &&& (3 : Int32))), .unset, .unset, .unset] [(.int (p1 &&& (3 : Int32)))])) _
      refine XS.ifYes X48.here hx rfl (pc0 := 170) (pc' := 179) rfl (hb hby at_170) rfl ((if0 _ _).trans (feq (fun z => absurd (q.symm.trans z) (by decide))).2) (by decide) (by decide) ?_
      show Steps p.tables e below (T48.setTop (mkF m 179 #[.val (.int p0), .val (.int p1), .val (.int p2), .val (.ref b4), .val (.int K), .val (.int (p1 &&& (3 : Int32))), .unset, .unset, .unset] [])) _
      refine XS.iload X48.here hx rfl (hb hby at_179) rfl ?_
      show Steps p.tables e below (T48.setTop (mkF m 181 #[.val (.int p0), .val (.int p1), .val (.int p2), .val (.ref b4), .val (.int K), .val (.int (p1 &&& (3 : Int32))), .unset, .unset, .unset] [(.int (p1 &&& (3 : Int32)))])) _
      refine XS.iconst X48.here hx rfl (hb hby at_181) ?_
      show Steps p.tables e below (T48.setTop (mkF m 182 #[.val (.int p0), .val (.int p1), .val (.int p2), .val (.ref b4), .val (.int K), .val (.int (p1 &&& (3 : Int32))), .unset, .unset, .unset] [(.int (1 : Int32)), (.int (p1 &&& (3 : Int32)))])) _
      refine XS.icmpYes X48.here hx rfl (pc0 := 182) (pc' := 191) rfl (hb hby at_182) rfl (feq (fun z => absurd (q.symm.trans z) (by decide))).2 (by decide) (by decide) ?_
      show Steps p.tables e below (T48.setTop (mkF m 191 #[.val (.int p0), .val (.int p1), .val (.int p2), .val (.ref b4), .val (.int K), .val (.int (p1 &&& (3 : Int32))), .unset, .unset, .unset] [])) _
      refine XS.iload X48.here hx rfl (hb hby at_191) rfl ?_
      show Steps p.tables e below (T48.setTop (mkF m 193 #[.val (.int p0), .val (.int p1), .val (.int p2), .val (.ref b4), .val (.int K), .val (.int (p1 &&& (3 : Int32))), .unset, .unset, .unset] [(.int (p1 &&& (3 : Int32)))])) _
      refine XS.iconst X48.here hx rfl (hb hby at_193) ?_
      show Steps p.tables e below (T48.setTop (mkF m 194 #[.val (.int p0), .val (.int p1), .val (.int p2), .val (.ref b4), .val (.int K), .val (.int (p1 &&& (3 : Int32))), .unset, .unset, .unset] [(.int (2 : Int32)), (.int (p1 &&& (3 : Int32)))])) _
      refine XS.icmpNo X48.here hx rfl (hb hby at_194) rfl (teq q).2 ?_
      show Steps p.tables e below (T48.setTop (mkF m 197 #[.val (.int p0), .val (.int p1), .val (.int p2), .val (.ref b4), .val (.int K), .val (.int (p1 &&& (3 : Int32))), .unset, .unset, .unset] [])) _
      refine XS.iconst X48.here hx rfl (hb hby at_197) ?_
      show Steps p.tables e below (T48.setTop (mkF m 198 #[.val (.int p0), .val (.int p1), .val (.int p2), .val (.ref b4), .val (.int K), .val (.int (p1 &&& (3 : Int32))), .unset, .unset, .unset] [(.int (2 : Int32))])) _
      refine XS.istore X48.here hx rfl (hb hby at_198) rfl (l' := #[.val (.int p0), .val (.int p1), .val (.int p2), .val (.ref b4), .val (.int K), .val (.int (p1 &&& (3 : Int32))), .val (.int (2 : Int32)), .unset, .unset]) rfl ?_
      show Steps p.tables e below (T48.setTop (mkF m 200 #[.val (.int p0), .val (.int p1), .val (.int p2), .val (.ref b4), .val (.int K), .val (.int (p1 &&& (3 : Int32))), .val (.int (2 : Int32)), .unset, .unset] [])) _
      refine XS.goto X48.here hx rfl (pc0 := 200) (pc' := 206) rfl (hb hby at_200) (by decide) (by decide) ?_
      exact k
    · refine ⟨T48, X48, e48, fun target k => ?_⟩
      show Steps p.tables e below (T48.setTop (mkF m 170 #[.val (.int p0), .val (.int p1), .val (.int p2), .val (.ref b4), .val (.int K), .val (.int (p1 &&& (3 : Int32))), .unset, .unset, .unset] [(.int (p1 &&& (3 : Int32)))])) _
      refine XS.ifYes X48.here hx rfl (pc0 := 170) (pc' := 179) rfl (hb hby at_170) rfl ((if0 _ _).trans (feq (fun z => absurd (q.symm.trans z) (by decide))).2) (by decide) (by decide) ?_
      show Steps p.tables e below (T48.setTop (mkF m 179 #[.val (.int p0), .val (.int p1), .val (.int p2), .val (.ref b4), .val (.int K), .val (.int (p1 &&& (3 : Int32))), .unset, .unset, .unset] [])) _
      refine XS.iload X48.here hx rfl (hb hby at_179) rfl ?_
      show Steps p.tables e below (T48.setTop (mkF m 181 #[.val (.int p0), .val (.int p1), .val (.int p2), .val (.ref b4), .val (.int K), .val (.int (p1 &&& (3 : Int32))), .unset, .unset, .unset] [(.int (p1 &&& (3 : Int32)))])) _
      refine XS.iconst X48.here hx rfl (hb hby at_181) ?_
      show Steps p.tables e below (T48.setTop (mkF m 182 #[.val (.int p0), .val (.int p1), .val (.int p2), .val (.ref b4), .val (.int K), .val (.int (p1 &&& (3 : Int32))), .unset, .unset, .unset] [(.int (1 : Int32)), (.int (p1 &&& (3 : Int32)))])) _
      refine XS.icmpYes X48.here hx rfl (pc0 := 182) (pc' := 191) rfl (hb hby at_182) rfl (feq (fun z => absurd (q.symm.trans z) (by decide))).2 (by decide) (by decide) ?_
      show Steps p.tables e below (T48.setTop (mkF m 191 #[.val (.int p0), .val (.int p1), .val (.int p2), .val (.ref b4), .val (.int K), .val (.int (p1 &&& (3 : Int32))), .unset, .unset, .unset] [])) _
      refine XS.iload X48.here hx rfl (hb hby at_191) rfl ?_
      show Steps p.tables e below (T48.setTop (mkF m 193 #[.val (.int p0), .val (.int p1), .val (.int p2), .val (.ref b4), .val (.int K), .val (.int (p1 &&& (3 : Int32))), .unset, .unset, .unset] [(.int (p1 &&& (3 : Int32)))])) _
      refine XS.iconst X48.here hx rfl (hb hby at_193) ?_
      show Steps p.tables e below (T48.setTop (mkF m 194 #[.val (.int p0), .val (.int p1), .val (.int p2), .val (.ref b4), .val (.int K), .val (.int (p1 &&& (3 : Int32))), .unset, .unset, .unset] [(.int (2 : Int32)), (.int (p1 &&& (3 : Int32)))])) _
      refine XS.icmpYes X48.here hx rfl (pc0 := 194) (pc' := 203) rfl (hb hby at_194) rfl (feq (fun z => absurd (q.symm.trans z) (by decide))).2 (by decide) (by decide) ?_
      show Steps p.tables e below (T48.setTop (mkF m 203 #[.val (.int p0), .val (.int p1), .val (.int p2), .val (.ref b4), .val (.int K), .val (.int (p1 &&& (3 : Int32))), .unset, .unset, .unset] [])) _
      refine XS.iloadN X48.here hx rfl (hb hby at_203) rfl ?_
      show Steps p.tables e below (T48.setTop (mkF m 204 #[.val (.int p0), .val (.int p1), .val (.int p2), .val (.ref b4), .val (.int K), .val (.int (p1 &&& (3 : Int32))), .unset, .unset, .unset] [(.int p2)])) _
      refine XS.istore X48.here hx rfl (hb hby at_204) rfl (l' := #[.val (.int p0), .val (.int p1), .val (.int p2), .val (.ref b4), .val (.int K), .val (.int (p1 &&& (3 : Int32))), .val (.int p2), .unset, .unset]) rfl ?_
      exact k)
  obtain ⟨T50, X50, e50, st50⟩ := own_join X49 (h := h48) (g := (mkF m 206 #[.val (.int p0), .val (.int p1), .val (.int p2), .val (.ref b4), .val (.int K), .val (.int (p1 &&& (3 : Int32))), .val (.int R), .unset, .unset] [])) (g' := (mkF m 253 #[.val (.int p0), .val (.int p1), .val (.int p2), .val (.ref b4), .val (.int K), .val (.int (p1 &&& (3 : Int32))), .val (.int R), .unset, .unset] [(.int vL)])) (by
    by_cases q0 : K = (12 : Int32)
    rotate_left
    by_cases q1 : K = (13 : Int32)
    rotate_left
    by_cases q2 : K = (14 : Int32)
    rotate_left
    by_cases q3 : K = (15 : Int32)
    rotate_left
    by_cases q4 : K = (19 : Int32)
    rotate_left
    by_cases q5 : K = (21 : Int32)
    rotate_left
    · refine ⟨T49, X49, e49, fun target k => ?_⟩
      have hv' : vL = (0 : Int32) := by rw [hvL]; simp [q0, q1, q2, q3, q4, q5]
      rw [hv'] at k
      show Steps p.tables e below (T49.setTop (mkF m 206 #[.val (.int p0), .val (.int p1), .val (.int p2), .val (.ref b4), .val (.int K), .val (.int (p1 &&& (3 : Int32))), .val (.int R), .unset, .unset] [])) _
      refine XS.iload X49.here hx rfl (hb hby at_206) rfl ?_
      show Steps p.tables e below (T49.setTop (mkF m 208 #[.val (.int p0), .val (.int p1), .val (.int p2), .val (.ref b4), .val (.int K), .val (.int (p1 &&& (3 : Int32))), .val (.int R), .unset, .unset] [(.int K)])) _
      refine XS.bipush X49.here hx rfl (hb hby at_208) ?_
      show Steps p.tables e below (T49.setTop (mkF m 210 #[.val (.int p0), .val (.int p1), .val (.int p2), .val (.ref b4), .val (.int K), .val (.int (p1 &&& (3 : Int32))), .val (.int R), .unset, .unset] [(.int (12 : Int32)), (.int K)])) _
      refine XS.icmpNo X49.here hx rfl (hb hby at_210) rfl (feq q0).1 ?_
      show Steps p.tables e below (T49.setTop (mkF m 213 #[.val (.int p0), .val (.int p1), .val (.int p2), .val (.ref b4), .val (.int K), .val (.int (p1 &&& (3 : Int32))), .val (.int R), .unset, .unset] [])) _
      refine XS.iload X49.here hx rfl (hb hby at_213) rfl ?_
      show Steps p.tables e below (T49.setTop (mkF m 215 #[.val (.int p0), .val (.int p1), .val (.int p2), .val (.ref b4), .val (.int K), .val (.int (p1 &&& (3 : Int32))), .val (.int R), .unset, .unset] [(.int K)])) _
      refine XS.bipush X49.here hx rfl (hb hby at_215) ?_
      show Steps p.tables e below (T49.setTop (mkF m 217 #[.val (.int p0), .val (.int p1), .val (.int p2), .val (.ref b4), .val (.int K), .val (.int (p1 &&& (3 : Int32))), .val (.int R), .unset, .unset] [(.int (13 : Int32)), (.int K)])) _
      refine XS.icmpNo X49.here hx rfl (hb hby at_217) rfl (feq q1).1 ?_
      show Steps p.tables e below (T49.setTop (mkF m 220 #[.val (.int p0), .val (.int p1), .val (.int p2), .val (.ref b4), .val (.int K), .val (.int (p1 &&& (3 : Int32))), .val (.int R), .unset, .unset] [])) _
      refine XS.iload X49.here hx rfl (hb hby at_220) rfl ?_
      show Steps p.tables e below (T49.setTop (mkF m 222 #[.val (.int p0), .val (.int p1), .val (.int p2), .val (.ref b4), .val (.int K), .val (.int (p1 &&& (3 : Int32))), .val (.int R), .unset, .unset] [(.int K)])) _
      refine XS.bipush X49.here hx rfl (hb hby at_222) ?_
      show Steps p.tables e below (T49.setTop (mkF m 224 #[.val (.int p0), .val (.int p1), .val (.int p2), .val (.ref b4), .val (.int K), .val (.int (p1 &&& (3 : Int32))), .val (.int R), .unset, .unset] [(.int (14 : Int32)), (.int K)])) _
      refine XS.icmpNo X49.here hx rfl (hb hby at_224) rfl (feq q2).1 ?_
      show Steps p.tables e below (T49.setTop (mkF m 227 #[.val (.int p0), .val (.int p1), .val (.int p2), .val (.ref b4), .val (.int K), .val (.int (p1 &&& (3 : Int32))), .val (.int R), .unset, .unset] [])) _
      refine XS.iload X49.here hx rfl (hb hby at_227) rfl ?_
      show Steps p.tables e below (T49.setTop (mkF m 229 #[.val (.int p0), .val (.int p1), .val (.int p2), .val (.ref b4), .val (.int K), .val (.int (p1 &&& (3 : Int32))), .val (.int R), .unset, .unset] [(.int K)])) _
      refine XS.bipush X49.here hx rfl (hb hby at_229) ?_
      show Steps p.tables e below (T49.setTop (mkF m 231 #[.val (.int p0), .val (.int p1), .val (.int p2), .val (.ref b4), .val (.int K), .val (.int (p1 &&& (3 : Int32))), .val (.int R), .unset, .unset] [(.int (15 : Int32)), (.int K)])) _
      refine XS.icmpNo X49.here hx rfl (hb hby at_231) rfl (feq q3).1 ?_
      show Steps p.tables e below (T49.setTop (mkF m 234 #[.val (.int p0), .val (.int p1), .val (.int p2), .val (.ref b4), .val (.int K), .val (.int (p1 &&& (3 : Int32))), .val (.int R), .unset, .unset] [])) _
      refine XS.iload X49.here hx rfl (hb hby at_234) rfl ?_
      show Steps p.tables e below (T49.setTop (mkF m 236 #[.val (.int p0), .val (.int p1), .val (.int p2), .val (.ref b4), .val (.int K), .val (.int (p1 &&& (3 : Int32))), .val (.int R), .unset, .unset] [(.int K)])) _
      refine XS.bipush X49.here hx rfl (hb hby at_236) ?_
      show Steps p.tables e below (T49.setTop (mkF m 238 #[.val (.int p0), .val (.int p1), .val (.int p2), .val (.ref b4), .val (.int K), .val (.int (p1 &&& (3 : Int32))), .val (.int R), .unset, .unset] [(.int (19 : Int32)), (.int K)])) _
      refine XS.icmpNo X49.here hx rfl (hb hby at_238) rfl (feq q4).1 ?_
      show Steps p.tables e below (T49.setTop (mkF m 241 #[.val (.int p0), .val (.int p1), .val (.int p2), .val (.ref b4), .val (.int K), .val (.int (p1 &&& (3 : Int32))), .val (.int R), .unset, .unset] [])) _
      refine XS.iload X49.here hx rfl (hb hby at_241) rfl ?_
      show Steps p.tables e below (T49.setTop (mkF m 243 #[.val (.int p0), .val (.int p1), .val (.int p2), .val (.ref b4), .val (.int K), .val (.int (p1 &&& (3 : Int32))), .val (.int R), .unset, .unset] [(.int K)])) _
      refine XS.bipush X49.here hx rfl (hb hby at_243) ?_
      show Steps p.tables e below (T49.setTop (mkF m 245 #[.val (.int p0), .val (.int p1), .val (.int p2), .val (.ref b4), .val (.int K), .val (.int (p1 &&& (3 : Int32))), .val (.int R), .unset, .unset] [(.int (21 : Int32)), (.int K)])) _
      refine XS.icmpYes X49.here hx rfl (pc0 := 245) (pc' := 252) rfl (hb hby at_245) rfl (feq q5).2 (by decide) (by decide) ?_
      show Steps p.tables e below (T49.setTop (mkF m 252 #[.val (.int p0), .val (.int p1), .val (.int p2), .val (.ref b4), .val (.int K), .val (.int (p1 &&& (3 : Int32))), .val (.int R), .unset, .unset] [])) _
      refine XS.iconst X49.here hx rfl (hb hby at_252) ?_
      exact k
    · refine ⟨T49, X49, e49, fun target k => ?_⟩
      have hv' : vL = (1 : Int32) := by rw [hvL]; simp [q0]
      rw [hv'] at k
      show Steps p.tables e below (T49.setTop (mkF m 206 #[.val (.int p0), .val (.int p1), .val (.int p2), .val (.ref b4), .val (.int K), .val (.int (p1 &&& (3 : Int32))), .val (.int R), .unset, .unset] [])) _
      refine XS.iload X49.here hx rfl (hb hby at_206) rfl ?_
      show Steps p.tables e below (T49.setTop (mkF m 208 #[.val (.int p0), .val (.int p1), .val (.int p2), .val (.ref b4), .val (.int K), .val (.int (p1 &&& (3 : Int32))), .val (.int R), .unset, .unset] [(.int K)])) _
      refine XS.bipush X49.here hx rfl (hb hby at_208) ?_
      show Steps p.tables e below (T49.setTop (mkF m 210 #[.val (.int p0), .val (.int p1), .val (.int p2), .val (.ref b4), .val (.int K), .val (.int (p1 &&& (3 : Int32))), .val (.int R), .unset, .unset] [(.int (12 : Int32)), (.int K)])) _
      refine XS.icmpYes X49.here hx rfl (pc0 := 210) (pc' := 248) rfl (hb hby at_210) rfl (teq q0).1 (by decide) (by decide) ?_
      show Steps p.tables e below (T49.setTop (mkF m 248 #[.val (.int p0), .val (.int p1), .val (.int p2), .val (.ref b4), .val (.int K), .val (.int (p1 &&& (3 : Int32))), .val (.int R), .unset, .unset] [])) _
      refine XS.iconst X49.here hx rfl (hb hby at_248) ?_
      show Steps p.tables e below (T49.setTop (mkF m 249 #[.val (.int p0), .val (.int p1), .val (.int p2), .val (.ref b4), .val (.int K), .val (.int (p1 &&& (3 : Int32))), .val (.int R), .unset, .unset] [(.int (1 : Int32))])) _
      refine XS.goto X49.here hx rfl (pc0 := 249) (pc' := 253) rfl (hb hby at_249) (by decide) (by decide) ?_
      exact k
    · refine ⟨T49, X49, e49, fun target k => ?_⟩
      have hv' : vL = (1 : Int32) := by rw [hvL]; simp [q1]
      rw [hv'] at k
      show Steps p.tables e below (T49.setTop (mkF m 206 #[.val (.int p0), .val (.int p1), .val (.int p2), .val (.ref b4), .val (.int K), .val (.int (p1 &&& (3 : Int32))), .val (.int R), .unset, .unset] [])) _
      refine XS.iload X49.here hx rfl (hb hby at_206) rfl ?_
      show Steps p.tables e below (T49.setTop (mkF m 208 #[.val (.int p0), .val (.int p1), .val (.int p2), .val (.ref b4), .val (.int K), .val (.int (p1 &&& (3 : Int32))), .val (.int R), .unset, .unset] [(.int K)])) _
      refine XS.bipush X49.here hx rfl (hb hby at_208) ?_
      show Steps p.tables e below (T49.setTop (mkF m 210 #[.val (.int p0), .val (.int p1), .val (.int p2), .val (.ref b4), .val (.int K), .val (.int (p1 &&& (3 : Int32))), .val (.int R), .unset, .unset] [(.int (12 : Int32)), (.int K)])) _
      refine XS.icmpNo X49.here hx rfl (hb hby at_210) rfl (feq q0).1 ?_
      show Steps p.tables e below (T49.setTop (mkF m 213 #[.val (.int p0), .val (.int p1), .val (.int p2), .val (.ref b4), .val (.int K), .val (.int (p1 &&& (3 : Int32))), .val (.int R), .unset, .unset] [])) _
      refine XS.iload X49.here hx rfl (hb hby at_213) rfl ?_
      show Steps p.tables e below (T49.setTop (mkF m 215 #[.val (.int p0), .val (.int p1), .val (.int p2), .val (.ref b4), .val (.int K), .val (.int (p1 &&& (3 : Int32))), .val (.int R), .unset, .unset] [(.int K)])) _
      refine XS.bipush X49.here hx rfl (hb hby at_215) ?_
      show Steps p.tables e below (T49.setTop (mkF m 217 #[.val (.int p0), .val (.int p1), .val (.int p2), .val (.ref b4), .val (.int K), .val (.int (p1 &&& (3 : Int32))), .val (.int R), .unset, .unset] [(.int (13 : Int32)), (.int K)])) _
      refine XS.icmpYes X49.here hx rfl (pc0 := 217) (pc' := 248) rfl (hb hby at_217) rfl (teq q1).1 (by decide) (by decide) ?_
      show Steps p.tables e below (T49.setTop (mkF m 248 #[.val (.int p0), .val (.int p1), .val (.int p2), .val (.ref b4), .val (.int K), .val (.int (p1 &&& (3 : Int32))), .val (.int R), .unset, .unset] [])) _
      refine XS.iconst X49.here hx rfl (hb hby at_248) ?_
      show Steps p.tables e below (T49.setTop (mkF m 249 #[.val (.int p0), .val (.int p1), .val (.int p2), .val (.ref b4), .val (.int K), .val (.int (p1 &&& (3 : Int32))), .val (.int R), .unset, .unset] [(.int (1 : Int32))])) _
      refine XS.goto X49.here hx rfl (pc0 := 249) (pc' := 253) rfl (hb hby at_249) (by decide) (by decide) ?_
      exact k
    · refine ⟨T49, X49, e49, fun target k => ?_⟩
      have hv' : vL = (1 : Int32) := by rw [hvL]; simp [q2]
      rw [hv'] at k
      show Steps p.tables e below (T49.setTop (mkF m 206 #[.val (.int p0), .val (.int p1), .val (.int p2), .val (.ref b4), .val (.int K), .val (.int (p1 &&& (3 : Int32))), .val (.int R), .unset, .unset] [])) _
      refine XS.iload X49.here hx rfl (hb hby at_206) rfl ?_
      show Steps p.tables e below (T49.setTop (mkF m 208 #[.val (.int p0), .val (.int p1), .val (.int p2), .val (.ref b4), .val (.int K), .val (.int (p1 &&& (3 : Int32))), .val (.int R), .unset, .unset] [(.int K)])) _
      refine XS.bipush X49.here hx rfl (hb hby at_208) ?_
      show Steps p.tables e below (T49.setTop (mkF m 210 #[.val (.int p0), .val (.int p1), .val (.int p2), .val (.ref b4), .val (.int K), .val (.int (p1 &&& (3 : Int32))), .val (.int R), .unset, .unset] [(.int (12 : Int32)), (.int K)])) _
      refine XS.icmpNo X49.here hx rfl (hb hby at_210) rfl (feq q0).1 ?_
      show Steps p.tables e below (T49.setTop (mkF m 213 #[.val (.int p0), .val (.int p1), .val (.int p2), .val (.ref b4), .val (.int K), .val (.int (p1 &&& (3 : Int32))), .val (.int R), .unset, .unset] [])) _
      refine XS.iload X49.here hx rfl (hb hby at_213) rfl ?_
      show Steps p.tables e below (T49.setTop (mkF m 215 #[.val (.int p0), .val (.int p1), .val (.int p2), .val (.ref b4), .val (.int K), .val (.int (p1 &&& (3 : Int32))), .val (.int R), .unset, .unset] [(.int K)])) _
      refine XS.bipush X49.here hx rfl (hb hby at_215) ?_
      show Steps p.tables e below (T49.setTop (mkF m 217 #[.val (.int p0), .val (.int p1), .val (.int p2), .val (.ref b4), .val (.int K), .val (.int (p1 &&& (3 : Int32))), .val (.int R), .unset, .unset] [(.int (13 : Int32)), (.int K)])) _
      refine XS.icmpNo X49.here hx rfl (hb hby at_217) rfl (feq q1).1 ?_
      show Steps p.tables e below (T49.setTop (mkF m 220 #[.val (.int p0), .val (.int p1), .val (.int p2), .val (.ref b4), .val (.int K), .val (.int (p1 &&& (3 : Int32))), .val (.int R), .unset, .unset] [])) _
      refine XS.iload X49.here hx rfl (hb hby at_220) rfl ?_
      show Steps p.tables e below (T49.setTop (mkF m 222 #[.val (.int p0), .val (.int p1), .val (.int p2), .val (.ref b4), .val (.int K), .val (.int (p1 &&& (3 : Int32))), .val (.int R), .unset, .unset] [(.int K)])) _
      refine XS.bipush X49.here hx rfl (hb hby at_222) ?_
      show Steps p.tables e below (T49.setTop (mkF m 224 #[.val (.int p0), .val (.int p1), .val (.int p2), .val (.ref b4), .val (.int K), .val (.int (p1 &&& (3 : Int32))), .val (.int R), .unset, .unset] [(.int (14 : Int32)), (.int K)])) _
      refine XS.icmpYes X49.here hx rfl (pc0 := 224) (pc' := 248) rfl (hb hby at_224) rfl (teq q2).1 (by decide) (by decide) ?_
      show Steps p.tables e below (T49.setTop (mkF m 248 #[.val (.int p0), .val (.int p1), .val (.int p2), .val (.ref b4), .val (.int K), .val (.int (p1 &&& (3 : Int32))), .val (.int R), .unset, .unset] [])) _
      refine XS.iconst X49.here hx rfl (hb hby at_248) ?_
      show Steps p.tables e below (T49.setTop (mkF m 249 #[.val (.int p0), .val (.int p1), .val (.int p2), .val (.ref b4), .val (.int K), .val (.int (p1 &&& (3 : Int32))), .val (.int R), .unset, .unset] [(.int (1 : Int32))])) _
      refine XS.goto X49.here hx rfl (pc0 := 249) (pc' := 253) rfl (hb hby at_249) (by decide) (by decide) ?_
      exact k
    · refine ⟨T49, X49, e49, fun target k => ?_⟩
      have hv' : vL = (1 : Int32) := by rw [hvL]; simp [q3]
      rw [hv'] at k
      show Steps p.tables e below (T49.setTop (mkF m 206 #[.val (.int p0), .val (.int p1), .val (.int p2), .val (.ref b4), .val (.int K), .val (.int (p1 &&& (3 : Int32))), .val (.int R), .unset, .unset] [])) _
      refine XS.iload X49.here hx rfl (hb hby at_206) rfl ?_
      show Steps p.tables e below (T49.setTop (mkF m 208 #[.val (.int p0), .val (.int p1), .val (.int p2), .val (.ref b4), .val (.int K), .val (.int (p1 &&& (3 : Int32))), .val (.int R), .unset, .unset] [(.int K)])) _
      refine XS.bipush X49.here hx rfl (hb hby at_208) ?_
      show Steps p.tables e below (T49.setTop (mkF m 210 #[.val (.int p0), .val (.int p1), .val (.int p2), .val (.ref b4), .val (.int K), .val (.int (p1 &&& (3 : Int32))), .val (.int R), .unset, .unset] [(.int (12 : Int32)), (.int K)])) _
      refine XS.icmpNo X49.here hx rfl (hb hby at_210) rfl (feq q0).1 ?_
      show Steps p.tables e below (T49.setTop (mkF m 213 #[.val (.int p0), .val (.int p1), .val (.int p2), .val (.ref b4), .val (.int K), .val (.int (p1 &&& (3 : Int32))), .val (.int R), .unset, .unset] [])) _
      refine XS.iload X49.here hx rfl (hb hby at_213) rfl ?_
      show Steps p.tables e below (T49.setTop (mkF m 215 #[.val (.int p0), .val (.int p1), .val (.int p2), .val (.ref b4), .val (.int K), .val (.int (p1 &&& (3 : Int32))), .val (.int R), .unset, .unset] [(.int K)])) _
      refine XS.bipush X49.here hx rfl (hb hby at_215) ?_
      show Steps p.tables e below (T49.setTop (mkF m 217 #[.val (.int p0), .val (.int p1), .val (.int p2), .val (.ref b4), .val (.int K), .val (.int (p1 &&& (3 : Int32))), .val (.int R), .unset, .unset] [(.int (13 : Int32)), (.int K)])) _
      refine XS.icmpNo X49.here hx rfl (hb hby at_217) rfl (feq q1).1 ?_
      show Steps p.tables e below (T49.setTop (mkF m 220 #[.val (.int p0), .val (.int p1), .val (.int p2), .val (.ref b4), .val (.int K), .val (.int (p1 &&& (3 : Int32))), .val (.int R), .unset, .unset] [])) _
      refine XS.iload X49.here hx rfl (hb hby at_220) rfl ?_
      show Steps p.tables e below (T49.setTop (mkF m 222 #[.val (.int p0), .val (.int p1), .val (.int p2), .val (.ref b4), .val (.int K), .val (.int (p1 &&& (3 : Int32))), .val (.int R), .unset, .unset] [(.int K)])) _
      refine XS.bipush X49.here hx rfl (hb hby at_222) ?_
      show Steps p.tables e below (T49.setTop (mkF m 224 #[.val (.int p0), .val (.int p1), .val (.int p2), .val (.ref b4), .val (.int K), .val (.int (p1 &&& (3 : Int32))), .val (.int R), .unset, .unset] [(.int (14 : Int32)), (.int K)])) _
      refine XS.icmpNo X49.here hx rfl (hb hby at_224) rfl (feq q2).1 ?_
      show Steps p.tables e below (T49.setTop (mkF m 227 #[.val (.int p0), .val (.int p1), .val (.int p2), .val (.ref b4), .val (.int K), .val (.int (p1 &&& (3 : Int32))), .val (.int R), .unset, .unset] [])) _
      refine XS.iload X49.here hx rfl (hb hby at_227) rfl ?_
      show Steps p.tables e below (T49.setTop (mkF m 229 #[.val (.int p0), .val (.int p1), .val (.int p2), .val (.ref b4), .val (.int K), .val (.int (p1 &&& (3 : Int32))), .val (.int R), .unset, .unset] [(.int K)])) _
      refine XS.bipush X49.here hx rfl (hb hby at_229) ?_
      show Steps p.tables e below (T49.setTop (mkF m 231 #[.val (.int p0), .val (.int p1), .val (.int p2), .val (.ref b4), .val (.int K), .val (.int (p1 &&& (3 : Int32))), .val (.int R), .unset, .unset] [(.int (15 : Int32)), (.int K)])) _
      refine XS.icmpYes X49.here hx rfl (pc0 := 231) (pc' := 248) rfl (hb hby at_231) rfl (teq q3).1 (by decide) (by decide) ?_
      show Steps p.tables e below (T49.setTop (mkF m 248 #[.val (.int p0), .val (.int p1), .val (.int p2), .val (.ref b4), .val (.int K), .val (.int (p1 &&& (3 : Int32))), .val (.int R), .unset, .unset] [])) _
      refine XS.iconst X49.here hx rfl (hb hby at_248) ?_
      show Steps p.tables e below (T49.setTop (mkF m 249 #[.val (.int p0), .val (.int p1), .val (.int p2), .val (.ref b4), .val (.int K), .val (.int (p1 &&& (3 : Int32))), .val (.int R), .unset, .unset] [(.int (1 : Int32))])) _
      refine XS.goto X49.here hx rfl (pc0 := 249) (pc' := 253) rfl (hb hby at_249) (by decide) (by decide) ?_
      exact k
    · refine ⟨T49, X49, e49, fun target k => ?_⟩
      have hv' : vL = (1 : Int32) := by rw [hvL]; simp [q4]
      rw [hv'] at k
      show Steps p.tables e below (T49.setTop (mkF m 206 #[.val (.int p0), .val (.int p1), .val (.int p2), .val (.ref b4), .val (.int K), .val (.int (p1 &&& (3 : Int32))), .val (.int R), .unset, .unset] [])) _
      refine XS.iload X49.here hx rfl (hb hby at_206) rfl ?_
      show Steps p.tables e below (T49.setTop (mkF m 208 #[.val (.int p0), .val (.int p1), .val (.int p2), .val (.ref b4), .val (.int K), .val (.int (p1 &&& (3 : Int32))), .val (.int R), .unset, .unset] [(.int K)])) _
      refine XS.bipush X49.here hx rfl (hb hby at_208) ?_
      show Steps p.tables e below (T49.setTop (mkF m 210 #[.val (.int p0), .val (.int p1), .val (.int p2), .val (.ref b4), .val (.int K), .val (.int (p1 &&& (3 : Int32))), .val (.int R), .unset, .unset] [(.int (12 : Int32)), (.int K)])) _
      refine XS.icmpNo X49.here hx rfl (hb hby at_210) rfl (feq q0).1 ?_
      show Steps p.tables e below (T49.setTop (mkF m 213 #[.val (.int p0), .val (.int p1), .val (.int p2), .val (.ref b4), .val (.int K), .val (.int (p1 &&& (3 : Int32))), .val (.int R), .unset, .unset] [])) _
      refine XS.iload X49.here hx rfl (hb hby at_213) rfl ?_
      show Steps p.tables e below (T49.setTop (mkF m 215 #[.val (.int p0), .val (.int p1), .val (.int p2), .val (.ref b4), .val (.int K), .val (.int (p1 &&& (3 : Int32))), .val (.int R), .unset, .unset] [(.int K)])) _
      refine XS.bipush X49.here hx rfl (hb hby at_215) ?_
      show Steps p.tables e below (T49.setTop (mkF m 217 #[.val (.int p0), .val (.int p1), .val (.int p2), .val (.ref b4), .val (.int K), .val (.int (p1 &&& (3 : Int32))), .val (.int R), .unset, .unset] [(.int (13 : Int32)), (.int K)])) _
      refine XS.icmpNo X49.here hx rfl (hb hby at_217) rfl (feq q1).1 ?_
      show Steps p.tables e below (T49.setTop (mkF m 220 #[.val (.int p0), .val (.int p1), .val (.int p2), .val (.ref b4), .val (.int K), .val (.int (p1 &&& (3 : Int32))), .val (.int R), .unset, .unset] [])) _
      refine XS.iload X49.here hx rfl (hb hby at_220) rfl ?_
      show Steps p.tables e below (T49.setTop (mkF m 222 #[.val (.int p0), .val (.int p1), .val (.int p2), .val (.ref b4), .val (.int K), .val (.int (p1 &&& (3 : Int32))), .val (.int R), .unset, .unset] [(.int K)])) _
      refine XS.bipush X49.here hx rfl (hb hby at_222) ?_
      show Steps p.tables e below (T49.setTop (mkF m 224 #[.val (.int p0), .val (.int p1), .val (.int p2), .val (.ref b4), .val (.int K), .val (.int (p1 &&& (3 : Int32))), .val (.int R), .unset, .unset] [(.int (14 : Int32)), (.int K)])) _
      refine XS.icmpNo X49.here hx rfl (hb hby at_224) rfl (feq q2).1 ?_
      show Steps p.tables e below (T49.setTop (mkF m 227 #[.val (.int p0), .val (.int p1), .val (.int p2), .val (.ref b4), .val (.int K), .val (.int (p1 &&& (3 : Int32))), .val (.int R), .unset, .unset] [])) _
      refine XS.iload X49.here hx rfl (hb hby at_227) rfl ?_
      show Steps p.tables e below (T49.setTop (mkF m 229 #[.val (.int p0), .val (.int p1), .val (.int p2), .val (.ref b4), .val (.int K), .val (.int (p1 &&& (3 : Int32))), .val (.int R), .unset, .unset] [(.int K)])) _
      refine XS.bipush X49.here hx rfl (hb hby at_229) ?_
      show Steps p.tables e below (T49.setTop (mkF m 231 #[.val (.int p0), .val (.int p1), .val (.int p2), .val (.ref b4), .val (.int K), .val (.int (p1 &&& (3 : Int32))), .val (.int R), .unset, .unset] [(.int (15 : Int32)), (.int K)])) _
      refine XS.icmpNo X49.here hx rfl (hb hby at_231) rfl (feq q3).1 ?_
      show Steps p.tables e below (T49.setTop (mkF m 234 #[.val (.int p0), .val (.int p1), .val (.int p2), .val (.ref b4), .val (.int K), .val (.int (p1 &&& (3 : Int32))), .val (.int R), .unset, .unset] [])) _
      refine XS.iload X49.here hx rfl (hb hby at_234) rfl ?_
      show Steps p.tables e below (T49.setTop (mkF m 236 #[.val (.int p0), .val (.int p1), .val (.int p2), .val (.ref b4), .val (.int K), .val (.int (p1 &&& (3 : Int32))), .val (.int R), .unset, .unset] [(.int K)])) _
      refine XS.bipush X49.here hx rfl (hb hby at_236) ?_
      show Steps p.tables e below (T49.setTop (mkF m 238 #[.val (.int p0), .val (.int p1), .val (.int p2), .val (.ref b4), .val (.int K), .val (.int (p1 &&& (3 : Int32))), .val (.int R), .unset, .unset] [(.int (19 : Int32)), (.int K)])) _
      refine XS.icmpYes X49.here hx rfl (pc0 := 238) (pc' := 248) rfl (hb hby at_238) rfl (teq q4).1 (by decide) (by decide) ?_
      show Steps p.tables e below (T49.setTop (mkF m 248 #[.val (.int p0), .val (.int p1), .val (.int p2), .val (.ref b4), .val (.int K), .val (.int (p1 &&& (3 : Int32))), .val (.int R), .unset, .unset] [])) _
      refine XS.iconst X49.here hx rfl (hb hby at_248) ?_
      show Steps p.tables e below (T49.setTop (mkF m 249 #[.val (.int p0), .val (.int p1), .val (.int p2), .val (.ref b4), .val (.int K), .val (.int (p1 &&& (3 : Int32))), .val (.int R), .unset, .unset] [(.int (1 : Int32))])) _
      refine XS.goto X49.here hx rfl (pc0 := 249) (pc' := 253) rfl (hb hby at_249) (by decide) (by decide) ?_
      exact k
    · refine ⟨T49, X49, e49, fun target k => ?_⟩
      have hv' : vL = (1 : Int32) := by rw [hvL]; simp [q5]
      rw [hv'] at k
      show Steps p.tables e below (T49.setTop (mkF m 206 #[.val (.int p0), .val (.int p1), .val (.int p2), .val (.ref b4), .val (.int K), .val (.int (p1 &&& (3 : Int32))), .val (.int R), .unset, .unset] [])) _
      refine XS.iload X49.here hx rfl (hb hby at_206) rfl ?_
      show Steps p.tables e below (T49.setTop (mkF m 208 #[.val (.int p0), .val (.int p1), .val (.int p2), .val (.ref b4), .val (.int K), .val (.int (p1 &&& (3 : Int32))), .val (.int R), .unset, .unset] [(.int K)])) _
      refine XS.bipush X49.here hx rfl (hb hby at_208) ?_
      show Steps p.tables e below (T49.setTop (mkF m 210 #[.val (.int p0), .val (.int p1), .val (.int p2), .val (.ref b4), .val (.int K), .val (.int (p1 &&& (3 : Int32))), .val (.int R), .unset, .unset] [(.int (12 : Int32)), (.int K)])) _
      refine XS.icmpNo X49.here hx rfl (hb hby at_210) rfl (feq q0).1 ?_
      show Steps p.tables e below (T49.setTop (mkF m 213 #[.val (.int p0), .val (.int p1), .val (.int p2), .val (.ref b4), .val (.int K), .val (.int (p1 &&& (3 : Int32))), .val (.int R), .unset, .unset] [])) _
      refine XS.iload X49.here hx rfl (hb hby at_213) rfl ?_
      show Steps p.tables e below (T49.setTop (mkF m 215 #[.val (.int p0), .val (.int p1), .val (.int p2), .val (.ref b4), .val (.int K), .val (.int (p1 &&& (3 : Int32))), .val (.int R), .unset, .unset] [(.int K)])) _
      refine XS.bipush X49.here hx rfl (hb hby at_215) ?_
      show Steps p.tables e below (T49.setTop (mkF m 217 #[.val (.int p0), .val (.int p1), .val (.int p2), .val (.ref b4), .val (.int K), .val (.int (p1 &&& (3 : Int32))), .val (.int R), .unset, .unset] [(.int (13 : Int32)), (.int K)])) _
      refine XS.icmpNo X49.here hx rfl (hb hby at_217) rfl (feq q1).1 ?_
      show Steps p.tables e below (T49.setTop (mkF m 220 #[.val (.int p0), .val (.int p1), .val (.int p2), .val (.ref b4), .val (.int K), .val (.int (p1 &&& (3 : Int32))), .val (.int R), .unset, .unset] [])) _
      refine XS.iload X49.here hx rfl (hb hby at_220) rfl ?_
      show Steps p.tables e below (T49.setTop (mkF m 222 #[.val (.int p0), .val (.int p1), .val (.int p2), .val (.ref b4), .val (.int K), .val (.int (p1 &&& (3 : Int32))), .val (.int R), .unset, .unset] [(.int K)])) _
      refine XS.bipush X49.here hx rfl (hb hby at_222) ?_
      show Steps p.tables e below (T49.setTop (mkF m 224 #[.val (.int p0), .val (.int p1), .val (.int p2), .val (.ref b4), .val (.int K), .val (.int (p1 &&& (3 : Int32))), .val (.int R), .unset, .unset] [(.int (14 : Int32)), (.int K)])) _
      refine XS.icmpNo X49.here hx rfl (hb hby at_224) rfl (feq q2).1 ?_
      show Steps p.tables e below (T49.setTop (mkF m 227 #[.val (.int p0), .val (.int p1), .val (.int p2), .val (.ref b4), .val (.int K), .val (.int (p1 &&& (3 : Int32))), .val (.int R), .unset, .unset] [])) _
      refine XS.iload X49.here hx rfl (hb hby at_227) rfl ?_
      show Steps p.tables e below (T49.setTop (mkF m 229 #[.val (.int p0), .val (.int p1), .val (.int p2), .val (.ref b4), .val (.int K), .val (.int (p1 &&& (3 : Int32))), .val (.int R), .unset, .unset] [(.int K)])) _
      refine XS.bipush X49.here hx rfl (hb hby at_229) ?_
      show Steps p.tables e below (T49.setTop (mkF m 231 #[.val (.int p0), .val (.int p1), .val (.int p2), .val (.ref b4), .val (.int K), .val (.int (p1 &&& (3 : Int32))), .val (.int R), .unset, .unset] [(.int (15 : Int32)), (.int K)])) _
      refine XS.icmpNo X49.here hx rfl (hb hby at_231) rfl (feq q3).1 ?_
      show Steps p.tables e below (T49.setTop (mkF m 234 #[.val (.int p0), .val (.int p1), .val (.int p2), .val (.ref b4), .val (.int K), .val (.int (p1 &&& (3 : Int32))), .val (.int R), .unset, .unset] [])) _
      refine XS.iload X49.here hx rfl (hb hby at_234) rfl ?_
      show Steps p.tables e below (T49.setTop (mkF m 236 #[.val (.int p0), .val (.int p1), .val (.int p2), .val (.ref b4), .val (.int K), .val (.int (p1 &&& (3 : Int32))), .val (.int R), .unset, .unset] [(.int K)])) _
      refine XS.bipush X49.here hx rfl (hb hby at_236) ?_
      show Steps p.tables e below (T49.setTop (mkF m 238 #[.val (.int p0), .val (.int p1), .val (.int p2), .val (.ref b4), .val (.int K), .val (.int (p1 &&& (3 : Int32))), .val (.int R), .unset, .unset] [(.int (19 : Int32)), (.int K)])) _
      refine XS.icmpNo X49.here hx rfl (hb hby at_238) rfl (feq q4).1 ?_
      show Steps p.tables e below (T49.setTop (mkF m 241 #[.val (.int p0), .val (.int p1), .val (.int p2), .val (.ref b4), .val (.int K), .val (.int (p1 &&& (3 : Int32))), .val (.int R), .unset, .unset] [])) _
      refine XS.iload X49.here hx rfl (hb hby at_241) rfl ?_
      show Steps p.tables e below (T49.setTop (mkF m 243 #[.val (.int p0), .val (.int p1), .val (.int p2), .val (.ref b4), .val (.int K), .val (.int (p1 &&& (3 : Int32))), .val (.int R), .unset, .unset] [(.int K)])) _
      refine XS.bipush X49.here hx rfl (hb hby at_243) ?_
      show Steps p.tables e below (T49.setTop (mkF m 245 #[.val (.int p0), .val (.int p1), .val (.int p2), .val (.ref b4), .val (.int K), .val (.int (p1 &&& (3 : Int32))), .val (.int R), .unset, .unset] [(.int (21 : Int32)), (.int K)])) _
      refine XS.icmpNo X49.here hx rfl (hb hby at_245) rfl (teq q5).2 ?_
      show Steps p.tables e below (T49.setTop (mkF m 248 #[.val (.int p0), .val (.int p1), .val (.int p2), .val (.ref b4), .val (.int K), .val (.int (p1 &&& (3 : Int32))), .val (.int R), .unset, .unset] [])) _
      refine XS.iconst X49.here hx rfl (hb hby at_248) ?_
      show Steps p.tables e below (T49.setTop (mkF m 249 #[.val (.int p0), .val (.int p1), .val (.int p2), .val (.ref b4), .val (.int K), .val (.int (p1 &&& (3 : Int32))), .val (.int R), .unset, .unset] [(.int (1 : Int32))])) _
      refine XS.goto X49.here hx rfl (pc0 := 249) (pc' := 253) rfl (hb hby at_249) (by decide) (by decide) ?_
      exact k)
  obtain ⟨T51, X51, e51, st51⟩ := own_join X50 (h := h48) (g := (mkF m 257 #[.val (.int p0), .val (.int p1), .val (.int p2), .val (.ref b4), .val (.int K), .val (.int (p1 &&& (3 : Int32))), .val (.int R), .val (.int vL), .unset] [(.int vL)])) (g' := (mkF m 271 #[.val (.int p0), .val (.int p1), .val (.int p2), .val (.ref b4), .val (.int K), .val (.int (p1 &&& (3 : Int32))), .val (.int R), .val (.int vL), .unset] [(.int vE)])) (by
    by_cases q0 : vL = (0 : Int32)
    rotate_left
    by_cases q1 : R = (1 : Int32)
    rotate_left
    · refine ⟨T50, X50, e50, fun target k => ?_⟩
      have hv' : vE = (1 : Int32) := by rw [hvE]; simp [q0, q1]
      rw [hv'] at k
      show Steps p.tables e below (T50.setTop (mkF m 257 #[.val (.int p0), .val (.int p1), .val (.int p2), .val (.ref b4), .val (.int K), .val (.int (p1 &&& (3 : Int32))), .val (.int R), .val (.int vL), .unset] [(.int vL)])) _
      refine XS.ifNo X50.here hx rfl (hb hby at_257) rfl ((if0 _ _).trans (feq q0).1) ?_
      show Steps p.tables e below (T50.setTop (mkF m 260 #[.val (.int p0), .val (.int p1), .val (.int p2), .val (.ref b4), .val (.int K), .val (.int (p1 &&& (3 : Int32))), .val (.int R), .val (.int vL), .unset] [])) _
      refine XS.iload X50.here hx rfl (hb hby at_260) rfl ?_
      show Steps p.tables e below (T50.setTop (mkF m 262 #[.val (.int p0), .val (.int p1), .val (.int p2), .val (.ref b4), .val (.int K), .val (.int (p1 &&& (3 : Int32))), .val (.int R), .val (.int vL), .unset] [(.int R)])) _
      refine XS.iconst X50.here hx rfl (hb hby at_262) ?_
      show Steps p.tables e below (T50.setTop (mkF m 263 #[.val (.int p0), .val (.int p1), .val (.int p2), .val (.ref b4), .val (.int K), .val (.int (p1 &&& (3 : Int32))), .val (.int R), .val (.int vL), .unset] [(.int (1 : Int32)), (.int R)])) _
      refine XS.icmpNo X50.here hx rfl (hb hby at_263) rfl (feq q1).1 ?_
      show Steps p.tables e below (T50.setTop (mkF m 266 #[.val (.int p0), .val (.int p1), .val (.int p2), .val (.ref b4), .val (.int K), .val (.int (p1 &&& (3 : Int32))), .val (.int R), .val (.int vL), .unset] [])) _
      refine XS.iconst X50.here hx rfl (hb hby at_266) ?_
      show Steps p.tables e below (T50.setTop (mkF m 267 #[.val (.int p0), .val (.int p1), .val (.int p2), .val (.ref b4), .val (.int K), .val (.int (p1 &&& (3 : Int32))), .val (.int R), .val (.int vL), .unset] [(.int (1 : Int32))])) _
      refine XS.goto X50.here hx rfl (pc0 := 267) (pc' := 271) rfl (hb hby at_267) (by decide) (by decide) ?_
      exact k
    · refine ⟨T50, X50, e50, fun target k => ?_⟩
      have hv' : vE = (0 : Int32) := by rw [hvE]; simp [q0]
      rw [hv'] at k
      show Steps p.tables e below (T50.setTop (mkF m 257 #[.val (.int p0), .val (.int p1), .val (.int p2), .val (.ref b4), .val (.int K), .val (.int (p1 &&& (3 : Int32))), .val (.int R), .val (.int vL), .unset] [(.int vL)])) _
      refine XS.ifYes X50.here hx rfl (pc0 := 257) (pc' := 270) rfl (hb hby at_257) rfl ((if0 _ _).trans (teq q0).1) (by decide) (by decide) ?_
      show Steps p.tables e below (T50.setTop (mkF m 270 #[.val (.int p0), .val (.int p1), .val (.int p2), .val (.ref b4), .val (.int K), .val (.int (p1 &&& (3 : Int32))), .val (.int R), .val (.int vL), .unset] [])) _
      refine XS.iconst X50.here hx rfl (hb hby at_270) ?_
      exact k
    · refine ⟨T50, X50, e50, fun target k => ?_⟩
      have hv' : vE = (0 : Int32) := by rw [hvE]; simp [q1]
      rw [hv'] at k
      show Steps p.tables e below (T50.setTop (mkF m 257 #[.val (.int p0), .val (.int p1), .val (.int p2), .val (.ref b4), .val (.int K), .val (.int (p1 &&& (3 : Int32))), .val (.int R), .val (.int vL), .unset] [(.int vL)])) _
      refine XS.ifNo X50.here hx rfl (hb hby at_257) rfl ((if0 _ _).trans (feq q0).1) ?_
      show Steps p.tables e below (T50.setTop (mkF m 260 #[.val (.int p0), .val (.int p1), .val (.int p2), .val (.ref b4), .val (.int K), .val (.int (p1 &&& (3 : Int32))), .val (.int R), .val (.int vL), .unset] [])) _
      refine XS.iload X50.here hx rfl (hb hby at_260) rfl ?_
      show Steps p.tables e below (T50.setTop (mkF m 262 #[.val (.int p0), .val (.int p1), .val (.int p2), .val (.ref b4), .val (.int K), .val (.int (p1 &&& (3 : Int32))), .val (.int R), .val (.int vL), .unset] [(.int R)])) _
      refine XS.iconst X50.here hx rfl (hb hby at_262) ?_
      show Steps p.tables e below (T50.setTop (mkF m 263 #[.val (.int p0), .val (.int p1), .val (.int p2), .val (.ref b4), .val (.int K), .val (.int (p1 &&& (3 : Int32))), .val (.int R), .val (.int vL), .unset] [(.int (1 : Int32)), (.int R)])) _
      refine XS.icmpYes X50.here hx rfl (pc0 := 263) (pc' := 270) rfl (hb hby at_263) rfl (teq q1).1 (by decide) (by decide) ?_
      show Steps p.tables e below (T50.setTop (mkF m 270 #[.val (.int p0), .val (.int p1), .val (.int p2), .val (.ref b4), .val (.int K), .val (.int (p1 &&& (3 : Int32))), .val (.int R), .val (.int vL), .unset] [])) _
      refine XS.iconst X50.here hx rfl (hb hby at_270) ?_
      exact k)
  obtain ⟨cl52, Ar52, q52, G52⟩ := id V4_21
  obtain ⟨cq53, kq53, q53a, q53b, q53c⟩ := isOf hZ e51 (E_M.ext XE48)
  obtain ⟨_, _, ⟨T53, L53, k53, n53⟩, -, X53, ⟨Lc53, hQ53, l53, y53, z53⟩, st53⟩ := X51.virtualBack hx (y := (⟨"com/example/passeren/passeren/sync/StepScheduler$Operation", "leaves", "(I)Z"⟩ : MethodName)) (z := (⟨"com/example/passeren/passeren/sync/StepScheduler$Operation", "leaves", "(I)Z"⟩ : MethodName)) hown (mvT hZ (hw _ (List.mem_of_getElem? (i := 49) rfl))) (mvT hZ (hw _ (List.mem_of_getElem? (i := 50) rfl))) (notFace_of_selects (args := #[]) (mvT hZ (hw _ (List.mem_of_getElem? (i := 52) rfl)))) (mvT hZ (hw _ (List.mem_of_getElem? (i := 52) rfl))) (mvT hZ (hw _ (List.mem_of_getElem? (i := 51) rfl))) (by decide) (backOf (W := 0) (rm_leaves l Z a0 hw [] M R ml h48 n0 (Nat.le_trans Z0 XE48.1) (F_M.ext XE48)) hZ (hw _ (List.mem_of_getElem? (i := 53) rfl)) (hw _ (List.mem_of_getElem? (i := 3) rfl)) (by decide) (by decide)) q53a q53c (g := (mkF m 279 #[.val (.int p0), .val (.int p1), .val (.int p2), .val (.ref b4), .val (.int K), .val (.int (p1 &&& (3 : Int32))), .val (.int R), .val (.int vL), .val (.int vE)] [(.int R), (.ref M)])) rfl (by rw [hml]; rfl) (Steps.refl _) (argsL := [(.int R)]) (rest := []) (lenOf own_pd0 rfl) rfl (by show 2 * 0 + _ ≤ _; exact Nat.le_of_eq rfl) (hb hby at_279) (fun _ _ => ⟨rfl, e51, (by decide : 1 + 0 ≤ _), (by decide : 22 + 0 ≤ _)⟩)
  dsimp only [Pt.U, Pt.locs, Pt.cells, Pt.slots] at X53 l53 y53 z53 st53 hQ53
  subst l53 y53 z53
  obtain ⟨rfl, Nq53, eh53⟩ := hQ53
  have N53 := Fr.app N48 Nq53
  obtain ⟨fs, hr, hrun, hended, hW, hsame⟩ := X53.leave (v := some (.int (1 : Int32))) (fun h => by rw [Bd.returns] at h; cases h)
  refine ⟨_, _, pre0 _ ?_, hrun, hended, _, _, rfl, ?_, ⟨_, rfl⟩, hW, hsame.mono (by decide) (by decide)⟩
  · show Steps p.tables e below (s₁.setTop (mkF m 0 #[.val (.int p0), .val (.int p1), .val (.int p2), .unset, .unset, .unset, .unset, .unset, .unset] [])) _
    refine XS.bipush X0.here hx rfl (hb hby at_0) ?_
    show Steps p.tables e below (s₁.setTop (mkF m 2 #[.val (.int p0), .val (.int p1), .val (.int p2), .unset, .unset, .unset, .unset, .unset, .unset] [(.int (22 : Int32))])) _
    refine st4 _ ?_
    show Steps p.tables e below (T4.setTop (mkF m 5 #[.val (.int p0), .val (.int p1), .val (.int p2), .unset, .unset, .unset, .unset, .unset, .unset] [(.ref b4)])) _
    refine XS.dup X4.here hx rfl (hb hby at_5) rfl rfl ?_
    show Steps p.tables e below (T4.setTop (mkF m 6 #[.val (.int p0), .val (.int p1), .val (.int p2), .unset, .unset, .unset, .unset, .unset, .unset] [(.ref b4), (.ref b4)])) _
    refine XS.iconst X4.here hx rfl (hb hby at_6) ?_
    show Steps p.tables e below (T4.setTop (mkF m 7 #[.val (.int p0), .val (.int p1), .val (.int p2), .unset, .unset, .unset, .unset, .unset, .unset] [(.int (0 : Int32)), (.ref b4), (.ref b4)])) _
    refine st5 _ ?_
    show Steps p.tables e below (T5.setTop (mkF m 10 #[.val (.int p0), .val (.int p1), .val (.int p2), .unset, .unset, .unset, .unset, .unset, .unset] [(.ref b_READ), (.int (0 : Int32)), (.ref b4), (.ref b4)])) _
    refine st6 _ ?_
    show Steps p.tables e below (T6.setTop (mkF m 11 #[.val (.int p0), .val (.int p1), .val (.int p2), .unset, .unset, .unset, .unset, .unset, .unset] [(.ref b4)])) _
    refine XS.dup X6.here hx rfl (hb hby at_11) rfl rfl ?_
    show Steps p.tables e below (T6.setTop (mkF m 12 #[.val (.int p0), .val (.int p1), .val (.int p2), .unset, .unset, .unset, .unset, .unset, .unset] [(.ref b4), (.ref b4)])) _
    refine XS.iconst X6.here hx rfl (hb hby at_12) ?_
    show Steps p.tables e below (T6.setTop (mkF m 13 #[.val (.int p0), .val (.int p1), .val (.int p2), .unset, .unset, .unset, .unset, .unset, .unset] [(.int (1 : Int32)), (.ref b4), (.ref b4)])) _
    refine st7 _ ?_
    show Steps p.tables e below (T7.setTop (mkF m 16 #[.val (.int p0), .val (.int p1), .val (.int p2), .unset, .unset, .unset, .unset, .unset, .unset] [(.ref b_WRITE), (.int (1 : Int32)), (.ref b4), (.ref b4)])) _
    refine st8 _ ?_
    show Steps p.tables e below (T8.setTop (mkF m 17 #[.val (.int p0), .val (.int p1), .val (.int p2), .unset, .unset, .unset, .unset, .unset, .unset] [(.ref b4)])) _
    refine XS.dup X8.here hx rfl (hb hby at_17) rfl rfl ?_
    show Steps p.tables e below (T8.setTop (mkF m 18 #[.val (.int p0), .val (.int p1), .val (.int p2), .unset, .unset, .unset, .unset, .unset, .unset] [(.ref b4), (.ref b4)])) _
    refine XS.iconst X8.here hx rfl (hb hby at_18) ?_
    show Steps p.tables e below (T8.setTop (mkF m 19 #[.val (.int p0), .val (.int p1), .val (.int p2), .unset, .unset, .unset, .unset, .unset, .unset] [(.int (2 : Int32)), (.ref b4), (.ref b4)])) _
    refine st9 _ ?_
    show Steps p.tables e below (T9.setTop (mkF m 22 #[.val (.int p0), .val (.int p1), .val (.int p2), .unset, .unset, .unset, .unset, .unset, .unset] [(.ref b_TEST_AND_SET), (.int (2 : Int32)), (.ref b4), (.ref b4)])) _
    refine st10 _ ?_
    show Steps p.tables e below (T10.setTop (mkF m 23 #[.val (.int p0), .val (.int p1), .val (.int p2), .unset, .unset, .unset, .unset, .unset, .unset] [(.ref b4)])) _
    refine XS.dup X10.here hx rfl (hb hby at_23) rfl rfl ?_
    show Steps p.tables e below (T10.setTop (mkF m 24 #[.val (.int p0), .val (.int p1), .val (.int p2), .unset, .unset, .unset, .unset, .unset, .unset] [(.ref b4), (.ref b4)])) _
    refine XS.iconst X10.here hx rfl (hb hby at_24) ?_
    show Steps p.tables e below (T10.setTop (mkF m 25 #[.val (.int p0), .val (.int p1), .val (.int p2), .unset, .unset, .unset, .unset, .unset, .unset] [(.int (3 : Int32)), (.ref b4), (.ref b4)])) _
    refine st11 _ ?_
    show Steps p.tables e below (T11.setTop (mkF m 28 #[.val (.int p0), .val (.int p1), .val (.int p2), .unset, .unset, .unset, .unset, .unset, .unset] [(.ref b_ACQUIRE), (.int (3 : Int32)), (.ref b4), (.ref b4)])) _
    refine st12 _ ?_
    show Steps p.tables e below (T12.setTop (mkF m 29 #[.val (.int p0), .val (.int p1), .val (.int p2), .unset, .unset, .unset, .unset, .unset, .unset] [(.ref b4)])) _
    refine XS.dup X12.here hx rfl (hb hby at_29) rfl rfl ?_
    show Steps p.tables e below (T12.setTop (mkF m 30 #[.val (.int p0), .val (.int p1), .val (.int p2), .unset, .unset, .unset, .unset, .unset, .unset] [(.ref b4), (.ref b4)])) _
    refine XS.iconst X12.here hx rfl (hb hby at_30) ?_
    show Steps p.tables e below (T12.setTop (mkF m 31 #[.val (.int p0), .val (.int p1), .val (.int p2), .unset, .unset, .unset, .unset, .unset, .unset] [(.int (4 : Int32)), (.ref b4), (.ref b4)])) _
    refine st13 _ ?_
    show Steps p.tables e below (T13.setTop (mkF m 34 #[.val (.int p0), .val (.int p1), .val (.int p2), .unset, .unset, .unset, .unset, .unset, .unset] [(.ref b_TRY_ACQUIRE), (.int (4 : Int32)), (.ref b4), (.ref b4)])) _
    refine st14 _ ?_
    show Steps p.tables e below (T14.setTop (mkF m 35 #[.val (.int p0), .val (.int p1), .val (.int p2), .unset, .unset, .unset, .unset, .unset, .unset] [(.ref b4)])) _
    refine XS.dup X14.here hx rfl (hb hby at_35) rfl rfl ?_
    show Steps p.tables e below (T14.setTop (mkF m 36 #[.val (.int p0), .val (.int p1), .val (.int p2), .unset, .unset, .unset, .unset, .unset, .unset] [(.ref b4), (.ref b4)])) _
    refine XS.iconst X14.here hx rfl (hb hby at_36) ?_
    show Steps p.tables e below (T14.setTop (mkF m 37 #[.val (.int p0), .val (.int p1), .val (.int p2), .unset, .unset, .unset, .unset, .unset, .unset] [(.int (5 : Int32)), (.ref b4), (.ref b4)])) _
    refine st15 _ ?_
    show Steps p.tables e below (T15.setTop (mkF m 40 #[.val (.int p0), .val (.int p1), .val (.int p2), .unset, .unset, .unset, .unset, .unset, .unset] [(.ref b_AWAIT), (.int (5 : Int32)), (.ref b4), (.ref b4)])) _
    refine st16 _ ?_
    show Steps p.tables e below (T16.setTop (mkF m 41 #[.val (.int p0), .val (.int p1), .val (.int p2), .unset, .unset, .unset, .unset, .unset, .unset] [(.ref b4)])) _
    refine XS.dup X16.here hx rfl (hb hby at_41) rfl rfl ?_
    show Steps p.tables e below (T16.setTop (mkF m 42 #[.val (.int p0), .val (.int p1), .val (.int p2), .unset, .unset, .unset, .unset, .unset, .unset] [(.ref b4), (.ref b4)])) _
    refine XS.bipush X16.here hx rfl (hb hby at_42) ?_
    show Steps p.tables e below (T16.setTop (mkF m 44 #[.val (.int p0), .val (.int p1), .val (.int p2), .unset, .unset, .unset, .unset, .unset, .unset] [(.int (6 : Int32)), (.ref b4), (.ref b4)])) _
    refine st17 _ ?_
    show Steps p.tables e below (T17.setTop (mkF m 47 #[.val (.int p0), .val (.int p1), .val (.int p2), .unset, .unset, .unset, .unset, .unset, .unset] [(.ref b_RELEASE), (.int (6 : Int32)), (.ref b4), (.ref b4)])) _
    refine st18 _ ?_
    show Steps p.tables e below (T18.setTop (mkF m 48 #[.val (.int p0), .val (.int p1), .val (.int p2), .unset, .unset, .unset, .unset, .unset, .unset] [(.ref b4)])) _
    refine XS.dup X18.here hx rfl (hb hby at_48) rfl rfl ?_
    show Steps p.tables e below (T18.setTop (mkF m 49 #[.val (.int p0), .val (.int p1), .val (.int p2), .unset, .unset, .unset, .unset, .unset, .unset] [(.ref b4), (.ref b4)])) _
    refine XS.bipush X18.here hx rfl (hb hby at_49) ?_
    show Steps p.tables e below (T18.setTop (mkF m 51 #[.val (.int p0), .val (.int p1), .val (.int p2), .unset, .unset, .unset, .unset, .unset, .unset] [(.int (7 : Int32)), (.ref b4), (.ref b4)])) _
    refine st19 _ ?_
    show Steps p.tables e below (T19.setTop (mkF m 54 #[.val (.int p0), .val (.int p1), .val (.int p2), .unset, .unset, .unset, .unset, .unset, .unset] [(.ref b_DRAIN_PERMITS), (.int (7 : Int32)), (.ref b4), (.ref b4)])) _
    refine st20 _ ?_
    show Steps p.tables e below (T20.setTop (mkF m 55 #[.val (.int p0), .val (.int p1), .val (.int p2), .unset, .unset, .unset, .unset, .unset, .unset] [(.ref b4)])) _
    refine XS.dup X20.here hx rfl (hb hby at_55) rfl rfl ?_
    show Steps p.tables e below (T20.setTop (mkF m 56 #[.val (.int p0), .val (.int p1), .val (.int p2), .unset, .unset, .unset, .unset, .unset, .unset] [(.ref b4), (.ref b4)])) _
    refine XS.bipush X20.here hx rfl (hb hby at_56) ?_
    show Steps p.tables e below (T20.setTop (mkF m 58 #[.val (.int p0), .val (.int p1), .val (.int p2), .unset, .unset, .unset, .unset, .unset, .unset] [(.int (8 : Int32)), (.ref b4), (.ref b4)])) _
    refine st21 _ ?_
    show Steps p.tables e below (T21.setTop (mkF m 61 #[.val (.int p0), .val (.int p1), .val (.int p2), .unset, .unset, .unset, .unset, .unset, .unset] [(.ref b_AVAILABLE_PERMITS), (.int (8 : Int32)), (.ref b4), (.ref b4)])) _
    refine st22 _ ?_
    show Steps p.tables e below (T22.setTop (mkF m 62 #[.val (.int p0), .val (.int p1), .val (.int p2), .unset, .unset, .unset, .unset, .unset, .unset] [(.ref b4)])) _
    refine XS.dup X22.here hx rfl (hb hby at_62) rfl rfl ?_
    show Steps p.tables e below (T22.setTop (mkF m 63 #[.val (.int p0), .val (.int p1), .val (.int p2), .unset, .unset, .unset, .unset, .unset, .unset] [(.ref b4), (.ref b4)])) _
    refine XS.bipush X22.here hx rfl (hb hby at_63) ?_
    show Steps p.tables e below (T22.setTop (mkF m 65 #[.val (.int p0), .val (.int p1), .val (.int p2), .unset, .unset, .unset, .unset, .unset, .unset] [(.int (9 : Int32)), (.ref b4), (.ref b4)])) _
    refine st23 _ ?_
    show Steps p.tables e below (T23.setTop (mkF m 68 #[.val (.int p0), .val (.int p1), .val (.int p2), .unset, .unset, .unset, .unset, .unset, .unset] [(.ref b_HAS_QUEUED_THREADS), (.int (9 : Int32)), (.ref b4), (.ref b4)])) _
    refine st24 _ ?_
    show Steps p.tables e below (T24.setTop (mkF m 69 #[.val (.int p0), .val (.int p1), .val (.int p2), .unset, .unset, .unset, .unset, .unset, .unset] [(.ref b4)])) _
    refine XS.dup X24.here hx rfl (hb hby at_69) rfl rfl ?_
    show Steps p.tables e below (T24.setTop (mkF m 70 #[.val (.int p0), .val (.int p1), .val (.int p2), .unset, .unset, .unset, .unset, .unset, .unset] [(.ref b4), (.ref b4)])) _
    refine XS.bipush X24.here hx rfl (hb hby at_70) ?_
    show Steps p.tables e below (T24.setTop (mkF m 72 #[.val (.int p0), .val (.int p1), .val (.int p2), .unset, .unset, .unset, .unset, .unset, .unset] [(.int (10 : Int32)), (.ref b4), (.ref b4)])) _
    refine st25 _ ?_
    show Steps p.tables e below (T25.setTop (mkF m 75 #[.val (.int p0), .val (.int p1), .val (.int p2), .unset, .unset, .unset, .unset, .unset, .unset] [(.ref b_GET_QUEUE_LENGTH), (.int (10 : Int32)), (.ref b4), (.ref b4)])) _
    refine st26 _ ?_
    show Steps p.tables e below (T26.setTop (mkF m 76 #[.val (.int p0), .val (.int p1), .val (.int p2), .unset, .unset, .unset, .unset, .unset, .unset] [(.ref b4)])) _
    refine XS.dup X26.here hx rfl (hb hby at_76) rfl rfl ?_
    show Steps p.tables e below (T26.setTop (mkF m 77 #[.val (.int p0), .val (.int p1), .val (.int p2), .unset, .unset, .unset, .unset, .unset, .unset] [(.ref b4), (.ref b4)])) _
    refine XS.bipush X26.here hx rfl (hb hby at_77) ?_
    show Steps p.tables e below (T26.setTop (mkF m 79 #[.val (.int p0), .val (.int p1), .val (.int p2), .unset, .unset, .unset, .unset, .unset, .unset] [(.int (11 : Int32)), (.ref b4), (.ref b4)])) _
    refine st27 _ ?_
    show Steps p.tables e below (T27.setTop (mkF m 82 #[.val (.int p0), .val (.int p1), .val (.int p2), .unset, .unset, .unset, .unset, .unset, .unset] [(.ref b_ENTER), (.int (11 : Int32)), (.ref b4), (.ref b4)])) _
    refine st28 _ ?_
    show Steps p.tables e below (T28.setTop (mkF m 83 #[.val (.int p0), .val (.int p1), .val (.int p2), .unset, .unset, .unset, .unset, .unset, .unset] [(.ref b4)])) _
    refine XS.dup X28.here hx rfl (hb hby at_83) rfl rfl ?_
    show Steps p.tables e below (T28.setTop (mkF m 84 #[.val (.int p0), .val (.int p1), .val (.int p2), .unset, .unset, .unset, .unset, .unset, .unset] [(.ref b4), (.ref b4)])) _
    refine XS.bipush X28.here hx rfl (hb hby at_84) ?_
    show Steps p.tables e below (T28.setTop (mkF m 86 #[.val (.int p0), .val (.int p1), .val (.int p2), .unset, .unset, .unset, .unset, .unset, .unset] [(.int (12 : Int32)), (.ref b4), (.ref b4)])) _
    refine st29 _ ?_
    show Steps p.tables e below (T29.setTop (mkF m 89 #[.val (.int p0), .val (.int p1), .val (.int p2), .unset, .unset, .unset, .unset, .unset, .unset] [(.ref b_EXIT), (.int (12 : Int32)), (.ref b4), (.ref b4)])) _
    refine st30 _ ?_
    show Steps p.tables e below (T30.setTop (mkF m 90 #[.val (.int p0), .val (.int p1), .val (.int p2), .unset, .unset, .unset, .unset, .unset, .unset] [(.ref b4)])) _
    refine XS.dup X30.here hx rfl (hb hby at_90) rfl rfl ?_
    show Steps p.tables e below (T30.setTop (mkF m 91 #[.val (.int p0), .val (.int p1), .val (.int p2), .unset, .unset, .unset, .unset, .unset, .unset] [(.ref b4), (.ref b4)])) _
    refine XS.bipush X30.here hx rfl (hb hby at_91) ?_
    show Steps p.tables e below (T30.setTop (mkF m 93 #[.val (.int p0), .val (.int p1), .val (.int p2), .unset, .unset, .unset, .unset, .unset, .unset] [(.int (13 : Int32)), (.ref b4), (.ref b4)])) _
    refine st31 _ ?_
    show Steps p.tables e below (T31.setTop (mkF m 96 #[.val (.int p0), .val (.int p1), .val (.int p2), .unset, .unset, .unset, .unset, .unset, .unset] [(.ref b_WAIT), (.int (13 : Int32)), (.ref b4), (.ref b4)])) _
    refine st32 _ ?_
    show Steps p.tables e below (T32.setTop (mkF m 97 #[.val (.int p0), .val (.int p1), .val (.int p2), .unset, .unset, .unset, .unset, .unset, .unset] [(.ref b4)])) _
    refine XS.dup X32.here hx rfl (hb hby at_97) rfl rfl ?_
    show Steps p.tables e below (T32.setTop (mkF m 98 #[.val (.int p0), .val (.int p1), .val (.int p2), .unset, .unset, .unset, .unset, .unset, .unset] [(.ref b4), (.ref b4)])) _
    refine XS.bipush X32.here hx rfl (hb hby at_98) ?_
    show Steps p.tables e below (T32.setTop (mkF m 100 #[.val (.int p0), .val (.int p1), .val (.int p2), .unset, .unset, .unset, .unset, .unset, .unset] [(.int (14 : Int32)), (.ref b4), (.ref b4)])) _
    refine st33 _ ?_
    show Steps p.tables e below (T33.setTop (mkF m 103 #[.val (.int p0), .val (.int p1), .val (.int p2), .unset, .unset, .unset, .unset, .unset, .unset] [(.ref b_SIGNAL), (.int (14 : Int32)), (.ref b4), (.ref b4)])) _
    refine st34 _ ?_
    show Steps p.tables e below (T34.setTop (mkF m 104 #[.val (.int p0), .val (.int p1), .val (.int p2), .unset, .unset, .unset, .unset, .unset, .unset] [(.ref b4)])) _
    refine XS.dup X34.here hx rfl (hb hby at_104) rfl rfl ?_
    show Steps p.tables e below (T34.setTop (mkF m 105 #[.val (.int p0), .val (.int p1), .val (.int p2), .unset, .unset, .unset, .unset, .unset, .unset] [(.ref b4), (.ref b4)])) _
    refine XS.bipush X34.here hx rfl (hb hby at_105) ?_
    show Steps p.tables e below (T34.setTop (mkF m 107 #[.val (.int p0), .val (.int p1), .val (.int p2), .unset, .unset, .unset, .unset, .unset, .unset] [(.int (15 : Int32)), (.ref b4), (.ref b4)])) _
    refine st35 _ ?_
    show Steps p.tables e below (T35.setTop (mkF m 110 #[.val (.int p0), .val (.int p1), .val (.int p2), .unset, .unset, .unset, .unset, .unset, .unset] [(.ref b_SIGNAL_ALL), (.int (15 : Int32)), (.ref b4), (.ref b4)])) _
    refine st36 _ ?_
    show Steps p.tables e below (T36.setTop (mkF m 111 #[.val (.int p0), .val (.int p1), .val (.int p2), .unset, .unset, .unset, .unset, .unset, .unset] [(.ref b4)])) _
    refine XS.dup X36.here hx rfl (hb hby at_111) rfl rfl ?_
    show Steps p.tables e below (T36.setTop (mkF m 112 #[.val (.int p0), .val (.int p1), .val (.int p2), .unset, .unset, .unset, .unset, .unset, .unset] [(.ref b4), (.ref b4)])) _
    refine XS.bipush X36.here hx rfl (hb hby at_112) ?_
    show Steps p.tables e below (T36.setTop (mkF m 114 #[.val (.int p0), .val (.int p1), .val (.int p2), .unset, .unset, .unset, .unset, .unset, .unset] [(.int (16 : Int32)), (.ref b4), (.ref b4)])) _
    refine st37 _ ?_
    show Steps p.tables e below (T37.setTop (mkF m 117 #[.val (.int p0), .val (.int p1), .val (.int p2), .unset, .unset, .unset, .unset, .unset, .unset] [(.ref b_IS_EMPTY), (.int (16 : Int32)), (.ref b4), (.ref b4)])) _
    refine st38 _ ?_
    show Steps p.tables e below (T38.setTop (mkF m 118 #[.val (.int p0), .val (.int p1), .val (.int p2), .unset, .unset, .unset, .unset, .unset, .unset] [(.ref b4)])) _
    refine XS.dup X38.here hx rfl (hb hby at_118) rfl rfl ?_
    show Steps p.tables e below (T38.setTop (mkF m 119 #[.val (.int p0), .val (.int p1), .val (.int p2), .unset, .unset, .unset, .unset, .unset, .unset] [(.ref b4), (.ref b4)])) _
    refine XS.bipush X38.here hx rfl (hb hby at_119) ?_
    show Steps p.tables e below (T38.setTop (mkF m 121 #[.val (.int p0), .val (.int p1), .val (.int p2), .unset, .unset, .unset, .unset, .unset, .unset] [(.int (17 : Int32)), (.ref b4), (.ref b4)])) _
    refine st39 _ ?_
    show Steps p.tables e below (T39.setTop (mkF m 124 #[.val (.int p0), .val (.int p1), .val (.int p2), .unset, .unset, .unset, .unset, .unset, .unset] [(.ref b_GET_ENTRY_QUEUE_LENGTH), (.int (17 : Int32)), (.ref b4), (.ref b4)])) _
    refine st40 _ ?_
    show Steps p.tables e below (T40.setTop (mkF m 125 #[.val (.int p0), .val (.int p1), .val (.int p2), .unset, .unset, .unset, .unset, .unset, .unset] [(.ref b4)])) _
    refine XS.dup X40.here hx rfl (hb hby at_125) rfl rfl ?_
    show Steps p.tables e below (T40.setTop (mkF m 126 #[.val (.int p0), .val (.int p1), .val (.int p2), .unset, .unset, .unset, .unset, .unset, .unset] [(.ref b4), (.ref b4)])) _
    refine XS.bipush X40.here hx rfl (hb hby at_126) ?_
    show Steps p.tables e below (T40.setTop (mkF m 128 #[.val (.int p0), .val (.int p1), .val (.int p2), .unset, .unset, .unset, .unset, .unset, .unset] [(.int (18 : Int32)), (.ref b4), (.ref b4)])) _
    refine st41 _ ?_
    show Steps p.tables e below (T41.setTop (mkF m 131 #[.val (.int p0), .val (.int p1), .val (.int p2), .unset, .unset, .unset, .unset, .unset, .unset] [(.ref b_READ_LOCK), (.int (18 : Int32)), (.ref b4), (.ref b4)])) _
    refine st42 _ ?_
    show Steps p.tables e below (T42.setTop (mkF m 132 #[.val (.int p0), .val (.int p1), .val (.int p2), .unset, .unset, .unset, .unset, .unset, .unset] [(.ref b4)])) _
    refine XS.dup X42.here hx rfl (hb hby at_132) rfl rfl ?_
    show Steps p.tables e below (T42.setTop (mkF m 133 #[.val (.int p0), .val (.int p1), .val (.int p2), .unset, .unset, .unset, .unset, .unset, .unset] [(.ref b4), (.ref b4)])) _
    refine XS.bipush X42.here hx rfl (hb hby at_133) ?_
    show Steps p.tables e below (T42.setTop (mkF m 135 #[.val (.int p0), .val (.int p1), .val (.int p2), .unset, .unset, .unset, .unset, .unset, .unset] [(.int (19 : Int32)), (.ref b4), (.ref b4)])) _
    refine st43 _ ?_
    show Steps p.tables e below (T43.setTop (mkF m 138 #[.val (.int p0), .val (.int p1), .val (.int p2), .unset, .unset, .unset, .unset, .unset, .unset] [(.ref b_READ_UNLOCK), (.int (19 : Int32)), (.ref b4), (.ref b4)])) _
    refine st44 _ ?_
    show Steps p.tables e below (T44.setTop (mkF m 139 #[.val (.int p0), .val (.int p1), .val (.int p2), .unset, .unset, .unset, .unset, .unset, .unset] [(.ref b4)])) _
    refine XS.dup X44.here hx rfl (hb hby at_139) rfl rfl ?_
    show Steps p.tables e below (T44.setTop (mkF m 140 #[.val (.int p0), .val (.int p1), .val (.int p2), .unset, .unset, .unset, .unset, .unset, .unset] [(.ref b4), (.ref b4)])) _
    refine XS.bipush X44.here hx rfl (hb hby at_140) ?_
    show Steps p.tables e below (T44.setTop (mkF m 142 #[.val (.int p0), .val (.int p1), .val (.int p2), .unset, .unset, .unset, .unset, .unset, .unset] [(.int (20 : Int32)), (.ref b4), (.ref b4)])) _
    refine st45 _ ?_
    show Steps p.tables e below (T45.setTop (mkF m 145 #[.val (.int p0), .val (.int p1), .val (.int p2), .unset, .unset, .unset, .unset, .unset, .unset] [(.ref b_WRITE_LOCK), (.int (20 : Int32)), (.ref b4), (.ref b4)])) _
    refine st46 _ ?_
    show Steps p.tables e below (T46.setTop (mkF m 146 #[.val (.int p0), .val (.int p1), .val (.int p2), .unset, .unset, .unset, .unset, .unset, .unset] [(.ref b4)])) _
    refine XS.dup X46.here hx rfl (hb hby at_146) rfl rfl ?_
    show Steps p.tables e below (T46.setTop (mkF m 147 #[.val (.int p0), .val (.int p1), .val (.int p2), .unset, .unset, .unset, .unset, .unset, .unset] [(.ref b4), (.ref b4)])) _
    refine XS.bipush X46.here hx rfl (hb hby at_147) ?_
    show Steps p.tables e below (T46.setTop (mkF m 149 #[.val (.int p0), .val (.int p1), .val (.int p2), .unset, .unset, .unset, .unset, .unset, .unset] [(.int (21 : Int32)), (.ref b4), (.ref b4)])) _
    refine st47 _ ?_
    show Steps p.tables e below (T47.setTop (mkF m 152 #[.val (.int p0), .val (.int p1), .val (.int p2), .unset, .unset, .unset, .unset, .unset, .unset] [(.ref b_WRITE_UNLOCK), (.int (21 : Int32)), (.ref b4), (.ref b4)])) _
    refine st48 _ ?_
    show Steps p.tables e below (T48.setTop (mkF m 153 #[.val (.int p0), .val (.int p1), .val (.int p2), .unset, .unset, .unset, .unset, .unset, .unset] [(.ref b4)])) _
    refine XS.astoreN X48.here hx rfl (hb hby at_153) rfl rfl (l' := #[.val (.int p0), .val (.int p1), .val (.int p2), .val (.ref b4), .unset, .unset, .unset, .unset, .unset]) rfl ?_
    show Steps p.tables e below (T48.setTop (mkF m 154 #[.val (.int p0), .val (.int p1), .val (.int p2), .val (.ref b4), .unset, .unset, .unset, .unset, .unset] [])) _
    refine XS.iloadN X48.here hx rfl (hb hby at_154) rfl ?_
    show Steps p.tables e below (T48.setTop (mkF m 155 #[.val (.int p0), .val (.int p1), .val (.int p2), .val (.ref b4), .unset, .unset, .unset, .unset, .unset] [(.int p0)])) _
    refine X48.ldcI hx hown (mvT hZ (hw _ (List.mem_of_getElem? (i := 48) rfl))) (g := (mkF m 155 #[.val (.int p0), .val (.int p1), .val (.int p2), .val (.ref b4), .unset, .unset, .unset, .unset, .unset] [(.int p0)])) rfl (hb hby at_155) ?_
    show Steps p.tables e below (T48.setTop (mkF m 157 #[.val (.int p0), .val (.int p1), .val (.int p2), .val (.ref b4), .unset, .unset, .unset, .unset, .unset] [(.int (2147483647 : Int32)), (.int p0)])) _
    refine XS.iand X48.here hx rfl (hb hby at_157) rfl ?_
    show Steps p.tables e below (T48.setTop (mkF m 158 #[.val (.int p0), .val (.int p1), .val (.int p2), .val (.ref b4), .unset, .unset, .unset, .unset, .unset] [(.int (p0 &&& (2147483647 : Int32)))])) _
    refine XS.bipush X48.here hx rfl (hb hby at_158) ?_
    show Steps p.tables e below (T48.setTop (mkF m 160 #[.val (.int p0), .val (.int p1), .val (.int p2), .val (.ref b4), .unset, .unset, .unset, .unset, .unset] [(.int (22 : Int32)), (.int (p0 &&& (2147483647 : Int32)))])) _
    refine iremM X48 hx rfl (hb hby at_160) rfl (by decide) ?_
    rw [hK]
    show Steps p.tables e below (T48.setTop (mkF m 161 #[.val (.int p0), .val (.int p1), .val (.int p2), .val (.ref b4), .unset, .unset, .unset, .unset, .unset] [(.int K)])) _
    refine XS.istore X48.here hx rfl (hb hby at_161) rfl (l' := #[.val (.int p0), .val (.int p1), .val (.int p2), .val (.ref b4), .val (.int K), .unset, .unset, .unset, .unset]) rfl ?_
    show Steps p.tables e below (T48.setTop (mkF m 163 #[.val (.int p0), .val (.int p1), .val (.int p2), .val (.ref b4), .val (.int K), .unset, .unset, .unset, .unset] [])) _
    refine XS.iloadN X48.here hx rfl (hb hby at_163) rfl ?_
    show Steps p.tables e below (T48.setTop (mkF m 164 #[.val (.int p0), .val (.int p1), .val (.int p2), .val (.ref b4), .val (.int K), .unset, .unset, .unset, .unset] [(.int p1)])) _
    refine XS.iconst X48.here hx rfl (hb hby at_164) ?_
    show Steps p.tables e below (T48.setTop (mkF m 165 #[.val (.int p0), .val (.int p1), .val (.int p2), .val (.ref b4), .val (.int K), .unset, .unset, .unset, .unset] [(.int (3 : Int32)), (.int p1)])) _
    refine XS.iand X48.here hx rfl (hb hby at_165) rfl ?_
    show Steps p.tables e below (T48.setTop (mkF m 166 #[.val (.int p0), .val (.int p1), .val (.int p2), .val (.ref b4), .val (.int K), .unset, .unset, .unset, .unset] [(.int (p1 &&& (3 : Int32)))])) _
    refine XS.istore X48.here hx rfl (hb hby at_166) rfl (l' := #[.val (.int p0), .val (.int p1), .val (.int p2), .val (.ref b4), .val (.int K), .val (.int (p1 &&& (3 : Int32))), .unset, .unset, .unset]) rfl ?_
    show Steps p.tables e below (T48.setTop (mkF m 168 #[.val (.int p0), .val (.int p1), .val (.int p2), .val (.ref b4), .val (.int K), .val (.int (p1 &&& (3 : Int32))), .unset, .unset, .unset] [])) _
    refine XS.iload X48.here hx rfl (hb hby at_168) rfl ?_
    show Steps p.tables e below (T48.setTop (mkF m 170 #[.val (.int p0), .val (.int p1), .val (.int p2), .val (.ref b4), .val (.int K), .val (.int (p1 &&& (3 : Int32))), .unset, .unset, .unset] [(.int (p1 &&& (3 : Int32)))])) _
    refine st49 _ ?_
    show Steps p.tables e below (T49.setTop (mkF m 206 #[.val (.int p0), .val (.int p1), .val (.int p2), .val (.ref b4), .val (.int K), .val (.int (p1 &&& (3 : Int32))), .val (.int R), .unset, .unset] [])) _
    refine st50 _ ?_
    show Steps p.tables e below (T50.setTop (mkF m 253 #[.val (.int p0), .val (.int p1), .val (.int p2), .val (.ref b4), .val (.int K), .val (.int (p1 &&& (3 : Int32))), .val (.int R), .unset, .unset] [(.int vL)])) _
    refine XS.istore X50.here hx rfl (hb hby at_253) rfl (l' := #[.val (.int p0), .val (.int p1), .val (.int p2), .val (.ref b4), .val (.int K), .val (.int (p1 &&& (3 : Int32))), .val (.int R), .val (.int vL), .unset]) rfl ?_
    show Steps p.tables e below (T50.setTop (mkF m 255 #[.val (.int p0), .val (.int p1), .val (.int p2), .val (.ref b4), .val (.int K), .val (.int (p1 &&& (3 : Int32))), .val (.int R), .val (.int vL), .unset] [])) _
    refine XS.iload X50.here hx rfl (hb hby at_255) rfl ?_
    show Steps p.tables e below (T50.setTop (mkF m 257 #[.val (.int p0), .val (.int p1), .val (.int p2), .val (.ref b4), .val (.int K), .val (.int (p1 &&& (3 : Int32))), .val (.int R), .val (.int vL), .unset] [(.int vL)])) _
    refine st51 _ ?_
    show Steps p.tables e below (T51.setTop (mkF m 271 #[.val (.int p0), .val (.int p1), .val (.int p2), .val (.ref b4), .val (.int K), .val (.int (p1 &&& (3 : Int32))), .val (.int R), .val (.int vL), .unset] [(.int vE)])) _
    refine XS.istore X51.here hx rfl (hb hby at_271) rfl (l' := #[.val (.int p0), .val (.int p1), .val (.int p2), .val (.ref b4), .val (.int K), .val (.int (p1 &&& (3 : Int32))), .val (.int R), .val (.int vL), .val (.int vE)]) rfl ?_
    show Steps p.tables e below (T51.setTop (mkF m 273 #[.val (.int p0), .val (.int p1), .val (.int p2), .val (.ref b4), .val (.int K), .val (.int (p1 &&& (3 : Int32))), .val (.int R), .val (.int vL), .val (.int vE)] [])) _
    refine XS.aloadN X51.here hx rfl (hb hby at_273) rfl rfl ?_
    show Steps p.tables e below (T51.setTop (mkF m 274 #[.val (.int p0), .val (.int p1), .val (.int p2), .val (.ref b4), .val (.int K), .val (.int (p1 &&& (3 : Int32))), .val (.int R), .val (.int vL), .val (.int vE)] [(.ref b4)])) _
    refine XS.iload X51.here hx rfl (hb hby at_274) rfl ?_
    show Steps p.tables e below (T51.setTop (mkF m 276 #[.val (.int p0), .val (.int p1), .val (.int p2), .val (.ref b4), .val (.int K), .val (.int (p1 &&& (3 : Int32))), .val (.int R), .val (.int vL), .val (.int vE)] [(.int K), (.ref b4)])) _
    refine X51.aaload hx (j := K) (v := (.ref M)) (by rw [e51]; exact Ar52.1) (State.isArrayOf_alike hZ.alike Ar52.2.1) rfl Ar52.2.2 (own_inb G52 22 rfl (by rcases hK22 with q | q | q | q | q | q | q | q | q | q | q | q | q | q | q | q | q | q | q | q | q | q <;> (rw [q]; decide))) (own_get G52 (by rcases hM with ⟨q, r, -⟩ | ⟨q, r, -⟩ | ⟨q, r, -⟩ | ⟨q, r, -⟩ | ⟨q, r, -⟩ | ⟨q, r, -⟩ | ⟨q, r, -⟩ | ⟨q, r, -⟩ | ⟨q, r, -⟩ | ⟨q, r, -⟩ | ⟨q, r, -⟩ | ⟨q, r, -⟩ | ⟨q, r, -⟩ | ⟨q, r, -⟩ | ⟨q, r, -⟩ | ⟨q, r, -⟩ | ⟨q, r, -⟩ | ⟨q, r, -⟩ | ⟨q, r, -⟩ | ⟨q, r, -⟩ | ⟨q, r, -⟩ | ⟨q, r, -⟩ <;> (rw [q, ← r]; rfl))) (g := (mkF m 276 #[.val (.int p0), .val (.int p1), .val (.int p2), .val (.ref b4), .val (.int K), .val (.int (p1 &&& (3 : Int32))), .val (.int R), .val (.int vL), .val (.int vE)] [(.int K), (.ref b4)])) rfl rfl (hb hby at_276) _ ?_
    show Steps p.tables e below (T51.setTop (mkF m 277 #[.val (.int p0), .val (.int p1), .val (.int p2), .val (.ref b4), .val (.int K), .val (.int (p1 &&& (3 : Int32))), .val (.int R), .val (.int vL), .val (.int vE)] [(.ref M)])) _
    refine XS.iload X51.here hx rfl (hb hby at_277) rfl ?_
    show Steps p.tables e below (T51.setTop (mkF m 279 #[.val (.int p0), .val (.int p1), .val (.int p2), .val (.ref b4), .val (.int K), .val (.int (p1 &&& (3 : Int32))), .val (.int R), .val (.int vL), .val (.int vE)] [(.int R), (.ref M)])) _
    refine st53.trans ?_
    show Steps p.tables e below (T53.setTop (mkF m 282 #[.val (.int p0), .val (.int p1), .val (.int p2), .val (.ref b4), .val (.int K), .val (.int (p1 &&& (3 : Int32))), .val (.int R), .val (.int vL), .val (.int vE)] [(.int (if ml = (0 : Int32) ∨ R = (1 : Int32) then (0 : Int32) else (1 : Int32)))])) _
    refine XS.iload X53.here hx rfl (hb hby at_282) rfl ?_
    show Steps p.tables e below (T53.setTop (mkF m 284 #[.val (.int p0), .val (.int p1), .val (.int p2), .val (.ref b4), .val (.int K), .val (.int (p1 &&& (3 : Int32))), .val (.int R), .val (.int vL), .val (.int vE)] [(.int vE), (.int (if ml = (0 : Int32) ∨ R = (1 : Int32) then (0 : Int32) else (1 : Int32)))])) _
    refine XS.icmpNo X53.here hx rfl (hb hby at_284) rfl (teq hfin).2 ?_
    show Steps p.tables e below (T53.setTop (mkF m 287 #[.val (.int p0), .val (.int p1), .val (.int p2), .val (.ref b4), .val (.int K), .val (.int (p1 &&& (3 : Int32))), .val (.int R), .val (.int vL), .val (.int vE)] [])) _
    refine XS.iconst X53.here hx rfl (hb hby at_287) ?_
    show Steps p.tables e below (T53.setTop (mkF m 288 #[.val (.int p0), .val (.int p1), .val (.int p2), .val (.ref b4), .val (.int K), .val (.int (p1 &&& (3 : Int32))), .val (.int R), .val (.int vL), .val (.int vE)] [(.int (1 : Int32))])) _
    refine XS.goto X53.here hx rfl (pc0 := 288) (pc' := 292) rfl (hb hby at_288) (by decide) (by decide) ?_
    show Steps p.tables e below (T53.setTop (mkF m 292 #[.val (.int p0), .val (.int p1), .val (.int p2), .val (.ref b4), .val (.int K), .val (.int (p1 &&& (3 : Int32))), .val (.int R), .val (.int vL), .val (.int vE)] [(.int (1 : Int32))])) _
    exact own_retZ X53 hx rfl Bd.returns (hb hby at_292) hr
  · show rm_law_Q Z p0 p1 p2 b_READ b_WRITE b_TEST_AND_SET b_ACQUIRE b_TRY_ACQUIRE b_AWAIT b_RELEASE b_DRAIN_PERMITS b_AVAILABLE_PERMITS b_HAS_QUEUED_THREADS b_GET_QUEUE_LENGTH b_ENTER b_EXIT b_WAIT b_SIGNAL b_SIGNAL_ALL b_IS_EMPTY b_GET_ENTRY_QUEUE_LENGTH b_READ_LOCK b_READ_UNLOCK b_WRITE_LOCK b_WRITE_UNLOCK h0 n0 _ T53.heap _
    rw [eh53]
    exact ⟨rfl, N53⟩
set_option maxRecDepth 65536 in
set_option maxHeartbeats 40000000 in
theorem own_comes {Post : Tables → Env → Array Value → State → Outcome → State → Prop} (hpost : ∀ tb e args s v u, (limb_1_1.after args s (.returned v) u = true ∧ limb_1_2.after args s (.returned v) u = true ∧ True) → FrameEnd s (.returned v) u (Jvm.fieldLocs frame_1_writes args s ++ Jvm.arrayLocs frame_1_arrays args s ++ Jvm.staticLocs frame_1_statics s) 16 128 → Post tb e args s (.returned v) u) :
    ArmFor flags0 classFile x code maxLocals ret World_1 tables_1 room_1 Calls_1 rest_1 Pre_1 Post := by
  intro l hfl _ _ p e ha hc hk s m args below hf hA hF happ hP
  obtain ⟨hcalls, hrest, hpre⟩ := hP
  obtain ⟨-, -, -, hnamed, -, -, -, hat⟩ := (Spec.applies_iff hf).mp happ
  obtain ⟨hg, hn⟩ := and_e (Cond.before_iff.mp (show (Jvm.Cond.and given_1 narrow_1).before args s = true from hpre))
  obtain ⟨h1, h2⟩ := and_e hg
  obtain ⟨w0, w1, w2, rfl⟩ := own_arg3 h1
  have hw := fun d (hd : d ∈ tables_1) => atoms_spec (ws := Jvm.Cond.code x code maxLocals ret :: tables_1) hat d (List.mem_cons_of_mem _ hd)
  have hfit : Fit s := fun {y c} hc i hi => by
    obtain ⟨ha, rfl⟩ := Array.getElem?_eq_some_iff.mp hc
    have q := List.all_eq_true.mp ((Array.all_eq_true_iff_forall_mem.mp hF) _ (Array.getElem_mem ha)) i (List.mem_range.mpr hi)
    simpa [Array.getElem?_eq_getElem hi] using q
  obtain ⟨g0, h2⟩ := and_e h2
  obtain ⟨i0, e0⟩ := is_v g0
  obtain rfl : w0 = (.int i0) := Option.some.inj e0
  obtain ⟨g1, h2⟩ := and_e h2
  obtain ⟨i1, e1⟩ := is_v g1
  obtain rfl : w1 = (.int i1) := Option.some.inj e1
  have g2 := h2
  obtain ⟨i2, e2⟩ := is_v g2
  obtain rfl : w2 = (.int i2) := Option.some.inj e2
  obtain ⟨c0, hn⟩ := and_e hn
  obtain ⟨c1, hn⟩ := and_e hn
  obtain ⟨c2, hn⟩ := and_e hn
  obtain ⟨c3, hn⟩ := and_e hn
  obtain ⟨c4, hn⟩ := and_e hn
  obtain ⟨c5, hn⟩ := and_e hn
  obtain ⟨c6, hn⟩ := and_e hn
  obtain ⟨c7, hn⟩ := and_e hn
  obtain ⟨c8, hn⟩ := and_e hn
  obtain ⟨c9, hn⟩ := and_e hn
  obtain ⟨c10, hn⟩ := and_e hn
  obtain ⟨c11, hn⟩ := and_e hn
  obtain ⟨c12, hn⟩ := and_e hn
  obtain ⟨c13, hn⟩ := and_e hn
  obtain ⟨c14, hn⟩ := and_e hn
  obtain ⟨c15, hn⟩ := and_e hn
  obtain ⟨c16, hn⟩ := and_e hn
  obtain ⟨c17, hn⟩ := and_e hn
  obtain ⟨c18, hn⟩ := and_e hn
  obtain ⟨c19, hn⟩ := and_e hn
  obtain ⟨c20, hn⟩ := and_e hn
  obtain ⟨c21, hn⟩ := and_e hn
  obtain ⟨c22, hn⟩ := and_e hn
  obtain ⟨c23, hn⟩ := and_e hn
  obtain ⟨c24, hn⟩ := and_e hn
  obtain ⟨c25, hn⟩ := and_e hn
  obtain ⟨c26, hn⟩ := and_e hn
  obtain ⟨c27, hn⟩ := and_e hn
  obtain ⟨c28, hn⟩ := and_e hn
  obtain ⟨c29, hn⟩ := and_e hn
  obtain ⟨c30, hn⟩ := and_e hn
  obtain ⟨c31, hn⟩ := and_e hn
  obtain ⟨c32, hn⟩ := and_e hn
  obtain ⟨c33, hn⟩ := and_e hn
  obtain ⟨c34, hn⟩ := and_e hn
  obtain ⟨c35, hn⟩ := and_e hn
  obtain ⟨c36, hn⟩ := and_e hn
  obtain ⟨c37, hn⟩ := and_e hn
  obtain ⟨c38, hn⟩ := and_e hn
  obtain ⟨c39, hn⟩ := and_e hn
  obtain ⟨c40, hn⟩ := and_e hn
  obtain ⟨c41, hn⟩ := and_e hn
  obtain ⟨c42, hn⟩ := and_e hn
  have c43 := hn
  obtain ⟨b_READ, ev_READ⟩ := exa_v c0
  have S_READ := Sta.start ev_READ (Or.inr ⟨(hw _ (List.mem_of_getElem? (i := 3) rfl)), (hw _ (List.mem_of_getElem? (i := 4) rfl))⟩)
  have E_READ := Exa.start ev_READ c0
  obtain ⟨b_WRITE, ev_WRITE⟩ := exa_v c1
  have S_WRITE := Sta.start ev_WRITE (Or.inr ⟨(hw _ (List.mem_of_getElem? (i := 3) rfl)), (hw _ (List.mem_of_getElem? (i := 7) rfl))⟩)
  have E_WRITE := Exa.start ev_WRITE c1
  obtain ⟨b_TEST_AND_SET, ev_TEST_AND_SET⟩ := exa_v c2
  have S_TEST_AND_SET := Sta.start ev_TEST_AND_SET (Or.inr ⟨(hw _ (List.mem_of_getElem? (i := 3) rfl)), (hw _ (List.mem_of_getElem? (i := 9) rfl))⟩)
  have E_TEST_AND_SET := Exa.start ev_TEST_AND_SET c2
  obtain ⟨b_ACQUIRE, ev_ACQUIRE⟩ := exa_v c3
  have S_ACQUIRE := Sta.start ev_ACQUIRE (Or.inr ⟨(hw _ (List.mem_of_getElem? (i := 3) rfl)), (hw _ (List.mem_of_getElem? (i := 11) rfl))⟩)
  have E_ACQUIRE := Exa.start ev_ACQUIRE c3
  obtain ⟨b_TRY_ACQUIRE, ev_TRY_ACQUIRE⟩ := exa_v c4
  have S_TRY_ACQUIRE := Sta.start ev_TRY_ACQUIRE (Or.inr ⟨(hw _ (List.mem_of_getElem? (i := 3) rfl)), (hw _ (List.mem_of_getElem? (i := 13) rfl))⟩)
  have E_TRY_ACQUIRE := Exa.start ev_TRY_ACQUIRE c4
  obtain ⟨b_AWAIT, ev_AWAIT⟩ := exa_v c5
  have S_AWAIT := Sta.start ev_AWAIT (Or.inr ⟨(hw _ (List.mem_of_getElem? (i := 3) rfl)), (hw _ (List.mem_of_getElem? (i := 15) rfl))⟩)
  have E_AWAIT := Exa.start ev_AWAIT c5
  obtain ⟨b_RELEASE, ev_RELEASE⟩ := exa_v c6
  have S_RELEASE := Sta.start ev_RELEASE (Or.inr ⟨(hw _ (List.mem_of_getElem? (i := 3) rfl)), (hw _ (List.mem_of_getElem? (i := 17) rfl))⟩)
  have E_RELEASE := Exa.start ev_RELEASE c6
  obtain ⟨b_DRAIN_PERMITS, ev_DRAIN_PERMITS⟩ := exa_v c7
  have S_DRAIN_PERMITS := Sta.start ev_DRAIN_PERMITS (Or.inr ⟨(hw _ (List.mem_of_getElem? (i := 3) rfl)), (hw _ (List.mem_of_getElem? (i := 19) rfl))⟩)
  have E_DRAIN_PERMITS := Exa.start ev_DRAIN_PERMITS c7
  obtain ⟨b_AVAILABLE_PERMITS, ev_AVAILABLE_PERMITS⟩ := exa_v c8
  have S_AVAILABLE_PERMITS := Sta.start ev_AVAILABLE_PERMITS (Or.inr ⟨(hw _ (List.mem_of_getElem? (i := 3) rfl)), (hw _ (List.mem_of_getElem? (i := 21) rfl))⟩)
  have E_AVAILABLE_PERMITS := Exa.start ev_AVAILABLE_PERMITS c8
  obtain ⟨b_HAS_QUEUED_THREADS, ev_HAS_QUEUED_THREADS⟩ := exa_v c9
  have S_HAS_QUEUED_THREADS := Sta.start ev_HAS_QUEUED_THREADS (Or.inr ⟨(hw _ (List.mem_of_getElem? (i := 3) rfl)), (hw _ (List.mem_of_getElem? (i := 23) rfl))⟩)
  have E_HAS_QUEUED_THREADS := Exa.start ev_HAS_QUEUED_THREADS c9
  obtain ⟨b_GET_QUEUE_LENGTH, ev_GET_QUEUE_LENGTH⟩ := exa_v c10
  have S_GET_QUEUE_LENGTH := Sta.start ev_GET_QUEUE_LENGTH (Or.inr ⟨(hw _ (List.mem_of_getElem? (i := 3) rfl)), (hw _ (List.mem_of_getElem? (i := 25) rfl))⟩)
  have E_GET_QUEUE_LENGTH := Exa.start ev_GET_QUEUE_LENGTH c10
  obtain ⟨b_ENTER, ev_ENTER⟩ := exa_v c11
  have S_ENTER := Sta.start ev_ENTER (Or.inr ⟨(hw _ (List.mem_of_getElem? (i := 3) rfl)), (hw _ (List.mem_of_getElem? (i := 27) rfl))⟩)
  have E_ENTER := Exa.start ev_ENTER c11
  obtain ⟨b_EXIT, ev_EXIT⟩ := exa_v c12
  have S_EXIT := Sta.start ev_EXIT (Or.inr ⟨(hw _ (List.mem_of_getElem? (i := 3) rfl)), (hw _ (List.mem_of_getElem? (i := 29) rfl))⟩)
  have E_EXIT := Exa.start ev_EXIT c12
  obtain ⟨b_WAIT, ev_WAIT⟩ := exa_v c13
  have S_WAIT := Sta.start ev_WAIT (Or.inr ⟨(hw _ (List.mem_of_getElem? (i := 3) rfl)), (hw _ (List.mem_of_getElem? (i := 31) rfl))⟩)
  have E_WAIT := Exa.start ev_WAIT c13
  obtain ⟨b_SIGNAL, ev_SIGNAL⟩ := exa_v c14
  have S_SIGNAL := Sta.start ev_SIGNAL (Or.inr ⟨(hw _ (List.mem_of_getElem? (i := 3) rfl)), (hw _ (List.mem_of_getElem? (i := 33) rfl))⟩)
  have E_SIGNAL := Exa.start ev_SIGNAL c14
  obtain ⟨b_SIGNAL_ALL, ev_SIGNAL_ALL⟩ := exa_v c15
  have S_SIGNAL_ALL := Sta.start ev_SIGNAL_ALL (Or.inr ⟨(hw _ (List.mem_of_getElem? (i := 3) rfl)), (hw _ (List.mem_of_getElem? (i := 35) rfl))⟩)
  have E_SIGNAL_ALL := Exa.start ev_SIGNAL_ALL c15
  obtain ⟨b_IS_EMPTY, ev_IS_EMPTY⟩ := exa_v c16
  have S_IS_EMPTY := Sta.start ev_IS_EMPTY (Or.inr ⟨(hw _ (List.mem_of_getElem? (i := 3) rfl)), (hw _ (List.mem_of_getElem? (i := 37) rfl))⟩)
  have E_IS_EMPTY := Exa.start ev_IS_EMPTY c16
  obtain ⟨b_GET_ENTRY_QUEUE_LENGTH, ev_GET_ENTRY_QUEUE_LENGTH⟩ := exa_v c17
  have S_GET_ENTRY_QUEUE_LENGTH := Sta.start ev_GET_ENTRY_QUEUE_LENGTH (Or.inr ⟨(hw _ (List.mem_of_getElem? (i := 3) rfl)), (hw _ (List.mem_of_getElem? (i := 39) rfl))⟩)
  have E_GET_ENTRY_QUEUE_LENGTH := Exa.start ev_GET_ENTRY_QUEUE_LENGTH c17
  obtain ⟨b_READ_LOCK, ev_READ_LOCK⟩ := exa_v c18
  have S_READ_LOCK := Sta.start ev_READ_LOCK (Or.inr ⟨(hw _ (List.mem_of_getElem? (i := 3) rfl)), (hw _ (List.mem_of_getElem? (i := 41) rfl))⟩)
  have E_READ_LOCK := Exa.start ev_READ_LOCK c18
  obtain ⟨b_READ_UNLOCK, ev_READ_UNLOCK⟩ := exa_v c19
  have S_READ_UNLOCK := Sta.start ev_READ_UNLOCK (Or.inr ⟨(hw _ (List.mem_of_getElem? (i := 3) rfl)), (hw _ (List.mem_of_getElem? (i := 43) rfl))⟩)
  have E_READ_UNLOCK := Exa.start ev_READ_UNLOCK c19
  obtain ⟨b_WRITE_LOCK, ev_WRITE_LOCK⟩ := exa_v c20
  have S_WRITE_LOCK := Sta.start ev_WRITE_LOCK (Or.inr ⟨(hw _ (List.mem_of_getElem? (i := 3) rfl)), (hw _ (List.mem_of_getElem? (i := 45) rfl))⟩)
  have E_WRITE_LOCK := Exa.start ev_WRITE_LOCK c20
  obtain ⟨b_WRITE_UNLOCK, ev_WRITE_UNLOCK⟩ := exa_v c21
  have S_WRITE_UNLOCK := Sta.start ev_WRITE_UNLOCK (Or.inr ⟨(hw _ (List.mem_of_getElem? (i := 3) rfl)), (hw _ (List.mem_of_getElem? (i := 47) rfl))⟩)
  have E_WRITE_UNLOCK := Exa.start ev_WRITE_UNLOCK c21
  have F_READ_mayLeave := own_fI ev_READ c22
  have F_WRITE_mayLeave := own_fI ev_WRITE c23
  have F_GET_QUEUE_LENGTH_mayLeave := own_fI ev_GET_QUEUE_LENGTH c24
  have F_READ_UNLOCK_mayLeave := own_fI ev_READ_UNLOCK c25
  have F_AVAILABLE_PERMITS_mayLeave := own_fI ev_AVAILABLE_PERMITS c26
  have F_AWAIT_mayLeave := own_fI ev_AWAIT c27
  have F_ACQUIRE_mayLeave := own_fI ev_ACQUIRE c28
  have F_IS_EMPTY_mayLeave := own_fI ev_IS_EMPTY c29
  have F_WAIT_mayLeave := own_fI ev_WAIT c30
  have F_GET_ENTRY_QUEUE_LENGTH_mayLeave := own_fI ev_GET_ENTRY_QUEUE_LENGTH c31
  have F_TEST_AND_SET_mayLeave := own_fI ev_TEST_AND_SET c32
  have F_ENTER_mayLeave := own_fI ev_ENTER c33
  have F_READ_LOCK_mayLeave := own_fI ev_READ_LOCK c34
  have F_HAS_QUEUED_THREADS_mayLeave := own_fI ev_HAS_QUEUED_THREADS c35
  have F_DRAIN_PERMITS_mayLeave := own_fI ev_DRAIN_PERMITS c36
  have F_SIGNAL_mayLeave := own_fI ev_SIGNAL c37
  have F_SIGNAL_ALL_mayLeave := own_fI ev_SIGNAL_ALL c38
  have F_RELEASE_mayLeave := own_fI ev_RELEASE c39
  have F_EXIT_mayLeave := own_fI ev_EXIT c40
  have F_WRITE_UNLOCK_mayLeave := own_fI ev_WRITE_UNLOCK c41
  have F_WRITE_LOCK_mayLeave := own_fI ev_WRITE_LOCK c42
  have F_TRY_ACQUIRE_mayLeave := own_fI ev_TRY_ACQUIRE c43
  obtain ⟨n, o, h1, h2, h3, _, L, rfl, ⟨rfl, N⟩, hq⟩ := rm_law l s _ hw tables_1 i0 i1 i2 b_READ b_WRITE b_TEST_AND_SET b_ACQUIRE b_TRY_ACQUIRE b_AWAIT b_RELEASE b_DRAIN_PERMITS b_AVAILABLE_PERMITS b_HAS_QUEUED_THREADS b_GET_QUEUE_LENGTH b_ENTER b_EXIT b_WAIT b_SIGNAL b_SIGNAL_ALL b_IS_EMPTY b_GET_ENTRY_QUEUE_LENGTH b_READ_LOCK b_READ_UNLOCK b_WRITE_LOCK b_WRITE_UNLOCK s.heap s.heap.size (Nat.le_refl _) S_READ E_READ S_WRITE E_WRITE S_TEST_AND_SET E_TEST_AND_SET S_ACQUIRE E_ACQUIRE S_TRY_ACQUIRE E_TRY_ACQUIRE S_AWAIT E_AWAIT S_RELEASE E_RELEASE S_DRAIN_PERMITS E_DRAIN_PERMITS S_AVAILABLE_PERMITS E_AVAILABLE_PERMITS S_HAS_QUEUED_THREADS E_HAS_QUEUED_THREADS S_GET_QUEUE_LENGTH E_GET_QUEUE_LENGTH S_ENTER E_ENTER S_EXIT E_EXIT S_WAIT E_WAIT S_SIGNAL E_SIGNAL S_SIGNAL_ALL E_SIGNAL_ALL S_IS_EMPTY E_IS_EMPTY S_GET_ENTRY_QUEUE_LENGTH E_GET_ENTRY_QUEUE_LENGTH S_READ_LOCK E_READ_LOCK S_READ_UNLOCK E_READ_UNLOCK S_WRITE_LOCK E_WRITE_LOCK S_WRITE_UNLOCK E_WRITE_UNLOCK F_READ_mayLeave F_WRITE_mayLeave F_GET_QUEUE_LENGTH_mayLeave F_READ_UNLOCK_mayLeave F_AVAILABLE_PERMITS_mayLeave F_AWAIT_mayLeave F_ACQUIRE_mayLeave F_IS_EMPTY_mayLeave F_WAIT_mayLeave F_GET_ENTRY_QUEUE_LENGTH_mayLeave F_TEST_AND_SET_mayLeave F_ENTER_mayLeave F_READ_LOCK_mayLeave F_HAS_QUEUED_THREADS_mayLeave F_DRAIN_PERMITS_mayLeave F_SIGNAL_mayLeave F_SIGNAL_ALL_mayLeave F_RELEASE_mayLeave F_EXIT_mayLeave F_WRITE_UNLOCK_mayLeave F_WRITE_LOCK_mayLeave F_TRY_ACQUIRE_mayLeave p e ha hc hk s m _ below hf ((Spec.applies_iff_loose hf).mp happ).1 ⟨rfl, State.Warmed39.refl s, rfl⟩ trivial
  exact ⟨n, _, h1, h2, h3, hpost _ _ _ _ _ _ ⟨Cond.after_iff.mpr rfl, Cond.after_iff.mpr (eq_i res_at (Term.int_eval (1)) rfl), trivial⟩ ⟨hq.1, hq.2.1, (hq.2.2.sift fun y hy => Or.inr (N y hy)).mono (by decide) (by decide)⟩⟩
theorem main_1_1 : Claimed_1_1 := own_comes fun _ _ _ _ _ _ h hF => ⟨h.1, hF⟩
theorem main_1_2 : Claimed_1_2 := own_comes fun _ _ _ _ _ _ h hF => ⟨h.2.1, hF⟩
end Jvm.Pilot.@@N@@
namespace Jvm.Pilot.@@N@@
open Jvm Jvm.ClassFile Sem Op Lib Jvm.Free Jvm.Stand Jvm.Pilot.@@N@@.Jvm.D
/-! MADE BY PROGRAM (witnessworld.py) out of the Statement's table words and the real class files: 13 classes; the members and pool entries that the words name. The judged class is class 1, her method 1. -/
namespace start1
open Jvm.ClassFile
def u (s : String) : CpInfo := .utf8 (stringToUtf16 s)
/-- a pool by its gaps: so many unusable entries, then the entry; so many at the end -/
def gap : Nat → List CpInfo → List CpInfo
  | 0, r => r
  | n + 1, r => .unusable :: gap n r
def poolList (es : List (Nat × CpInfo)) (last : Nat) : List CpInfo := es.foldr (fun e r => gap e.1 (e.2 :: r)) (gap last [])
def pool (es : List (Nat × CpInfo)) (last : Nat) : Array CpInfo := ⟨poolList es last⟩
def fileOf (pool : Array CpInfo) (this : Nat) (attrs : Array Attribute := #[]) (ms : Array MethodInfo := #[]) (fl : Nat := 33) (sup : Nat := 0) (ifs : Array Nat := #[]) (fds : Array FieldInfo := #[]) : ClassFile where
  minorVersion := 0
  majorVersion := 65
  constantPool := pool
  accessFlags := fl
  thisClass := this
  superClass := sup
  interfaces := ifs
  fields := fds
  methods := ms
  attributes := attrs
def plain (name : String) (sup : Option ClassId) : Class where
  name := name
  kind := .ordinary
  loader := none
  accessFlags := 33
  super := sup
  interfaces := #[]
  cf := none
  fields := #[]
  methods := #[]
  instanceTypes := #[]
  staticTypes := #[]
  resolved := #[]
  callSites := []
  init := .initialized
  statics := none
  mirror := none

def pool0 : Array CpInfo := pool [(5, u "<init>"), (0, u "()V"), (1, .class_ 10), (1, u "java/lang/Object")] 113

def k0m0 : Method := { name := "<init>", desc := "()V", sig := { parameters := [], returnType := none }, accessFlags := 1, code := none }
/-- java/lang/Object -/
def k0 : Class := { plain "java/lang/Object" none with
  accessFlags := 33
  interfaces := #[]
  cf := some (fileOf pool0 8 #[] #[{ accessFlags := 1, nameIndex := 5, descriptorIndex := 6, attributes := #[] }] 33 0 #[] #[])
  fields := #[]
  methods := #[k0m0]
  instanceTypes := #[]
  staticTypes := #[]
  resolved := Array.replicate 124 none
  statics := none }

def pool1 : Array CpInfo := pool [(2, .class_ 4), (1, u "java/lang/Object"), (0, u "<init>"), (0, u "()V"), (0, .class_ 8), (0, u "com/example/passeren/passeren/sync/StepScheduler$Operation"), (0, .fieldref 7 10), (0, .nameAndType 11 12), (0, u "READ"), (0, u "Lcom/example/passeren/passeren/sync/StepScheduler$Operation;"), (0, .fieldref 7 14), (0, .nameAndType 15 12), (0, u "WRITE"), (0, .fieldref 7 17), (0, .nameAndType 18 12), (0, u "TEST_AND_SET"), (0, .fieldref 7 20), (0, .nameAndType 21 12), (0, u "ACQUIRE"), (0, .fieldref 7 23), (0, .nameAndType 24 12), (0, u "TRY_ACQUIRE"), (0, .fieldref 7 26), (0, .nameAndType 27 12), (0, u "AWAIT"), (0, .fieldref 7 29), (0, .nameAndType 30 12), (0, u "RELEASE"), (0, .fieldref 7 32), (0, .nameAndType 33 12), (0, u "DRAIN_PERMITS"), (0, .fieldref 7 35), (0, .nameAndType 36 12), (0, u "AVAILABLE_PERMITS"), (0, .fieldref 7 38), (0, .nameAndType 39 12), (0, u "HAS_QUEUED_THREADS"), (0, .fieldref 7 41), (0, .nameAndType 42 12), (0, u "GET_QUEUE_LENGTH"), (0, .fieldref 7 44), (0, .nameAndType 45 12), (0, u "ENTER"), (0, .fieldref 7 47), (0, .nameAndType 48 12), (0, u "EXIT"), (0, .fieldref 7 50), (0, .nameAndType 51 12), (0, u "WAIT"), (0, .fieldref 7 53), (0, .nameAndType 54 12), (0, u "SIGNAL"), (0, .fieldref 7 56), (0, .nameAndType 57 12), (0, u "SIGNAL_ALL"), (0, .fieldref 7 59), (0, .nameAndType 60 12), (0, u "IS_EMPTY"), (0, .fieldref 7 62), (0, .nameAndType 63 12), (0, u "GET_ENTRY_QUEUE_LENGTH"), (0, .fieldref 7 65), (0, .nameAndType 66 12), (0, u "READ_LOCK"), (0, .fieldref 7 68), (0, .nameAndType 69 12), (0, u "READ_UNLOCK"), (0, .fieldref 7 71), (0, .nameAndType 72 12), (0, u "WRITE_LOCK"), (0, .fieldref 7 74), (0, .nameAndType 75 12), (0, u "WRITE_UNLOCK"), (0, .integer 2147483647), (0, .methodref 7 78), (0, .nameAndType 79 80), (0, u "leaves"), (0, u "(I)Z"), (0, .class_ 82), (0, u "com/example/passeren/passeren/sync/OperationLeavesPinLaw"), (2, u "law"), (0, u "(III)Z")] 9

def k1m0 : Method := { name := "<init>", desc := "()V", sig := { parameters := [], returnType := none }, accessFlags := 2, code := none }
def k1c1 : Code := { maxStack := 4, maxLocals := 9, code := code, exceptionTable := #[], attributes := #[] }
def k1m1 : Method := { name := "law", desc := "(III)Z", sig := { parameters := [.int, .int, .int], returnType := some .boolean }, accessFlags := 9, code := some k1c1 }
/-- com/example/passeren/passeren/sync/OperationLeavesPinLaw -/
def k1 : Class := { plain "com/example/passeren/passeren/sync/OperationLeavesPinLaw" (some 0) with
  accessFlags := 49
  interfaces := #[]
  cf := some (fileOf pool1 81 #[] #[{ accessFlags := 2, nameIndex := 5, descriptorIndex := 6, attributes := #[] }, { accessFlags := 9, nameIndex := 85, descriptorIndex := 86, attributes := #[] }] 49 2 #[] #[])
  fields := #[]
  methods := #[k1m0, k1m1]
  instanceTypes := #[]
  staticTypes := #[]
  resolved := Array.replicate 96 none
  statics := none }

def pool2 : Array CpInfo := pool [(1, .class_ 2), (0, u "java/lang/constant/Constable"), (0, .class_ 4), (0, u "java/lang/Object")] 6

/-- java/lang/constant/Constable -/
def k2 : Class := { plain "java/lang/constant/Constable" (some 0) with
  accessFlags := 1537
  interfaces := #[]
  cf := some (fileOf pool2 1 #[] #[] 1537 3 #[] #[])
  fields := #[]
  methods := #[]
  instanceTypes := #[]
  staticTypes := #[]
  resolved := Array.replicate 11 none
  statics := none }

def pool3 : Array CpInfo := pool [(1, .class_ 2), (0, u "java/lang/Comparable"), (0, .class_ 4), (0, u "java/lang/Object")] 7

/-- java/lang/Comparable -/
def k3 : Class := { plain "java/lang/Comparable" (some 0) with
  accessFlags := 1537
  interfaces := #[]
  cf := some (fileOf pool3 1 #[] #[] 1537 3 #[] #[])
  fields := #[]
  methods := #[]
  instanceTypes := #[]
  staticTypes := #[]
  resolved := Array.replicate 12 none
  statics := none }

def pool4 : Array CpInfo := pool [(1, .class_ 2), (0, u "java/io/Serializable"), (0, .class_ 4), (0, u "java/lang/Object")] 2

/-- java/io/Serializable -/
def k4 : Class := { plain "java/io/Serializable" (some 0) with
  accessFlags := 1537
  interfaces := #[]
  cf := some (fileOf pool4 1 #[] #[] 1537 3 #[] #[])
  fields := #[]
  methods := #[]
  instanceTypes := #[]
  staticTypes := #[]
  resolved := Array.replicate 7 none
  statics := none }

def pool5 : Array CpInfo := pool [(2, .class_ 4), (1, u "java/lang/Enum"), (0, u "name"), (0, u "Ljava/lang/String;"), (2, u "ordinal"), (0, u "I"), (1, .class_ 14), (1, u "java/lang/Object"), (4, u "hash"), (86, .class_ 108), (1, u "java/lang/Enum$EnumDesc"), (2, .class_ 112), (0, u "java/lang/constant/Constable"), (0, .class_ 114), (0, u "java/lang/Comparable"), (0, .class_ 116), (0, u "java/io/Serializable")] 87

/-- java/lang/Enum -/
def k5 : Class := { plain "java/lang/Enum" (some 0) with
  accessFlags := 1057
  interfaces := #[2, 3, 4]
  cf := some (fileOf pool5 2 #[.nestMembers #[106]] #[] 1057 12 #[111, 113, 115] #[{ accessFlags := 18, nameIndex := 5, descriptorIndex := 6, attributes := #[] }, { accessFlags := 18, nameIndex := 9, descriptorIndex := 10, attributes := #[] }, { accessFlags := 2, nameIndex := 19, descriptorIndex := 10, attributes := #[] }])
  fields := #[{ name := "name", type := (.object "java/lang/String"), accessFlags := 18, slot := 0, constantValue := 0 }, { name := "ordinal", type := .int, accessFlags := 18, slot := 1, constantValue := 0 }, { name := "hash", type := .int, accessFlags := 2, slot := 2, constantValue := 0 }]
  methods := #[]
  instanceTypes := #[(.object "java/lang/String"), .int, .int]
  staticTypes := #[]
  resolved := Array.replicate 204 none
  statics := none }

def pool6 : Array CpInfo := pool [(1, .class_ 2), (0, u "com/example/passeren/passeren/sync/StepScheduler"), (0, .class_ 4), (0, u "com/example/passeren/passeren/sync/StepScheduler$Operation"), (2, u "READ"), (0, u "Lcom/example/passeren/passeren/sync/StepScheduler$Operation;"), (2, u "WRITE"), (2, u "TEST_AND_SET"), (2, u "ACQUIRE"), (2, u "TRY_ACQUIRE"), (2, u "AWAIT"), (2, u "RELEASE"), (2, u "DRAIN_PERMITS"), (2, u "AVAILABLE_PERMITS"), (2, u "HAS_QUEUED_THREADS"), (2, u "GET_QUEUE_LENGTH"), (2, u "ENTER"), (2, u "EXIT"), (2, u "WAIT"), (2, u "SIGNAL"), (2, u "SIGNAL_ALL"), (2, u "IS_EMPTY"), (2, u "GET_ENTRY_QUEUE_LENGTH"), (2, u "READ_LOCK"), (2, u "READ_UNLOCK"), (2, u "WRITE_LOCK"), (2, u "WRITE_UNLOCK"), (2, u "$VALUES"), (0, u "[Lcom/example/passeren/passeren/sync/StepScheduler$Operation;"), (6, .class_ 84), (1, u "java/lang/Enum"), (8, u "word"), (0, u "Ljava/lang/String;"), (2, u "line"), (0, u "Lcom/example/passeren/passeren/sync/StepScheduler$Operation$Line;"), (2, u "grants"), (0, u "Z"), (0, .fieldref 3 104), (0, .nameAndType 105 102), (0, u "mayLeave"), (97, u "leaves"), (0, u "(I)Z")] 10

def k6c0 : Code := { maxStack := 2, maxLocals := 2, code := prog_86_method_7_code, exceptionTable := #[], attributes := #[] }
def k6m0 : Method := { name := "leaves", desc := "(I)Z", sig := { parameters := [.int], returnType := some .boolean }, accessFlags := 1, code := some k6c0 }
/-- com/example/passeren/passeren/sync/StepScheduler$Operation -/
def k6 : Class := { plain "com/example/passeren/passeren/sync/StepScheduler$Operation" (some 5) with
  accessFlags := 16433
  interfaces := #[]
  cf := some (fileOf pool6 3 #[.nestHost 1] #[{ accessFlags := 1, nameIndex := 203, descriptorIndex := 204, attributes := #[] }] 16433 82 #[] #[{ accessFlags := 16409, nameIndex := 7, descriptorIndex := 8, attributes := #[] }, { accessFlags := 16409, nameIndex := 11, descriptorIndex := 8, attributes := #[] }, { accessFlags := 16409, nameIndex := 14, descriptorIndex := 8, attributes := #[] }, { accessFlags := 16409, nameIndex := 17, descriptorIndex := 8, attributes := #[] }, { accessFlags := 16409, nameIndex := 20, descriptorIndex := 8, attributes := #[] }, { accessFlags := 16409, nameIndex := 23, descriptorIndex := 8, attributes := #[] }, { accessFlags := 16409, nameIndex := 26, descriptorIndex := 8, attributes := #[] }, { accessFlags := 16409, nameIndex := 29, descriptorIndex := 8, attributes := #[] }, { accessFlags := 16409, nameIndex := 32, descriptorIndex := 8, attributes := #[] }, { accessFlags := 16409, nameIndex := 35, descriptorIndex := 8, attributes := #[] }, { accessFlags := 16409, nameIndex := 38, descriptorIndex := 8, attributes := #[] }, { accessFlags := 16409, nameIndex := 41, descriptorIndex := 8, attributes := #[] }, { accessFlags := 16409, nameIndex := 44, descriptorIndex := 8, attributes := #[] }, { accessFlags := 16409, nameIndex := 47, descriptorIndex := 8, attributes := #[] }, { accessFlags := 16409, nameIndex := 50, descriptorIndex := 8, attributes := #[] }, { accessFlags := 16409, nameIndex := 53, descriptorIndex := 8, attributes := #[] }, { accessFlags := 16409, nameIndex := 56, descriptorIndex := 8, attributes := #[] }, { accessFlags := 16409, nameIndex := 59, descriptorIndex := 8, attributes := #[] }, { accessFlags := 16409, nameIndex := 62, descriptorIndex := 8, attributes := #[] }, { accessFlags := 16409, nameIndex := 65, descriptorIndex := 8, attributes := #[] }, { accessFlags := 16409, nameIndex := 68, descriptorIndex := 8, attributes := #[] }, { accessFlags := 16409, nameIndex := 71, descriptorIndex := 8, attributes := #[] }, { accessFlags := 18, nameIndex := 93, descriptorIndex := 94, attributes := #[] }, { accessFlags := 18, nameIndex := 97, descriptorIndex := 98, attributes := #[] }, { accessFlags := 18, nameIndex := 101, descriptorIndex := 102, attributes := #[] }, { accessFlags := 18, nameIndex := 105, descriptorIndex := 102, attributes := #[] }, { accessFlags := 4122, nameIndex := 74, descriptorIndex := 75, attributes := #[] }])
  fields := #[{ name := "READ", type := (.object "com/example/passeren/passeren/sync/StepScheduler$Operation"), accessFlags := 16409, slot := 0, constantValue := 0 }, { name := "WRITE", type := (.object "com/example/passeren/passeren/sync/StepScheduler$Operation"), accessFlags := 16409, slot := 1, constantValue := 0 }, { name := "TEST_AND_SET", type := (.object "com/example/passeren/passeren/sync/StepScheduler$Operation"), accessFlags := 16409, slot := 2, constantValue := 0 }, { name := "ACQUIRE", type := (.object "com/example/passeren/passeren/sync/StepScheduler$Operation"), accessFlags := 16409, slot := 3, constantValue := 0 }, { name := "TRY_ACQUIRE", type := (.object "com/example/passeren/passeren/sync/StepScheduler$Operation"), accessFlags := 16409, slot := 4, constantValue := 0 }, { name := "AWAIT", type := (.object "com/example/passeren/passeren/sync/StepScheduler$Operation"), accessFlags := 16409, slot := 5, constantValue := 0 }, { name := "RELEASE", type := (.object "com/example/passeren/passeren/sync/StepScheduler$Operation"), accessFlags := 16409, slot := 6, constantValue := 0 }, { name := "DRAIN_PERMITS", type := (.object "com/example/passeren/passeren/sync/StepScheduler$Operation"), accessFlags := 16409, slot := 7, constantValue := 0 }, { name := "AVAILABLE_PERMITS", type := (.object "com/example/passeren/passeren/sync/StepScheduler$Operation"), accessFlags := 16409, slot := 8, constantValue := 0 }, { name := "HAS_QUEUED_THREADS", type := (.object "com/example/passeren/passeren/sync/StepScheduler$Operation"), accessFlags := 16409, slot := 9, constantValue := 0 }, { name := "GET_QUEUE_LENGTH", type := (.object "com/example/passeren/passeren/sync/StepScheduler$Operation"), accessFlags := 16409, slot := 10, constantValue := 0 }, { name := "ENTER", type := (.object "com/example/passeren/passeren/sync/StepScheduler$Operation"), accessFlags := 16409, slot := 11, constantValue := 0 }, { name := "EXIT", type := (.object "com/example/passeren/passeren/sync/StepScheduler$Operation"), accessFlags := 16409, slot := 12, constantValue := 0 }, { name := "WAIT", type := (.object "com/example/passeren/passeren/sync/StepScheduler$Operation"), accessFlags := 16409, slot := 13, constantValue := 0 }, { name := "SIGNAL", type := (.object "com/example/passeren/passeren/sync/StepScheduler$Operation"), accessFlags := 16409, slot := 14, constantValue := 0 }, { name := "SIGNAL_ALL", type := (.object "com/example/passeren/passeren/sync/StepScheduler$Operation"), accessFlags := 16409, slot := 15, constantValue := 0 }, { name := "IS_EMPTY", type := (.object "com/example/passeren/passeren/sync/StepScheduler$Operation"), accessFlags := 16409, slot := 16, constantValue := 0 }, { name := "GET_ENTRY_QUEUE_LENGTH", type := (.object "com/example/passeren/passeren/sync/StepScheduler$Operation"), accessFlags := 16409, slot := 17, constantValue := 0 }, { name := "READ_LOCK", type := (.object "com/example/passeren/passeren/sync/StepScheduler$Operation"), accessFlags := 16409, slot := 18, constantValue := 0 }, { name := "READ_UNLOCK", type := (.object "com/example/passeren/passeren/sync/StepScheduler$Operation"), accessFlags := 16409, slot := 19, constantValue := 0 }, { name := "WRITE_LOCK", type := (.object "com/example/passeren/passeren/sync/StepScheduler$Operation"), accessFlags := 16409, slot := 20, constantValue := 0 }, { name := "WRITE_UNLOCK", type := (.object "com/example/passeren/passeren/sync/StepScheduler$Operation"), accessFlags := 16409, slot := 21, constantValue := 0 }, { name := "word", type := (.object "java/lang/String"), accessFlags := 18, slot := 3, constantValue := 0 }, { name := "line", type := (.object "com/example/passeren/passeren/sync/StepScheduler$Operation$Line"), accessFlags := 18, slot := 4, constantValue := 0 }, { name := "grants", type := .boolean, accessFlags := 18, slot := 5, constantValue := 0 }, { name := "mayLeave", type := .boolean, accessFlags := 18, slot := 6, constantValue := 0 }, { name := "$VALUES", type := (.array (.object "com/example/passeren/passeren/sync/StepScheduler$Operation")), accessFlags := 4122, slot := 22, constantValue := 0 }]
  methods := #[k6m0]
  instanceTypes := #[(.object "java/lang/String"), .int, .int, (.object "java/lang/String"), (.object "com/example/passeren/passeren/sync/StepScheduler$Operation$Line"), .boolean, .boolean]
  staticTypes := #[(.object "com/example/passeren/passeren/sync/StepScheduler$Operation"), (.object "com/example/passeren/passeren/sync/StepScheduler$Operation"), (.object "com/example/passeren/passeren/sync/StepScheduler$Operation"), (.object "com/example/passeren/passeren/sync/StepScheduler$Operation"), (.object "com/example/passeren/passeren/sync/StepScheduler$Operation"), (.object "com/example/passeren/passeren/sync/StepScheduler$Operation"), (.object "com/example/passeren/passeren/sync/StepScheduler$Operation"), (.object "com/example/passeren/passeren/sync/StepScheduler$Operation"), (.object "com/example/passeren/passeren/sync/StepScheduler$Operation"), (.object "com/example/passeren/passeren/sync/StepScheduler$Operation"), (.object "com/example/passeren/passeren/sync/StepScheduler$Operation"), (.object "com/example/passeren/passeren/sync/StepScheduler$Operation"), (.object "com/example/passeren/passeren/sync/StepScheduler$Operation"), (.object "com/example/passeren/passeren/sync/StepScheduler$Operation"), (.object "com/example/passeren/passeren/sync/StepScheduler$Operation"), (.object "com/example/passeren/passeren/sync/StepScheduler$Operation"), (.object "com/example/passeren/passeren/sync/StepScheduler$Operation"), (.object "com/example/passeren/passeren/sync/StepScheduler$Operation"), (.object "com/example/passeren/passeren/sync/StepScheduler$Operation"), (.object "com/example/passeren/passeren/sync/StepScheduler$Operation"), (.object "com/example/passeren/passeren/sync/StepScheduler$Operation"), (.object "com/example/passeren/passeren/sync/StepScheduler$Operation"), (.array (.object "com/example/passeren/passeren/sync/StepScheduler$Operation"))]
  resolved := Array.replicate 215 none
  statics := some 0 }

def pool7 : Array CpInfo := pool [(1, u "java/lang/Cloneable"), (0, .class_ 1), (0, u "java/lang/Object"), (0, .class_ 3)] 3

/-- java/lang/Cloneable -/
def k7 : Class := { plain "java/lang/Cloneable" (some 0) with
  accessFlags := 1537
  interfaces := #[]
  cf := some (fileOf pool7 2 #[] #[] 1537 4 #[] #[])
  fields := #[]
  methods := #[]
  instanceTypes := #[]
  staticTypes := #[]
  resolved := Array.replicate 8 none
  statics := none }

/-- the primitive byte -/
def k8 : Class := { plain "byte" none with kind := .primitive 'B', accessFlags := 0x411 }
/-- [B -/
def k9 : Class := { plain "[B" (some 0) with kind := .array 8 .byte, interfaces := #[7, 4], accessFlags := 1041 }

/-- the primitive int -/
def k10 : Class := { plain "int" none with kind := .primitive 'I', accessFlags := 0x411 }
/-- [I -/
def k11 : Class := { plain "[I" (some 0) with kind := .array 10 .int, interfaces := #[7, 4], accessFlags := 1041 }

/-- [Lcom/example/passeren/passeren/sync/StepScheduler$Operation; -/
def k12 : Class := { plain "[Lcom/example/passeren/passeren/sync/StepScheduler$Operation;" (some 0) with kind := .array 6 (.object "com/example/passeren/passeren/sync/StepScheduler$Operation"), interfaces := #[7, 4], accessFlags := 1041 }

def heap : Heap := #[{ cls := 6, slots := #[.ref 1, .ref 2, .ref 3, .ref 4, .ref 5, .ref 6, .ref 7, .ref 8, .ref 9, .ref 10, .ref 11, .ref 12, .ref 13, .ref 14, .ref 15, .ref 16, .ref 17, .ref 18, .ref 19, .ref 20, .ref 21, .ref 22, .null], vm := .statics 6 },
  { cls := 6, slots := #[.null, .int 0, .int 0, .null, .null, .int 0, .int 0], vm := .none },
  { cls := 6, slots := #[.null, .int 0, .int 0, .null, .null, .int 0, .int 0], vm := .none },
  { cls := 6, slots := #[.null, .int 0, .int 0, .null, .null, .int 0, .int 0], vm := .none },
  { cls := 6, slots := #[.null, .int 0, .int 0, .null, .null, .int 0, .int 0], vm := .none },
  { cls := 6, slots := #[.null, .int 0, .int 0, .null, .null, .int 0, .int 0], vm := .none },
  { cls := 6, slots := #[.null, .int 0, .int 0, .null, .null, .int 0, .int 0], vm := .none },
  { cls := 6, slots := #[.null, .int 0, .int 0, .null, .null, .int 0, .int 0], vm := .none },
  { cls := 6, slots := #[.null, .int 0, .int 0, .null, .null, .int 0, .int 0], vm := .none },
  { cls := 6, slots := #[.null, .int 0, .int 0, .null, .null, .int 0, .int 0], vm := .none },
  { cls := 6, slots := #[.null, .int 0, .int 0, .null, .null, .int 0, .int 0], vm := .none },
  { cls := 6, slots := #[.null, .int 0, .int 0, .null, .null, .int 0, .int 0], vm := .none },
  { cls := 6, slots := #[.null, .int 0, .int 0, .null, .null, .int 0, .int 0], vm := .none },
  { cls := 6, slots := #[.null, .int 0, .int 0, .null, .null, .int 0, .int 1], vm := .none },
  { cls := 6, slots := #[.null, .int 0, .int 0, .null, .null, .int 0, .int 1], vm := .none },
  { cls := 6, slots := #[.null, .int 0, .int 0, .null, .null, .int 0, .int 1], vm := .none },
  { cls := 6, slots := #[.null, .int 0, .int 0, .null, .null, .int 0, .int 1], vm := .none },
  { cls := 6, slots := #[.null, .int 0, .int 0, .null, .null, .int 0, .int 0], vm := .none },
  { cls := 6, slots := #[.null, .int 0, .int 0, .null, .null, .int 0, .int 0], vm := .none },
  { cls := 6, slots := #[.null, .int 0, .int 0, .null, .null, .int 0, .int 0], vm := .none },
  { cls := 6, slots := #[.null, .int 0, .int 0, .null, .null, .int 0, .int 1], vm := .none },
  { cls := 6, slots := #[.null, .int 0, .int 0, .null, .null, .int 0, .int 0], vm := .none },
  { cls := 6, slots := #[.null, .int 0, .int 0, .null, .null, .int 0, .int 1], vm := .none }]
def classes : Array Class := #[k0, k1, k2, k3, k4, k5, k6, k7, k8, k9, k10, k11, k12]
def interned : List (Array UInt16 × Addr) := []
def slotsUsed : Nat := 177
def theMethod : MethodId := ⟨1, 1⟩
def args0 : Array Value := #[.int 5, .int 5, .int 5]
def aboutOver (below : List Frame) : State where
  vm := { classes := classes, interned := interned.toArray }
  heap := heap
  slotsUsed := slotsUsed
  threads := #[{ frames := .invoking theMethod args0 :: below }]
def below0 : List Frame := [.native { method := ⟨0, 0⟩, args := #[] }]
def about1 : State := aboutOver below0
def p0 : Program := .bare "" "" ""
def e0 : Env := launch0.env 0 0 0
theorem w_frames : about1.frames = Frame.invoking theMethod args0 :: below0 := rfl
set_option maxRecDepth 65536 in
theorem w_args : argsFit about1.vm theMethod args0 = true := by decide +kernel
set_option maxRecDepth 65536 in
theorem w_heap : heapFits about1 = true := by decide +kernel
set_option maxRecDepth 65536 in
theorem w_runnable : about1.curStatus? = some .runnable := by decide +kernel
set_option maxRecDepth 65536 in
theorem w_alone : about1.alone = true := by decide +kernel
set_option maxRecDepth 65536 in
theorem w_named : about1.methodNamed? x = some theMethod := by decide +kernel
set_option maxRecDepth 65536 in
theorem w_hears : about1.hears theMethod below0 = true := by decide +kernel
set_option maxRecDepth 65536 in
theorem w_ripe : about1.ripe theMethod args0 below0 = true := by decide +kernel
theorem w_running : about1.status = .running := rfl
set_option maxRecDepth 65536 in
theorem w_room : about1.hasRoom e0.platform room_1 = true :=
  launch0.hasRoom_least _ room_1 (by decide +kernel) (by decide +kernel) (by decide +kernel) (by decide +kernel) (by decide +kernel) (by decide +kernel)
theorem allAtoms_all (ts : List Jvm.Cond) (a : Array Jvm.Value) (st : Jvm.State) : (allAtoms ts).before a st = ts.all (fun c => c.before a st) := by
  induction ts with
  | nil => rfl
  | cons c t ih =>
    show (Jvm.Cond.and c (allAtoms t)).before a st = _
    rw [Jvm.Cond.before_and, ih, List.all_cons]
def words1 : List Jvm.Cond := Jvm.Cond.code x code maxLocals ret :: tables_1
/-- a 'code' word, met by the world's own term for the bytes: nothing is compared byte by byte -/
theorem code_word {y : MethodName} {bytes : ByteArray} {mx : Nat} {rt : Option FieldType} {a : Array Value} {s : State} {m : MethodId} {meth : Method} {c : Code} (h1 : s.methodNamed? y = some m) (h2 : s.vm.method? m = some meth) (h3 : meth.code = some c) (h4 : c.code = bytes)
    (h5 : (c.maxLocals == mx && c.exceptionTable.isEmpty && decide (c.maxStack ≤ mostOperands) && decide (meth.sig.returnType = rt) && !meth.locks && decide (parseMethodDescriptor y.desc = some meth.sig)) = true) : (Jvm.Cond.code y bytes mx rt).before a s = true := by
  simp only [Bool.and_eq_true, beq_iff_eq, Bool.not_eq_true', decide_eq_true_eq] at h5
  obtain ⟨⟨⟨⟨⟨g1, g2⟩, g3⟩, g4⟩, g5⟩, g6⟩ := h5
  simp [Cond.before, Cond.holds, Cond.value, h1, h2, h3, h4, g1, g2, g3, g4, g5, g6]
def isCode : Jvm.Cond → Bool
  | .code _ _ _ _ => true
  | _ => false
theorem all_split {L : List Jvm.Cond} {P : Jvm.Cond → Bool} (h1 : L.all (fun c => isCode c || P c) = true) (h2 : ∀ c ∈ L.filter isCode, P c = true) : L.all P = true := by
  refine List.all_eq_true.mpr fun c hc => ?_
  have h := List.all_eq_true.mp h1 c hc
  rcases Bool.eq_false_or_eq_true (isCode c) with hi | hi
  · exact h2 c (List.mem_filter.mpr ⟨hc, hi⟩)
  · simpa [hi] using h
set_option maxRecDepth 65536 in
theorem w_c0 : (Jvm.Cond.code x code maxLocals ret).before args0 about1 = true := code_word (m := ⟨1, 1⟩) (meth := k1m1) (c := k1c1) (by decide +kernel) rfl rfl rfl (by decide +kernel)
set_option maxRecDepth 65536 in
theorem w_c1 : (Jvm.Cond.code ({ cls := "com/example/passeren/passeren/sync/StepScheduler$Operation", name := "leaves", desc := "(I)Z" } : Jvm.MethodName) prog_86_method_7_code (2 : Nat) (Option.some Jvm.ClassFile.FieldType.boolean)).before args0 about1 = true := code_word (m := ⟨6, 0⟩) (meth := k6m0) (c := k6c0) (by decide +kernel) rfl rfl rfl (by decide +kernel)
def codes1 : List Jvm.Cond := [Jvm.Cond.code x code maxLocals ret, Jvm.Cond.code ({ cls := "com/example/passeren/passeren/sync/StepScheduler$Operation", name := "leaves", desc := "(I)Z" } : Jvm.MethodName) prog_86_method_7_code (2 : Nat) (Option.some Jvm.ClassFile.FieldType.boolean)]
set_option maxRecDepth 65536 in
theorem codes_eq : words1.filter isCode = codes1 := rfl
theorem w_codes : ∀ c ∈ words1.filter isCode, c.before args0 about1 = true := by
  rw [codes_eq]
  intro c hc
  simp only [codes1, List.mem_cons, List.not_mem_nil, or_false] at hc
  rcases hc with rfl | rfl
  · exact w_c0
  · exact w_c1
set_option maxRecDepth 65536 in
theorem w_t1 : (words1.take 24).all (fun c => isCode c || c.before args0 about1) = true := by decide +kernel
set_option maxRecDepth 65536 in
theorem w_t2 : ((words1.drop 24).take 24).all (fun c => isCode c || c.before args0 about1) = true := by decide +kernel
set_option maxRecDepth 65536 in
theorem w_t3 : ((words1.drop 24).drop 24).all (fun c => isCode c || c.before args0 about1) = true := by decide +kernel
theorem w_tables : (allAtoms (Jvm.Cond.code x code maxLocals ret :: tables_1)).before args0 about1 = true := by
  rw [allAtoms_all]
  show words1.all (fun c => c.before args0 about1) = true
  refine all_split ?_ w_codes
  rw [← List.take_append_drop 24 words1, List.all_append, w_t1, ← List.take_append_drop 24 (words1.drop 24), List.all_append, w_t2, w_t3]
  rfl
set_option maxRecDepth 65536 in
theorem w_case : (Jvm.Cond.and given_1 narrow_1).before args0 about1 = true := by decide +kernel
theorem w_applies : (headSpec (Jvm.Cond.code x code maxLocals ret :: tables_1) room_1).applies x e0.platform about1 = true :=
  (Spec.applies_iff w_frames).mpr ⟨w_running, w_runnable, w_alone, w_named, w_hears, w_ripe, w_room, w_tables⟩
theorem atStart : AtStart classFile x code maxLocals ret World_1 tables_1 room_1 Calls_1 rest_1 Pre_1 launch0 p0 e0 about1 theMethod args0 below0 :=
  ⟨lists_1, trivial, launch0.admits_env _ _ _, launch0.least_env, fairChoices_fair.cas, fairChoices_fair.clock, w_frames, w_args, w_heap, w_applies, trivial, trivial, w_case⟩
end start1
theorem witness_1 : WitnessClaimed_1 := ⟨start1.p0, start1.e0, start1.about1, start1.theMethod, start1.args0, start1.below0, start1.atStart⟩
end Jvm.Pilot.@@N@@
