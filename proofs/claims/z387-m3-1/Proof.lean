import JvmDerived
import JvmDerived.Pilot.@@N@@Statement
import JvmDerived.Pilot.@@N@@Code
set_option linter.unusedVariables false
set_option linter.unusedSimpArgs false
namespace Jvm.Pilot.@@N@@
open Jvm Jvm.ClassFile Sem Op Lib Jvm.Free Jvm.Stand Jvm.LawKit Jvm.RoadKit Bundle Jvm.Pilot.@@N@@.Jvm.D
section OwnKit
variable {p : Program} {l : Launch} {e : Env} {R : Room} {s : State} {m : MethodId} {args : Array Value} {below : List Frame} {meth : Method} {c : Code} {T : State} {locs : List Loc} {cells slots : Nat} {Z : State} {a0 : Array Value} {h h' h0 : Heap} {a b : Addr} {sl : Nat} {v w : Value} {C n d : String}
theorem own_retZ (X : Stand p l e R s m args below meth c T locs cells slots) (hx : p.tables.exec = Jvm.exec) {pc : Nat} {Ls : Array Slot} {z : Int32} {rest : List Value} (hz : nar .boolean z = z) (hret : meth.sig.returnType = some .boolean) (hd : decode c.code pc = .ok (.ireturn, 1)) {fs : List Frame}
    (hl : ∀ (f : JFrame) (acts : List Action), f.method = m → f.locked = none → f.entered = [] → (doReturn e (T.setTop f) acts (some (.int z))).1 = T.setFrames fs) : Steps p.tables e below (T.setTop (mkF m pc Ls (.int z :: rest))) (T.setFrames fs) :=
  retN X hx hret (Or.inl rfl) hd (by rw [hz]; exact hl)
theorem own_retI (X : Stand p l e R s m args below meth c T locs cells slots) (hx : p.tables.exec = Jvm.exec) {pc : Nat} {Ls : Array Slot} {z : Int32} {rest : List Value} (hret : meth.sig.returnType = some .int) (hd : decode c.code pc = .ok (.ireturn, 1)) {fs : List Frame}
    (hl : ∀ (f : JFrame) (acts : List Action), f.method = m → f.locked = none → f.entered = [] → (doReturn e (T.setTop f) acts (some (.int z))).1 = T.setFrames fs) : Steps p.tables e below (T.setTop (mkF m pc Ls (.int z :: rest))) (T.setFrames fs) :=
  retOut X hx hret rfl (Or.inl ⟨rfl, Or.inl rfl, z, rfl⟩) hd hl
theorem own_retJ (X : Stand p l e R s m args below meth c T locs cells slots) (hx : p.tables.exec = Jvm.exec) {pc : Nat} {Ls : Array Slot} {z : Int64} {rest : List Value} (hret : meth.sig.returnType = some .long) (hd : decode c.code pc = .ok (.lreturn, 1)) {fs : List Frame}
    (hl : ∀ (f : JFrame) (acts : List Action), f.method = m → f.locked = none → f.entered = [] → (doReturn e (T.setTop f) acts (some (.long z))).1 = T.setFrames fs) : Steps p.tables e below (T.setTop (mkF m pc Ls (.long z :: rest))) (T.setFrames fs) :=
  retOut X hx hret rfl (Or.inr (Or.inl ⟨rfl, rfl, z, rfl⟩)) hd hl
theorem own_narR {t : FieldType} (ht : t.isReference = true) (hw : w.isRef = true) : narrow t w = w := by
  cases t <;> first | (cases ht; done) | (cases w <;> first | rfl | (cases hw; done))
theorem own_retA (X : Stand p l e R s m args below meth c T locs cells slots) (hx : p.tables.exec = Jvm.exec) {pc : Nat} {Ls : Array Slot} {t : FieldType} {rest : List Value} (ht : t.isReference = true) (hw : w.isRef = true) (hret : meth.sig.returnType = some t) (hd : decode c.code pc = .ok (.areturn, 1)) {fs : List Frame}
    (hl : ∀ (f : JFrame) (acts : List Action), f.method = m → f.locked = none → f.entered = [] → (doReturn e (T.setTop f) acts (some w)).1 = T.setFrames fs) : Steps p.tables e below (T.setTop (mkF m pc Ls (w :: rest))) (T.setFrames fs) :=
  retOut X hx hret (own_narR ht hw) (Or.inr (Or.inr (Or.inr (Or.inr ⟨rfl, ht, hw⟩)))) hd hl
theorem own_join (X : Stand p l e R s m args below meth c T locs cells slots) {h : Heap} {g g' : JFrame} (K : ∃ T', Stand p l e R s m args below meth c T' locs cells slots ∧ T'.heap = h ∧ ∀ target, Steps p.tables e below (T'.setTop g') target → Steps p.tables e below (T.setTop g) target) :
    ∃ T', Stand p l e R s m args below meth c T' locs cells slots ∧ T'.heap = h ∧ ∀ target, Steps p.tables e below (T'.setTop g') target → Steps p.tables e below (T.setTop g) target := K
theorem own_ext_refl (h : Heap) : Ext h h := ⟨Nat.le_refl _, fun _ _ q => q⟩
theorem own_ext_tr (E : Ext h0 h) (E' : Ext h h') : Ext h0 h' := ⟨Nat.le_trans E.1 E'.1, fun x y q => E'.2 x y (E.2 x y q)⟩
theorem own_ext_wr (E : Ext h0 h) (W : Wr h h' a sl v) (g : h0.size ≤ a) : Ext h0 h' := ⟨by rw [W.size]; exact E.1, fun x y q => by
  obtain ⟨cb', h1, -, -, -, h5, -⟩ := wr_at W (E.2 x y q)
  rw [h1, h5 (fun r => by subst r; exact absurd (Array.getElem?_eq_some_iff.mp q).1 (Nat.not_lt.mpr g))]⟩
theorem own_fld_inj (F : Fld Z h a C n d v) (G : Fld Z h a C n d w) : v = w := by
  obtain ⟨cell, cf, k, i, f, h1, h2, h3, h4, h5, h6, h7⟩ := F
  obtain ⟨cell', cf', k', i', f', g1, g2, g3, g4, g5, g6, g7⟩ := G
  cases h1.symm.trans g1
  cases h2.symm.trans g2
  exact Option.some.inj (h7.symm.trans g7)
theorem own_fld_ne (F : Fld Z h a C n d v) (G : Fld Z h b C n d w) (q : v ≠ w) : a ≠ b := fun r => by subst r; exact q (own_fld_inj F G)
theorem own_ref_ne (q : a ≠ b) : ¬ Value.ref a = Value.ref b := fun r => q (Value.ref.inj r)
theorem own_ref_eq (q : a = b) : Value.ref a = Value.ref b := congrArg Value.ref q
/-- the array at a, of class k, holds just xs -/
def OwnLst (Z : State) (h : Heap) (a : Addr) (ty : FieldType) (k : ClassId) (xs : List Value) : Prop := ∃ cl : Cell, Arr Z h a cl ty ∧ cl.cls = k ∧ cl.slots.toList = xs
theorem OwnLst.ext {ty : FieldType} {k : ClassId} {xs : List Value} (F : OwnLst Z h a ty k xs) (E : Ext h h') : OwnLst Z h' a ty k xs := by obtain ⟨cl, A, q, G⟩ := F; exact ⟨cl, A.ext E, q, G⟩
theorem OwnLst.other {ty : FieldType} {k : ClassId} {xs : List Value} (F : OwnLst Z h b ty k xs) (W : Wr h h' a sl v) (q : b ≠ a) : OwnLst Z h' b ty k xs := by obtain ⟨cl, A, q1, G⟩ := F; exact ⟨cl, A.other W q, q1, G⟩
theorem OwnLst.keep {ty : FieldType} {k : ClassId} {xs : List Value} {ws : List Addr} (F : OwnLst Z h a ty k xs) (K : Keep h h' ws) (q : a ∉ ws) : OwnLst Z h' a ty k xs := by obtain ⟨cl, A, q1, G⟩ := F; exact ⟨cl, ⟨K.2.1 _ _ A.1 q, A.2⟩, q1, G⟩
theorem own_lst_set {ty : FieldType} {k : ClassId} {xs : List Value} {cl : Cell} (A : Arr Z h a cl ty) (q : cl.cls = k) (G : cl.slots.toList = xs) (W : Wr h h' a sl v) : OwnLst Z h' a ty k (xs.set sl v) :=
  ⟨cl.setSlot sl v, A.same W, q, by rw [← G]; simp [Cell.setSlot]⟩
theorem own_lst_new {ty : FieldType} {k : ClassId} {z : Int32} (A : Arr Z h a (newA k ty z) ty) : OwnLst Z h a ty k (List.replicate z.toNatClampNeg (defaultValue ty)) := ⟨_, A, rfl, by simp [newA]⟩
theorem own_inb {xs : List Value} {cl : Cell} {j : Int32} (G : cl.slots.toList = xs) (k : Nat) (hk : xs.length = k) (q : ¬ (j < 0 ∨ k ≤ j.toNatClampNeg)) : ¬ (j < 0 ∨ cl.slots.size ≤ j.toNatClampNeg) := by
  have r : cl.slots.size = k := by rw [← hk, ← G]; simp
  rw [r]; exact q
theorem own_get {xs : List Value} {cl : Cell} {i : Nat} (G : cl.slots.toList = xs) (q : xs[i]? = some v) : cl.slots[i]? = some v := by rw [← Array.getElem?_toList, G]; exact q
theorem own_len {xs : List Value} {cl : Cell} {z : Int32} (G : cl.slots.toList = xs) (q : xs.length.toInt32 = z) : cl.slots.size.toInt32 = z := by rw [← q, ← G]; simp
theorem own_fI {t : Term} {k : Int32} (ht : t.eval args s none [] s = some (.ref a)) (q : (Jvm.Cond.eq (Term.field t C n d) (Term.int k)).value args s none s [] = some true) : Fld s s.heap a C n d (.int k) := by
  obtain ⟨x, y, e1, e2, -, e4⟩ := cmp_v (Or.inl q)
  cases (Term.int_eval k).symm.trans e2
  obtain ⟨z, rfl⟩ := e4
  have r := gotT (Cond.eq_ints e1 (Term.int_eval k)) q
  subst r
  rw [fld_at ht] at e1
  exact Fld.start e1
theorem own_fR {t u : Term} (hu : u.eval args s none [] s = some (.ref b)) (ht : t.eval args s none [] s = some (.ref a)) (q : (Jvm.Cond.eq (Term.field t C n d) u).value args s none s [] = some true) : Fld s s.heap a C n d (.ref b) := by
  obtain ⟨x, y, e1, e2, -, e4⟩ := cmp_v (Or.inl q)
  cases hu.symm.trans e2
  have r := gotT (eq_R e1 hu e4.2 rfl) q
  subst r
  rw [fld_at ht] at e1
  exact Fld.start e1
theorem own_fN {t : Term} (ht : t.eval args s none [] s = some (.ref a)) (q : (Jvm.Cond.eq (Term.field t C n d) Term.null).value args s none s [] = some true) : Fld s s.heap a C n d .null := by
  have e1 := null_v q
  rw [fld_at ht] at e1
  exact Fld.start e1
theorem own_arg1 {args : Array Value} (h1 : (Jvm.Cond.count 1).value args s none s [] = some true) : ∃ w0 : Value, args = #[w0] := by
  have hs : args.size = 1 := by simpa [Cond.value] using h1
  obtain ⟨L⟩ := args
  match L, hs with
  | [w0], _ => exact ⟨w0, rfl⟩
theorem own_arg2 {args : Array Value} (h1 : (Jvm.Cond.count 2).value args s none s [] = some true) : ∃ w0 w1 : Value, args = #[w0, w1] := by
  have hs : args.size = 2 := by simpa [Cond.value] using h1
  obtain ⟨L⟩ := args
  match L, hs with
  | [w0, w1], _ => exact ⟨w0, w1, rfl⟩
theorem own_arg3 {args : Array Value} (h1 : (Jvm.Cond.count 3).value args s none s [] = some true) : ∃ w0 w1 w2 : Value, args = #[w0, w1, w2] := by
  have hs : args.size = 3 := by simpa [Cond.value] using h1
  obtain ⟨L⟩ := args
  match L, hs with
  | [w0, w1, w2], _ => exact ⟨w0, w1, w2, rfl⟩
theorem own_narB (q : Prop) [Decidable q] : nar .boolean (if q then (1 : Int32) else (0 : Int32)) = if q then (1 : Int32) else (0 : Int32) := by split <;> rfl
theorem own_mod (x k : Int32) (z : Int) (hk : k.toInt = z) (hz : 0 < z) : 0 ≤ ((x &&& (2147483647 : Int32)) % k).toInt ∧ ((x &&& (2147483647 : Int32)) % k).toInt < z := by
  have h1 := c_and x (2147483647 : Int32) (by decide)
  rw [(c_irem (x &&& (2147483647 : Int32)) k z hk).1 h1.1]
  exact ⟨Int.emod_nonneg _ (by omega), Int.emod_lt_of_pos _ hz⟩
theorem own_and3 (x : Int32) : (x &&& (3 : Int32)) = 0 ∨ (x &&& (3 : Int32)) = 1 ∨ (x &&& (3 : Int32)) = 2 ∨ (x &&& (3 : Int32)) = 3 := by
  have h1 := c_and x (3 : Int32) (by decide)
  have e3 : (3 : Int32).toInt = 3 := by decide
  rw [e3] at h1
  have e : (x &&& (3 : Int32)).toInt = 0 ∨ (x &&& (3 : Int32)).toInt = 1 ∨ (x &&& (3 : Int32)).toInt = 2 ∨ (x &&& (3 : Int32)).toInt = 3 := by omega
  rcases e with e | e | e | e
  · exact Or.inl (Int32.toInt_inj.mp e)
  · exact Or.inr (Or.inl (Int32.toInt_inj.mp e))
  · exact Or.inr (Or.inr (Or.inl (Int32.toInt_inj.mp e)))
  · exact Or.inr (Or.inr (Or.inr (Int32.toInt_inj.mp e)))
end OwnKit
section OwnKit2
variable {args : Array Value} {s : State} {a b : Addr} {cl : Cell}
theorem own_slen {t : Term} {z : Int32} (hz : ¬ z < 0) (q : (Jvm.Cond.eq (Term.length t) (Term.int z)).value args s none s [] = some true) (ht : t.eval args s none [] s = some (.ref a)) (hc : s.heap[a]? = some cl) : cl.slots.size = z.toNatClampNeg := by
  obtain ⟨x, y, e1, e2, -, e4⟩ := cmp_v (Or.inl q)
  cases (Term.int_eval z).symm.trans e2
  obtain ⟨k, rfl⟩ := e4
  have r := gotT (Cond.eq_ints e1 (Term.int_eval z)) q
  subst r
  obtain ⟨a', c', g1, g2, g3⟩ := Term.length_spec e1
  have g6 := SBG.length_lt g1 g2 e1
  cases ht.symm.trans g1
  have g5 : c' = cl := Option.some.inj ((State.arrayAt?_spec g2).1.symm.trans hc)
  subst g5
  have h3 : c'.slots.size.toInt32 = k := (Value.int.inj g3).symm
  have h1 := back32 hz
  have h4 : c'.slots.size.toInt32.toInt = (c'.slots.size : Int) := len_toInt g6
  have h5 : k.toNatClampNeg.toInt32.toInt = (k.toNatClampNeg : Int) := len_toInt h1.2
  rw [h1.1] at h5
  rw [h3] at h4
  omega
theorem own_selem {t u : Term} {j : Int32} (hu : u.eval args s none [] s = some (.ref b)) (ht : t.eval args s none [] s = some (.ref a)) (hc : s.heap[a]? = some cl) (q : (Jvm.Cond.eq (Term.elem t (Term.int j)) u).value args s none s [] = some true) : cl.slots[j.toNatClampNeg]? = some (.ref b) := by
  obtain ⟨x, y, e1, e2, -, e4⟩ := cmp_v (Or.inl q)
  cases hu.symm.trans e2
  have r := gotT (eq_R e1 hu e4.2 rfl) q
  subst r
  exact (elem_in e1 ht (Term.int_eval j) hc).2
theorem own_list6 {A : Array Value} (hs : A.size = 6) {v0 v1 v2 v3 v4 v5 : Value} (h0 : A[0]? = some v0) (h1 : A[1]? = some v1) (h2 : A[2]? = some v2) (h3 : A[3]? = some v3) (h4 : A[4]? = some v4) (h5 : A[5]? = some v5) : A.toList = [v0, v1, v2, v3, v4, v5] := by
  obtain ⟨l⟩ := A
  match l, hs with
  | [a, b, c, d, e, f], _ =>
    simp at h0 h1 h2 h3 h4 h5
    simp [h0, h1, h2, h3, h4, h5]
theorem own_list4 {A : Array Value} (hs : A.size = 4) {v0 v1 v2 v3 : Value} (h0 : A[0]? = some v0) (h1 : A[1]? = some v1) (h2 : A[2]? = some v2) (h3 : A[3]? = some v3) : A.toList = [v0, v1, v2, v3] := by
  obtain ⟨l⟩ := A
  match l, hs with
  | [a, b, c, d], _ =>
    simp at h0 h1 h2 h3
    simp [h0, h1, h2, h3]
end OwnKit2
section OwnKit3
variable {Z : State} {h h' h0 : Heap} {a b : Addr} {v : Value} {ty : FieldType} {k : ClassId} {xs : List Value} {n0 : Nat} {ws : List Addr} {sl : Nat}
theorem OwnLst.lt (F : OwnLst Z h a ty k xs) : a < h.size := by obtain ⟨cl, A, -⟩ := F; exact A.lt
theorem own_old_ext (O : Old Z n0 h) (E : Ext h h') : Old Z n0 h' := ⟨O.1, own_ext_tr O.2 E⟩
theorem own_ne_lt (q : a < h.size) (g : b = h.size) : a ≠ b := fun r => by rw [r, g] at q; exact Nat.lt_irrefl _ q
theorem own_ne_le (q : a < h.size) (g : h.size ≤ b) : a ≠ b := fun r => by rw [r] at q; exact Nat.lt_irrefl _ (Nat.lt_of_lt_of_le q g)
theorem own_lst_eq {xs' : List Value} (F : OwnLst Z h a ty k xs) (q : xs = xs') : OwnLst Z h a ty k xs' := q ▸ F
end OwnKit3
theorem own_d_prog_38_method_5_0 : decode prog_38_method_5_code 0 = .ok (.iload_n 1, 1) := by decide +kernel
theorem own_d_prog_38_method_5_1 : decode prog_38_method_5_code 1 = .ok (.aload_n 0, 1) := by decide +kernel
theorem own_d_prog_38_method_5_2 : decode prog_38_method_5_code 2 = .ok (.getfield 39, 3) := by decide +kernel
theorem own_d_prog_38_method_5_5 : decode prog_38_method_5_code 5 = .ok (.ior, 1) := by decide +kernel
theorem own_d_prog_38_method_5_6 : decode prog_38_method_5_code 6 = .ok (.aload_n 0, 1) := by decide +kernel
theorem own_d_prog_38_method_5_7 : decode prog_38_method_5_code 7 = .ok (.getfield 43, 3) := by decide +kernel
theorem own_d_prog_38_method_5_10 : decode prog_38_method_5_code 10 = .ok (.iconst (-1), 1) := by decide +kernel
theorem own_d_prog_38_method_5_11 : decode prog_38_method_5_code 11 = .ok (.ixor, 1) := by decide +kernel
theorem own_d_prog_38_method_5_12 : decode prog_38_method_5_code 12 = .ok (.iand, 1) := by decide +kernel
theorem own_d_prog_38_method_5_13 : decode prog_38_method_5_code 13 = .ok (.ireturn, 1) := by decide +kernel
theorem own_pn0 : plainName "com/example/gestor/gestor/model/DocumentLaunchMode" = true := by first | (simp [plainName, overriddenIn]; done) | decide +kernel
theorem own_pn1 : plainName "com/example/gestor/gestor/model/DocumentLaunchModePlacementFlagsPinLaw" = true := by first | (simp [plainName, overriddenIn]; done) | decide +kernel
theorem own_pd0 : parseMethodDescriptor "(I)I" = some ⟨[.int], some .int⟩ := by decide +kernel
theorem own_bits_keep (x a b o : Int32) (h1 : a &&& o = 0) (h2 : b &&& o = 0) : ((x ||| a) &&& (b ^^^ (-1 : Int32))) &&& o = x &&& o := by
  apply Int32.toBitVec_inj.mp
  have g1 := congrArg Int32.toBitVec h1
  have g2 := congrArg Int32.toBitVec h2
  have e1 : (-1 : Int32).toBitVec = BitVec.allOnes 32 := by decide
  have e0 : (0 : Int32).toBitVec = 0#32 := by decide
  simp only [Int32.toBitVec_and, Int32.toBitVec_or, Int32.toBitVec_xor, e1, e0] at g1 g2 ⊢
  generalize x.toBitVec = X at *
  generalize a.toBitVec = A at *
  generalize b.toBitVec = B at *
  generalize o.toBitVec = O at *
  apply BitVec.eq_of_getLsbD_eq
  intro i hi
  have k1 := congrArg (fun z => BitVec.getLsbD z i) g1
  have k2 := congrArg (fun z => BitVec.getLsbD z i) g2
  simp only [BitVec.getLsbD_and, BitVec.getLsbD_or, BitVec.getLsbD_xor, BitVec.getLsbD_allOnes, BitVec.getLsbD_zero, hi, decide_true] at k1 k2 ⊢
  revert k1 k2
  cases X.getLsbD i <;> cases A.getLsbD i <;> cases B.getLsbD i <;> cases O.getLsbD i <;> decide
theorem own_bits_set (x a b o : Int32) (h1 : a &&& o = o) (h2 : b &&& o = 0) : ((x ||| a) &&& (b ^^^ (-1 : Int32))) &&& o = o := by
  apply Int32.toBitVec_inj.mp
  have g1 := congrArg Int32.toBitVec h1
  have g2 := congrArg Int32.toBitVec h2
  have e1 : (-1 : Int32).toBitVec = BitVec.allOnes 32 := by decide
  have e0 : (0 : Int32).toBitVec = 0#32 := by decide
  simp only [Int32.toBitVec_and, Int32.toBitVec_or, Int32.toBitVec_xor, e1, e0] at g1 g2 ⊢
  generalize x.toBitVec = X at *
  generalize a.toBitVec = A at *
  generalize b.toBitVec = B at *
  generalize o.toBitVec = O at *
  apply BitVec.eq_of_getLsbD_eq
  intro i hi
  have k1 := congrArg (fun z => BitVec.getLsbD z i) g1
  have k2 := congrArg (fun z => BitVec.getLsbD z i) g2
  simp only [BitVec.getLsbD_and, BitVec.getLsbD_or, BitVec.getLsbD_xor, BitVec.getLsbD_allOnes, BitVec.getLsbD_zero, hi, decide_true] at k1 k2 ⊢
  revert k1 k2
  cases X.getLsbD i <;> cases A.getLsbD i <;> cases B.getLsbD i <;> cases O.getLsbD i <;> decide
theorem own_bits_clear (x a b o : Int32) (h1 : a &&& a = a) (h2 : b &&& o = o) : ((x ||| a) &&& (b ^^^ (-1 : Int32))) &&& o = 0 := by
  apply Int32.toBitVec_inj.mp
  have g1 := congrArg Int32.toBitVec h1
  have g2 := congrArg Int32.toBitVec h2
  have e1 : (-1 : Int32).toBitVec = BitVec.allOnes 32 := by decide
  have e0 : (0 : Int32).toBitVec = 0#32 := by decide
  simp only [Int32.toBitVec_and, Int32.toBitVec_or, Int32.toBitVec_xor, e1, e0] at g1 g2 ⊢
  generalize x.toBitVec = X at *
  generalize a.toBitVec = A at *
  generalize b.toBitVec = B at *
  generalize o.toBitVec = O at *
  apply BitVec.eq_of_getLsbD_eq
  intro i hi
  have k1 := congrArg (fun z => BitVec.getLsbD z i) g1
  have k2 := congrArg (fun z => BitVec.getLsbD z i) g2
  simp only [BitVec.getLsbD_and, BitVec.getLsbD_or, BitVec.getLsbD_xor, BitVec.getLsbD_allOnes, BitVec.getLsbD_zero, hi, decide_true] at k1 k2 ⊢
  revert k1 k2
  cases X.getLsbD i <;> cases A.getLsbD i <;> cases B.getLsbD i <;> cases O.getLsbD i <;> decide
theorem rm_pf_ef (m : MethodId) (x0 : Addr) (x1 : Int32) : entryFrame m #[(.ref x0), (.int x1)] 2 = mkF m 0 #[.val (.ref x0), .val (.int x1)] [] := by first | (simp [entryFrame, mkF, argsToLocals, Value.category]; done) | rfl
def rm_pf_Q (Z : State) (a : Addr) (pv : Int32) (ad : Int32) (rem : Int32) (h0 : Heap) (n0 : Nat) (v : Option Value) (h : Heap) (L : List Loc) : Prop := v = some (.int ((pv ||| ad) &&& (rem ^^^ (-1 : Int32)))) ∧ Fr n0 L ∧ h = h0
set_option maxRecDepth 65536 in
set_option maxHeartbeats 40000000 in
theorem rm_pf (l : Launch) (Z : State) (a0 : Array Value) (hw : ∀ d ∈ tables_1, d.before a0 Z = true) (ws : List Jvm.Cond) (a : Addr) (pv : Int32) (ad : Int32) (rem : Int32) (h0 : Heap) (n0 : Nat) (Z0 : n0 ≤ h0.size) (Fa : Fld Z h0 a "com/example/gestor/gestor/model/DocumentLaunchMode" "added" "I" (.int ad)) (Fr_ : Fld Z h0 a "com/example/gestor/gestor/model/DocumentLaunchMode" "removed" "I" (.int rem)) :
    MetFree l (⟨"com/example/gestor/gestor/model/DocumentLaunchMode", "placementFlags", "(I)I"⟩ : MethodName) (head1 (Jvm.Cond.code (⟨"com/example/gestor/gestor/model/DocumentLaunchMode", "placementFlags", "(I)I"⟩ : MethodName) prog_38_method_5_code 2 (some .int) :: ws) ({ frames := 0, cells := 0, slots := 0, locals := 0 } : Room)) (fun a₀ U₀ => a₀ = #[(.ref a), (.int pv)] ∧ Z.Warmed39 U₀.vm ∧ U₀.heap = h0) (fun _ _ _ _ _ => True) (fun _ U₀ o₀ U₁ => ∃ v₀ L₀, o₀ = .returned v₀ ∧ rm_pf_Q Z a pv ad rem h0 n0 v₀ U₁.heap L₀ ∧ FrameEnd U₀ o₀ U₁ L₀ ({ frames := 0, cells := 0, slots := 0, locals := 0 } : Room).cells ({ frames := 0, cells := 0, slots := 0, locals := 0 } : Room).slots) := by
  refine MetFree.of_bodySF (plainFor_of_name own_pn0) hisR ?_
  intro p e s m args below meth c s₁ Bd hml0 hP hK
  obtain ⟨rfl, hZ, hh⟩ := hP
  have hx := Bd.exec
  have hby := Bd.bytes
  have hml : c.maxLocals = 2 := hml0
  have hown : s.vm.findClass "com/example/gestor/gestor/model/DocumentLaunchMode" = some m.cls := findClass_of_methodNamed Bd.named
  have hnm := (name_of_methodNamed Bd.named Bd.method).1
  have X0 : Stand p l e ({ frames := 0, cells := 0, slots := 0, locals := 0 } : Room) s m #[(.ref a), (.int pv)] below meth c s₁ [] 0 0 := Stand.of_body Bd
  have e0 : s₁.heap = h0 := by rw [← hh, Bd.state]; rfl
  have N0 := Fr.nil n0
  have pre0 : ∀ t, Steps p.tables e below (s₁.setTop (mkF m 0 #[.val (.ref a), .val (.int pv)] [])) t → Steps p.tables e below (s₁.setTop (entryFrame m #[(.ref a), (.int pv)] 2)) t := fun t kk₀ => castTop (rm_pf_ef m a pv) kk₀
  obtain ⟨T1, X1, e1, st1⟩ := getF X0 hx hZ hown (host := "") (Or.inl (hw _ (List.mem_of_getElem? (i := 10) rfl))) Via.refl e0 Fa (g := (mkF m 2 #[.val (.ref a), .val (.int pv)] [(.ref a), (.int pv)])) rfl rfl (hb hby own_d_prog_38_method_5_2)
  obtain ⟨T2, X2, e2, st2⟩ := getF X1 hx hZ hown (host := "") (Or.inl (hw _ (List.mem_of_getElem? (i := 12) rfl))) Via.refl e1 Fr_ (g := (mkF m 7 #[.val (.ref a), .val (.int pv)] [(.ref a), (.int (pv ||| ad))])) rfl rfl (hb hby own_d_prog_38_method_5_7)
  obtain ⟨fs, hr, hrun, hended, hW, hsame⟩ := X2.leave (v := some (.int ((pv ||| ad) &&& (rem ^^^ (-1 : Int32))))) (fun h => by rw [Bd.returns] at h; cases h)
  refine ⟨_, _, pre0 _ ?_, hrun, hended, _, _, rfl, ?_, ⟨_, rfl⟩, hW, hsame.mono (by decide) (by decide)⟩
  · show Steps p.tables e below (s₁.setTop (mkF m 0 #[.val (.ref a), .val (.int pv)] [])) _
    refine XS.iloadN X0.here hx rfl (hb hby own_d_prog_38_method_5_0) rfl ?_
    show Steps p.tables e below (s₁.setTop (mkF m 1 #[.val (.ref a), .val (.int pv)] [(.int pv)])) _
    refine XS.aloadN X0.here hx rfl (hb hby own_d_prog_38_method_5_1) rfl rfl ?_
    show Steps p.tables e below (s₁.setTop (mkF m 2 #[.val (.ref a), .val (.int pv)] [(.ref a), (.int pv)])) _
    refine st1 _ ?_
    show Steps p.tables e below (T1.setTop (mkF m 5 #[.val (.ref a), .val (.int pv)] [(.int ad), (.int pv)])) _
    refine XS.ior X1.here hx rfl (hb hby own_d_prog_38_method_5_5) rfl ?_
    show Steps p.tables e below (T1.setTop (mkF m 6 #[.val (.ref a), .val (.int pv)] [(.int (pv ||| ad))])) _
    refine XS.aloadN X1.here hx rfl (hb hby own_d_prog_38_method_5_6) rfl rfl ?_
    show Steps p.tables e below (T1.setTop (mkF m 7 #[.val (.ref a), .val (.int pv)] [(.ref a), (.int (pv ||| ad))])) _
    refine st2 _ ?_
    show Steps p.tables e below (T2.setTop (mkF m 10 #[.val (.ref a), .val (.int pv)] [(.int rem), (.int (pv ||| ad))])) _
    refine XS.iconst X2.here hx rfl (hb hby own_d_prog_38_method_5_10) ?_
    show Steps p.tables e below (T2.setTop (mkF m 11 #[.val (.ref a), .val (.int pv)] [(.int (-1 : Int32)), (.int rem), (.int (pv ||| ad))])) _
    refine XS.ixor X2.here hx rfl (hb hby own_d_prog_38_method_5_11) rfl ?_
    show Steps p.tables e below (T2.setTop (mkF m 12 #[.val (.ref a), .val (.int pv)] [(.int (rem ^^^ (-1 : Int32))), (.int (pv ||| ad))])) _
    refine XS.iand X2.here hx rfl (hb hby own_d_prog_38_method_5_12) rfl ?_
    show Steps p.tables e below (T2.setTop (mkF m 13 #[.val (.ref a), .val (.int pv)] [(.int ((pv ||| ad) &&& (rem ^^^ (-1 : Int32))))])) _
    exact own_retI X2 hx Bd.returns (hb hby own_d_prog_38_method_5_13) hr
  · show rm_pf_Q Z a pv ad rem h0 n0 _ T2.heap _
    rw [e2]
    exact ⟨rfl, N0, rfl⟩
theorem rm_law_ef (m : MethodId) (x0 : Int32) (x1 : Int32) : entryFrame m #[(.int x0), (.int x1)] maxLocals = mkF m 0 #[.val (.int x0), .val (.int x1), .unset, .unset, .unset, .unset, .unset, .unset, .unset, .unset, .unset, .unset, .unset, .unset, .unset, .unset] [] := by first | (simp [entryFrame, mkF, argsToLocals, Value.category, maxLocals]; done) | rfl
def rm_law_Q (Z : State) (p0 : Int32) (p1 : Int32) (b_INTO_EXISTING : Addr) (b_NONE : Addr) (b_ALWAYS : Addr) (b_NEVER : Addr) (h0 : Heap) (n0 : Nat) (v : Option Value) (h : Heap) (L : List Loc) : Prop := v = some (.int (1 : Int32)) ∧ Fr n0 L
set_option maxRecDepth 65536 in
set_option maxHeartbeats 40000000 in
theorem rm_law (l : Launch) (Z : State) (a0 : Array Value) (hw : ∀ d ∈ tables_1, d.before a0 Z = true) (ws : List Jvm.Cond) (p0 : Int32) (p1 : Int32) (b_INTO_EXISTING : Addr) (b_NONE : Addr) (b_ALWAYS : Addr) (b_NEVER : Addr) (h0 : Heap) (n0 : Nat) (Z0 : n0 ≤ h0.size) (S_INTO_EXISTING : Sta Z h0 "com/example/gestor/gestor/model/DocumentLaunchMode" "INTO_EXISTING" "Lcom/example/gestor/gestor/model/DocumentLaunchMode;" (.ref b_INTO_EXISTING)) (E_INTO_EXISTING : Exa Z h0 b_INTO_EXISTING "com/example/gestor/gestor/model/DocumentLaunchMode") (S_NONE : Sta Z h0 "com/example/gestor/gestor/model/DocumentLaunchMode" "NONE" "Lcom/example/gestor/gestor/model/DocumentLaunchMode;" (.ref b_NONE)) (E_NONE : Exa Z h0 b_NONE "com/example/gestor/gestor/model/DocumentLaunchMode") (S_ALWAYS : Sta Z h0 "com/example/gestor/gestor/model/DocumentLaunchMode" "ALWAYS" "Lcom/example/gestor/gestor/model/DocumentLaunchMode;" (.ref b_ALWAYS)) (E_ALWAYS : Exa Z h0 b_ALWAYS "com/example/gestor/gestor/model/DocumentLaunchMode") (S_NEVER : Sta Z h0 "com/example/gestor/gestor/model/DocumentLaunchMode" "NEVER" "Lcom/example/gestor/gestor/model/DocumentLaunchMode;" (.ref b_NEVER)) (E_NEVER : Exa Z h0 b_NEVER "com/example/gestor/gestor/model/DocumentLaunchMode") (F_INTO_EXISTING_added : Fld Z h0 b_INTO_EXISTING "com/example/gestor/gestor/model/DocumentLaunchMode" "added" "I" (.int (524288 : Int32))) (F_INTO_EXISTING_removed : Fld Z h0 b_INTO_EXISTING "com/example/gestor/gestor/model/DocumentLaunchMode" "removed" "I" (.int (0 : Int32))) (F_NONE_added : Fld Z h0 b_NONE "com/example/gestor/gestor/model/DocumentLaunchMode" "added" "I" (.int (0 : Int32))) (F_NONE_removed : Fld Z h0 b_NONE "com/example/gestor/gestor/model/DocumentLaunchMode" "removed" "I" (.int (0 : Int32))) (F_ALWAYS_added : Fld Z h0 b_ALWAYS "com/example/gestor/gestor/model/DocumentLaunchMode" "added" "I" (.int (134742016 : Int32))) (F_ALWAYS_removed : Fld Z h0 b_ALWAYS "com/example/gestor/gestor/model/DocumentLaunchMode" "removed" "I" (.int (0 : Int32))) (F_NEVER_added : Fld Z h0 b_NEVER "com/example/gestor/gestor/model/DocumentLaunchMode" "added" "I" (.int (0 : Int32))) (F_NEVER_removed : Fld Z h0 b_NEVER "com/example/gestor/gestor/model/DocumentLaunchMode" "removed" "I" (.int (134742016 : Int32))) :
    MetFree l x (head1 (Jvm.Cond.code x code maxLocals ret :: ws) room_1) (fun a₀ U₀ => a₀ = #[(.int p0), (.int p1)] ∧ Z.Warmed39 U₀.vm ∧ U₀.heap = h0) (fun _ _ _ _ _ => True) (fun _ U₀ o₀ U₁ => ∃ v₀ L₀, o₀ = .returned v₀ ∧ rm_law_Q Z p0 p1 b_INTO_EXISTING b_NONE b_ALWAYS b_NEVER h0 n0 v₀ U₁.heap L₀ ∧ FrameEnd U₀ o₀ U₁ L₀ room_1.cells room_1.slots) := by
  refine MetFree.of_bodySF (plainFor_of_name own_pn1) hisR ?_
  intro p e s m args below meth c s₁ Bd hml0 hP hK
  obtain ⟨rfl, hZ, hh⟩ := hP
  have hx := Bd.exec
  have hby := Bd.bytes
  have hml : c.maxLocals = 16 := hml0
  have hown : s.vm.findClass "com/example/gestor/gestor/model/DocumentLaunchModePlacementFlagsPinLaw" = some m.cls := findClass_of_methodNamed Bd.named
  have hnm := (name_of_methodNamed Bd.named Bd.method).1
  have X0 : Stand p l e room_1 s m #[(.int p0), (.int p1)] below meth c s₁ [] 0 0 := Stand.of_body Bd
  have e0 : s₁.heap = h0 := by rw [← hh, Bd.state]; rfl
  have N0 := Fr.nil n0
  have pre0 : ∀ t, Steps p.tables e below (s₁.setTop (mkF m 0 #[.val (.int p0), .val (.int p1), .unset, .unset, .unset, .unset, .unset, .unset, .unset, .unset, .unset, .unset, .unset, .unset, .unset, .unset] [])) t → Steps p.tables e below (s₁.setTop (entryFrame m #[(.int p0), (.int p1)] maxLocals)) t := fun t kk₀ => castTop (rm_law_ef m p0 p1) kk₀
  obtain ⟨vN, hvN⟩ : ∃ z, z = (if (p1 &&& (524288 : Int32)) = (0 : Int32) then (0 : Int32) else (1 : Int32)) := ⟨_, rfl⟩
  obtain ⟨vM, hvM⟩ : ∃ z, z = (if (p1 &&& (134217728 : Int32)) = (0 : Int32) then (0 : Int32) else (1 : Int32)) := ⟨_, rfl⟩
  obtain ⟨M, EN, EM, ad, rem, hM⟩ : ∃ (M : Addr) (EN EM ad rem : Int32), ((p0 &&& (3 : Int32)) = (0 : Int32) ∧ b_INTO_EXISTING = M ∧ (1 : Int32) = EN ∧ vM = EM ∧ (524288 : Int32) = ad ∧ (0 : Int32) = rem) ∨ ((p0 &&& (3 : Int32)) = (1 : Int32) ∧ b_ALWAYS = M ∧ (1 : Int32) = EN ∧ (1 : Int32) = EM ∧ (134742016 : Int32) = ad ∧ (0 : Int32) = rem) ∨ ((p0 &&& (3 : Int32)) = (2 : Int32) ∧ b_NONE = M ∧ vN = EN ∧ vM = EM ∧ (0 : Int32) = ad ∧ (0 : Int32) = rem) ∨ ((p0 &&& (3 : Int32)) = (3 : Int32) ∧ b_NEVER = M ∧ (0 : Int32) = EN ∧ (0 : Int32) = EM ∧ (0 : Int32) = ad ∧ (134742016 : Int32) = rem) := by
    rcases own_and3 p0 with q | q | q | q
    · exact ⟨_, _, _, _, _, Or.inl ⟨q, rfl, rfl, rfl, rfl, rfl⟩⟩
    · exact ⟨_, _, _, _, _, Or.inr (Or.inl ⟨q, rfl, rfl, rfl, rfl, rfl⟩)⟩
    · exact ⟨_, _, _, _, _, Or.inr (Or.inr (Or.inl ⟨q, rfl, rfl, rfl, rfl, rfl⟩))⟩
    · exact ⟨_, _, _, _, _, Or.inr (Or.inr (Or.inr ⟨q, rfl, rfl, rfl, rfl, rfl⟩))⟩
  have E_M : Exa Z h0 M "com/example/gestor/gestor/model/DocumentLaunchMode" := by
    rcases hM with ⟨q, rfl, rfl, rfl, rfl, rfl⟩ | ⟨q, rfl, rfl, rfl, rfl, rfl⟩ | ⟨q, rfl, rfl, rfl, rfl, rfl⟩ | ⟨q, rfl, rfl, rfl, rfl, rfl⟩
    · exact E_INTO_EXISTING
    · exact E_ALWAYS
    · exact E_NONE
    · exact E_NEVER
  have FA : Fld Z h0 M "com/example/gestor/gestor/model/DocumentLaunchMode" "added" "I" (.int ad) := by
    rcases hM with ⟨q, rfl, rfl, rfl, rfl, rfl⟩ | ⟨q, rfl, rfl, rfl, rfl, rfl⟩ | ⟨q, rfl, rfl, rfl, rfl, rfl⟩ | ⟨q, rfl, rfl, rfl, rfl, rfl⟩
    · exact F_INTO_EXISTING_added
    · exact F_ALWAYS_added
    · exact F_NONE_added
    · exact F_NEVER_added
  have FR : Fld Z h0 M "com/example/gestor/gestor/model/DocumentLaunchMode" "removed" "I" (.int rem) := by
    rcases hM with ⟨q, rfl, rfl, rfl, rfl, rfl⟩ | ⟨q, rfl, rfl, rfl, rfl, rfl⟩ | ⟨q, rfl, rfl, rfl, rfl, rfl⟩ | ⟨q, rfl, rfl, rfl, rfl, rfl⟩
    · exact F_INTO_EXISTING_removed
    · exact F_ALWAYS_removed
    · exact F_NONE_removed
    · exact F_NEVER_removed
  have hO : (((p1 ||| ad) &&& (rem ^^^ (-1 : Int32))) &&& (-134742017 : Int32)) = (p1 &&& (-134742017 : Int32)) := by
    rcases hM with ⟨q, rfl, rfl, rfl, rfl, rfl⟩ | ⟨q, rfl, rfl, rfl, rfl, rfl⟩ | ⟨q, rfl, rfl, rfl, rfl, rfl⟩ | ⟨q, rfl, rfl, rfl, rfl, rfl⟩
    · exact own_bits_keep p1 (524288 : Int32) (0 : Int32) (-134742017 : Int32) (by decide) (by decide)
    · exact own_bits_keep p1 (134742016 : Int32) (0 : Int32) (-134742017 : Int32) (by decide) (by decide)
    · exact own_bits_keep p1 (0 : Int32) (0 : Int32) (-134742017 : Int32) (by decide) (by decide)
    · exact own_bits_keep p1 (0 : Int32) (134742016 : Int32) (-134742017 : Int32) (by decide) (by decide)
  obtain ⟨vN2, hvN2⟩ : ∃ z, z = (if (((p1 ||| ad) &&& (rem ^^^ (-1 : Int32))) &&& (524288 : Int32)) = (0 : Int32) then (0 : Int32) else (1 : Int32)) := ⟨_, rfl⟩
  obtain ⟨vM2, hvM2⟩ : ∃ z, z = (if (((p1 ||| ad) &&& (rem ^^^ (-1 : Int32))) &&& (134217728 : Int32)) = (0 : Int32) then (0 : Int32) else (1 : Int32)) := ⟨_, rfl⟩
  have hN : vN2 = EN := by
    rcases hM with ⟨q, rfl, rfl, rfl, rfl, rfl⟩ | ⟨q, rfl, rfl, rfl, rfl, rfl⟩ | ⟨q, rfl, rfl, rfl, rfl, rfl⟩ | ⟨q, rfl, rfl, rfl, rfl, rfl⟩
    · rw [hvN2, own_bits_set p1 (524288 : Int32) (0 : Int32) (524288 : Int32) (by decide) (by decide)]; decide
    · rw [hvN2, own_bits_set p1 (134742016 : Int32) (0 : Int32) (524288 : Int32) (by decide) (by decide)]; decide
    · rw [hvN2, own_bits_keep p1 (0 : Int32) (0 : Int32) (524288 : Int32) (by decide) (by decide)]; rw [hvN]
    · rw [hvN2, own_bits_clear p1 (0 : Int32) (134742016 : Int32) (524288 : Int32) (by decide) (by decide)]; decide
  have hMm : vM2 = EM := by
    rcases hM with ⟨q, rfl, rfl, rfl, rfl, rfl⟩ | ⟨q, rfl, rfl, rfl, rfl, rfl⟩ | ⟨q, rfl, rfl, rfl, rfl, rfl⟩ | ⟨q, rfl, rfl, rfl, rfl, rfl⟩
    · rw [hvM2, own_bits_keep p1 (524288 : Int32) (0 : Int32) (134217728 : Int32) (by decide) (by decide)]; rw [hvM]
    · rw [hvM2, own_bits_set p1 (134742016 : Int32) (0 : Int32) (134217728 : Int32) (by decide) (by decide)]; decide
    · rw [hvM2, own_bits_keep p1 (0 : Int32) (0 : Int32) (134217728 : Int32) (by decide) (by decide)]; rw [hvM]
    · rw [hvM2, own_bits_clear p1 (0 : Int32) (134742016 : Int32) (134217728 : Int32) (by decide) (by decide)]; decide
  obtain ⟨T3, X3, e3, st3⟩ := own_join X0 (h := h0) (g := (mkF m 10 #[.val (.int p0), .val (.int p1), .val (.int (524288 : Int32)), .val (.int (134217728 : Int32)), .unset, .unset, .unset, .unset, .unset, .unset, .unset, .unset, .unset, .unset, .unset, .unset] [(.int (p1 &&& (524288 : Int32)))])) (g' := (mkF m 18 #[.val (.int p0), .val (.int p1), .val (.int (524288 : Int32)), .val (.int (134217728 : Int32)), .unset, .unset, .unset, .unset, .unset, .unset, .unset, .unset, .unset, .unset, .unset, .unset] [(.int vN)])) (by
    by_cases q : (p1 &&& (524288 : Int32)) = (0 : Int32)
    · refine ⟨s₁, X0, e0, fun target k => ?_⟩
      rw [hvN, if_pos q] at k
      show Steps p.tables e below (s₁.setTop (mkF m 10 #[.val (.int p0), .val (.int p1), .val (.int (524288 : Int32)), .val (.int (134217728 : Int32)), .unset, .unset, .unset, .unset, .unset, .unset, .unset, .unset, .unset, .unset, .unset, .unset] [(.int (p1 &&& (524288 : Int32)))])) _
      refine XS.ifYes X0.here hx rfl (pc0 := 10) (pc' := 17) rfl (hb hby at_10) rfl ((if0 _ _).trans (teq q).1) (by decide) (by decide) ?_
      show Steps p.tables e below (s₁.setTop (mkF m 17 #[.val (.int p0), .val (.int p1), .val (.int (524288 : Int32)), .val (.int (134217728 : Int32)), .unset, .unset, .unset, .unset, .unset, .unset, .unset, .unset, .unset, .unset, .unset, .unset] [])) _
      refine XS.iconst X0.here hx rfl (hb hby at_17) ?_
      exact k
    · refine ⟨s₁, X0, e0, fun target k => ?_⟩
      rw [hvN, if_neg q] at k
      show Steps p.tables e below (s₁.setTop (mkF m 10 #[.val (.int p0), .val (.int p1), .val (.int (524288 : Int32)), .val (.int (134217728 : Int32)), .unset, .unset, .unset, .unset, .unset, .unset, .unset, .unset, .unset, .unset, .unset, .unset] [(.int (p1 &&& (524288 : Int32)))])) _
      refine XS.ifNo X0.here hx rfl (hb hby at_10) rfl ((if0 _ _).trans (feq q).1) ?_
      show Steps p.tables e below (s₁.setTop (mkF m 13 #[.val (.int p0), .val (.int p1), .val (.int (524288 : Int32)), .val (.int (134217728 : Int32)), .unset, .unset, .unset, .unset, .unset, .unset, .unset, .unset, .unset, .unset, .unset, .unset] [])) _
      refine XS.iconst X0.here hx rfl (hb hby at_13) ?_
      show Steps p.tables e below (s₁.setTop (mkF m 14 #[.val (.int p0), .val (.int p1), .val (.int (524288 : Int32)), .val (.int (134217728 : Int32)), .unset, .unset, .unset, .unset, .unset, .unset, .unset, .unset, .unset, .unset, .unset, .unset] [(.int (1 : Int32))])) _
      refine XS.goto X0.here hx rfl (pc0 := 14) (pc' := 18) rfl (hb hby at_14) (by decide) (by decide) ?_
      exact k)
  obtain ⟨T4, X4, e4, st4⟩ := own_join X3 (h := h0) (g := (mkF m 24 #[.val (.int p0), .val (.int p1), .val (.int (524288 : Int32)), .val (.int (134217728 : Int32)), .val (.int vN), .unset, .unset, .unset, .unset, .unset, .unset, .unset, .unset, .unset, .unset, .unset] [(.int (p1 &&& (134217728 : Int32)))])) (g' := (mkF m 32 #[.val (.int p0), .val (.int p1), .val (.int (524288 : Int32)), .val (.int (134217728 : Int32)), .val (.int vN), .unset, .unset, .unset, .unset, .unset, .unset, .unset, .unset, .unset, .unset, .unset] [(.int vM)])) (by
    by_cases q : (p1 &&& (134217728 : Int32)) = (0 : Int32)
    · refine ⟨T3, X3, e3, fun target k => ?_⟩
      rw [hvM, if_pos q] at k
      show Steps p.tables e below (T3.setTop (mkF m 24 #[.val (.int p0), .val (.int p1), .val (.int (524288 : Int32)), .val (.int (134217728 : Int32)), .val (.int vN), .unset, .unset, .unset, .unset, .unset, .unset, .unset, .unset, .unset, .unset, .unset] [(.int (p1 &&& (134217728 : Int32)))])) _
      refine XS.ifYes X3.here hx rfl (pc0 := 24) (pc' := 31) rfl (hb hby at_24) rfl ((if0 _ _).trans (teq q).1) (by decide) (by decide) ?_
      show Steps p.tables e below (T3.setTop (mkF m 31 #[.val (.int p0), .val (.int p1), .val (.int (524288 : Int32)), .val (.int (134217728 : Int32)), .val (.int vN), .unset, .unset, .unset, .unset, .unset, .unset, .unset, .unset, .unset, .unset, .unset] [])) _
      refine XS.iconst X3.here hx rfl (hb hby at_31) ?_
      exact k
    · refine ⟨T3, X3, e3, fun target k => ?_⟩
      rw [hvM, if_neg q] at k
      show Steps p.tables e below (T3.setTop (mkF m 24 #[.val (.int p0), .val (.int p1), .val (.int (524288 : Int32)), .val (.int (134217728 : Int32)), .val (.int vN), .unset, .unset, .unset, .unset, .unset, .unset, .unset, .unset, .unset, .unset, .unset] [(.int (p1 &&& (134217728 : Int32)))])) _
      refine XS.ifNo X3.here hx rfl (hb hby at_24) rfl ((if0 _ _).trans (feq q).1) ?_
      show Steps p.tables e below (T3.setTop (mkF m 27 #[.val (.int p0), .val (.int p1), .val (.int (524288 : Int32)), .val (.int (134217728 : Int32)), .val (.int vN), .unset, .unset, .unset, .unset, .unset, .unset, .unset, .unset, .unset, .unset, .unset] [])) _
      refine XS.iconst X3.here hx rfl (hb hby at_27) ?_
      show Steps p.tables e below (T3.setTop (mkF m 28 #[.val (.int p0), .val (.int p1), .val (.int (524288 : Int32)), .val (.int (134217728 : Int32)), .val (.int vN), .unset, .unset, .unset, .unset, .unset, .unset, .unset, .unset, .unset, .unset, .unset] [(.int (1 : Int32))])) _
      refine XS.goto X3.here hx rfl (pc0 := 28) (pc' := 32) rfl (hb hby at_28) (by decide) (by decide) ?_
      exact k)
  obtain ⟨T5, X5, e5, st5⟩ := own_join X4 (h := h0) (g := (mkF m 41 #[.val (.int p0), .val (.int p1), .val (.int (524288 : Int32)), .val (.int (134217728 : Int32)), .val (.int vN), .val (.int vM), .val (.int (p0 &&& (3 : Int32))), .unset, .unset, .unset, .unset, .unset, .unset, .unset, .unset, .unset] [(.int (p0 &&& (3 : Int32)))])) (g' := (mkF m 112 #[.val (.int p0), .val (.int p1), .val (.int (524288 : Int32)), .val (.int (134217728 : Int32)), .val (.int vN), .val (.int vM), .val (.int (p0 &&& (3 : Int32))), .val (.ref M), .val (.int EN), .val (.int EM), .unset, .unset, .unset, .unset, .unset, .unset] [])) (by
    rcases hM with ⟨q, rfl, rfl, rfl, rfl, rfl⟩ | ⟨q, rfl, rfl, rfl, rfl, rfl⟩ | ⟨q, rfl, rfl, rfl, rfl, rfl⟩ | ⟨q, rfl, rfl, rfl, rfl, rfl⟩
    · obtain ⟨T6, X6, e6, st6⟩ := getS X4 hx hZ (host := "") hown (hw _ (List.mem_of_getElem? (i := 2) rfl)) Via.refl e4 S_INTO_EXISTING (g := (mkF m 44 #[.val (.int p0), .val (.int p1), .val (.int (524288 : Int32)), .val (.int (134217728 : Int32)), .val (.int vN), .val (.int vM), .val (.int (p0 &&& (3 : Int32))), .unset, .unset, .unset, .unset, .unset, .unset, .unset, .unset, .unset] [])) rfl (hb hby at_44)
      refine ⟨T6, X6, e6, fun target k => ?_⟩
      show Steps p.tables e below (T4.setTop (mkF m 41 #[.val (.int p0), .val (.int p1), .val (.int (524288 : Int32)), .val (.int (134217728 : Int32)), .val (.int vN), .val (.int vM), .val (.int (p0 &&& (3 : Int32))), .unset, .unset, .unset, .unset, .unset, .unset, .unset, .unset, .unset] [(.int (p0 &&& (3 : Int32)))])) _
      refine XS.ifNo X4.here hx rfl (hb hby at_41) rfl ((if0 _ _).trans (teq q).2) ?_
      show Steps p.tables e below (T4.setTop (mkF m 44 #[.val (.int p0), .val (.int p1), .val (.int (524288 : Int32)), .val (.int (134217728 : Int32)), .val (.int vN), .val (.int vM), .val (.int (p0 &&& (3 : Int32))), .unset, .unset, .unset, .unset, .unset, .unset, .unset, .unset, .unset] [])) _
      refine st6 _ ?_
      show Steps p.tables e below (T6.setTop (mkF m 47 #[.val (.int p0), .val (.int p1), .val (.int (524288 : Int32)), .val (.int (134217728 : Int32)), .val (.int vN), .val (.int vM), .val (.int (p0 &&& (3 : Int32))), .unset, .unset, .unset, .unset, .unset, .unset, .unset, .unset, .unset] [(.ref b_INTO_EXISTING)])) _
      refine XS.astore X6.here hx rfl (hb hby at_47) rfl rfl (l' := #[.val (.int p0), .val (.int p1), .val (.int (524288 : Int32)), .val (.int (134217728 : Int32)), .val (.int vN), .val (.int vM), .val (.int (p0 &&& (3 : Int32))), .val (.ref b_INTO_EXISTING), .unset, .unset, .unset, .unset, .unset, .unset, .unset, .unset]) rfl ?_
      show Steps p.tables e below (T6.setTop (mkF m 49 #[.val (.int p0), .val (.int p1), .val (.int (524288 : Int32)), .val (.int (134217728 : Int32)), .val (.int vN), .val (.int vM), .val (.int (p0 &&& (3 : Int32))), .val (.ref b_INTO_EXISTING), .unset, .unset, .unset, .unset, .unset, .unset, .unset, .unset] [])) _
      refine XS.iconst X6.here hx rfl (hb hby at_49) ?_
      show Steps p.tables e below (T6.setTop (mkF m 50 #[.val (.int p0), .val (.int p1), .val (.int (524288 : Int32)), .val (.int (134217728 : Int32)), .val (.int vN), .val (.int vM), .val (.int (p0 &&& (3 : Int32))), .val (.ref b_INTO_EXISTING), .unset, .unset, .unset, .unset, .unset, .unset, .unset, .unset] [(.int (1 : Int32))])) _
      refine XS.istore X6.here hx rfl (hb hby at_50) rfl (l' := #[.val (.int p0), .val (.int p1), .val (.int (524288 : Int32)), .val (.int (134217728 : Int32)), .val (.int vN), .val (.int vM), .val (.int (p0 &&& (3 : Int32))), .val (.ref b_INTO_EXISTING), .val (.int (1 : Int32)), .unset, .unset, .unset, .unset, .unset, .unset, .unset]) rfl ?_
      show Steps p.tables e below (T6.setTop (mkF m 52 #[.val (.int p0), .val (.int p1), .val (.int (524288 : Int32)), .val (.int (134217728 : Int32)), .val (.int vN), .val (.int vM), .val (.int (p0 &&& (3 : Int32))), .val (.ref b_INTO_EXISTING), .val (.int (1 : Int32)), .unset, .unset, .unset, .unset, .unset, .unset, .unset] [])) _
      refine XS.iload X6.here hx rfl (hb hby at_52) rfl ?_
      show Steps p.tables e below (T6.setTop (mkF m 54 #[.val (.int p0), .val (.int p1), .val (.int (524288 : Int32)), .val (.int (134217728 : Int32)), .val (.int vN), .val (.int vM), .val (.int (p0 &&& (3 : Int32))), .val (.ref b_INTO_EXISTING), .val (.int (1 : Int32)), .unset, .unset, .unset, .unset, .unset, .unset, .unset] [(.int vM)])) _
      refine XS.istore X6.here hx rfl (hb hby at_54) rfl (l' := #[.val (.int p0), .val (.int p1), .val (.int (524288 : Int32)), .val (.int (134217728 : Int32)), .val (.int vN), .val (.int vM), .val (.int (p0 &&& (3 : Int32))), .val (.ref b_INTO_EXISTING), .val (.int (1 : Int32)), .val (.int vM), .unset, .unset, .unset, .unset, .unset, .unset]) rfl ?_
      show Steps p.tables e below (T6.setTop (mkF m 56 #[.val (.int p0), .val (.int p1), .val (.int (524288 : Int32)), .val (.int (134217728 : Int32)), .val (.int vN), .val (.int vM), .val (.int (p0 &&& (3 : Int32))), .val (.ref b_INTO_EXISTING), .val (.int (1 : Int32)), .val (.int vM), .unset, .unset, .unset, .unset, .unset, .unset] [])) _
      refine XS.goto X6.here hx rfl (pc0 := 56) (pc' := 112) rfl (hb hby at_56) (by decide) (by decide) ?_
      exact k
    · obtain ⟨T7, X7, e7, st7⟩ := getS X4 hx hZ (host := "") hown (hw _ (List.mem_of_getElem? (i := 17) rfl)) Via.refl e4 S_ALWAYS (g := (mkF m 65 #[.val (.int p0), .val (.int p1), .val (.int (524288 : Int32)), .val (.int (134217728 : Int32)), .val (.int vN), .val (.int vM), .val (.int (p0 &&& (3 : Int32))), .unset, .unset, .unset, .unset, .unset, .unset, .unset, .unset, .unset] [])) rfl (hb hby at_65)
      refine ⟨T7, X7, e7, fun target k => ?_⟩
      show Steps p.tables e below (T4.setTop (mkF m 41 #[.val (.int p0), .val (.int p1), .val (.int (524288 : Int32)), .val (.int (134217728 : Int32)), .val (.int vN), .val (.int vM), .val (.int (p0 &&& (3 : Int32))), .unset, .unset, .unset, .unset, .unset, .unset, .unset, .unset, .unset] [(.int (p0 &&& (3 : Int32)))])) _
      refine XS.ifYes X4.here hx rfl (pc0 := 41) (pc' := 59) rfl (hb hby at_41) rfl ((if0 _ _).trans (feq (fun z => absurd (q.symm.trans z) (by decide))).2) (by decide) (by decide) ?_
      show Steps p.tables e below (T4.setTop (mkF m 59 #[.val (.int p0), .val (.int p1), .val (.int (524288 : Int32)), .val (.int (134217728 : Int32)), .val (.int vN), .val (.int vM), .val (.int (p0 &&& (3 : Int32))), .unset, .unset, .unset, .unset, .unset, .unset, .unset, .unset, .unset] [])) _
      refine XS.iload X4.here hx rfl (hb hby at_59) rfl ?_
      show Steps p.tables e below (T4.setTop (mkF m 61 #[.val (.int p0), .val (.int p1), .val (.int (524288 : Int32)), .val (.int (134217728 : Int32)), .val (.int vN), .val (.int vM), .val (.int (p0 &&& (3 : Int32))), .unset, .unset, .unset, .unset, .unset, .unset, .unset, .unset, .unset] [(.int (p0 &&& (3 : Int32)))])) _
      refine XS.iconst X4.here hx rfl (hb hby at_61) ?_
      show Steps p.tables e below (T4.setTop (mkF m 62 #[.val (.int p0), .val (.int p1), .val (.int (524288 : Int32)), .val (.int (134217728 : Int32)), .val (.int vN), .val (.int vM), .val (.int (p0 &&& (3 : Int32))), .unset, .unset, .unset, .unset, .unset, .unset, .unset, .unset, .unset] [(.int (1 : Int32)), (.int (p0 &&& (3 : Int32)))])) _
      refine XS.icmpNo X4.here hx rfl (hb hby at_62) rfl (teq q).2 ?_
      show Steps p.tables e below (T4.setTop (mkF m 65 #[.val (.int p0), .val (.int p1), .val (.int (524288 : Int32)), .val (.int (134217728 : Int32)), .val (.int vN), .val (.int vM), .val (.int (p0 &&& (3 : Int32))), .unset, .unset, .unset, .unset, .unset, .unset, .unset, .unset, .unset] [])) _
      refine st7 _ ?_
      show Steps p.tables e below (T7.setTop (mkF m 68 #[.val (.int p0), .val (.int p1), .val (.int (524288 : Int32)), .val (.int (134217728 : Int32)), .val (.int vN), .val (.int vM), .val (.int (p0 &&& (3 : Int32))), .unset, .unset, .unset, .unset, .unset, .unset, .unset, .unset, .unset] [(.ref b_ALWAYS)])) _
      refine XS.astore X7.here hx rfl (hb hby at_68) rfl rfl (l' := #[.val (.int p0), .val (.int p1), .val (.int (524288 : Int32)), .val (.int (134217728 : Int32)), .val (.int vN), .val (.int vM), .val (.int (p0 &&& (3 : Int32))), .val (.ref b_ALWAYS), .unset, .unset, .unset, .unset, .unset, .unset, .unset, .unset]) rfl ?_
      show Steps p.tables e below (T7.setTop (mkF m 70 #[.val (.int p0), .val (.int p1), .val (.int (524288 : Int32)), .val (.int (134217728 : Int32)), .val (.int vN), .val (.int vM), .val (.int (p0 &&& (3 : Int32))), .val (.ref b_ALWAYS), .unset, .unset, .unset, .unset, .unset, .unset, .unset, .unset] [])) _
      refine XS.iconst X7.here hx rfl (hb hby at_70) ?_
      show Steps p.tables e below (T7.setTop (mkF m 71 #[.val (.int p0), .val (.int p1), .val (.int (524288 : Int32)), .val (.int (134217728 : Int32)), .val (.int vN), .val (.int vM), .val (.int (p0 &&& (3 : Int32))), .val (.ref b_ALWAYS), .unset, .unset, .unset, .unset, .unset, .unset, .unset, .unset] [(.int (1 : Int32))])) _
      refine XS.istore X7.here hx rfl (hb hby at_71) rfl (l' := #[.val (.int p0), .val (.int p1), .val (.int (524288 : Int32)), .val (.int (134217728 : Int32)), .val (.int vN), .val (.int vM), .val (.int (p0 &&& (3 : Int32))), .val (.ref b_ALWAYS), .val (.int (1 : Int32)), .unset, .unset, .unset, .unset, .unset, .unset, .unset]) rfl ?_
      show Steps p.tables e below (T7.setTop (mkF m 73 #[.val (.int p0), .val (.int p1), .val (.int (524288 : Int32)), .val (.int (134217728 : Int32)), .val (.int vN), .val (.int vM), .val (.int (p0 &&& (3 : Int32))), .val (.ref b_ALWAYS), .val (.int (1 : Int32)), .unset, .unset, .unset, .unset, .unset, .unset, .unset] [])) _
      refine XS.iconst X7.here hx rfl (hb hby at_73) ?_
      show Steps p.tables e below (T7.setTop (mkF m 74 #[.val (.int p0), .val (.int p1), .val (.int (524288 : Int32)), .val (.int (134217728 : Int32)), .val (.int vN), .val (.int vM), .val (.int (p0 &&& (3 : Int32))), .val (.ref b_ALWAYS), .val (.int (1 : Int32)), .unset, .unset, .unset, .unset, .unset, .unset, .unset] [(.int (1 : Int32))])) _
      refine XS.istore X7.here hx rfl (hb hby at_74) rfl (l' := #[.val (.int p0), .val (.int p1), .val (.int (524288 : Int32)), .val (.int (134217728 : Int32)), .val (.int vN), .val (.int vM), .val (.int (p0 &&& (3 : Int32))), .val (.ref b_ALWAYS), .val (.int (1 : Int32)), .val (.int (1 : Int32)), .unset, .unset, .unset, .unset, .unset, .unset]) rfl ?_
      show Steps p.tables e below (T7.setTop (mkF m 76 #[.val (.int p0), .val (.int p1), .val (.int (524288 : Int32)), .val (.int (134217728 : Int32)), .val (.int vN), .val (.int vM), .val (.int (p0 &&& (3 : Int32))), .val (.ref b_ALWAYS), .val (.int (1 : Int32)), .val (.int (1 : Int32)), .unset, .unset, .unset, .unset, .unset, .unset] [])) _
      refine XS.goto X7.here hx rfl (pc0 := 76) (pc' := 112) rfl (hb hby at_76) (by decide) (by decide) ?_
      exact k
    · obtain ⟨T8, X8, e8, st8⟩ := getS X4 hx hZ (host := "") hown (hw _ (List.mem_of_getElem? (i := 15) rfl)) Via.refl e4 S_NONE (g := (mkF m 85 #[.val (.int p0), .val (.int p1), .val (.int (524288 : Int32)), .val (.int (134217728 : Int32)), .val (.int vN), .val (.int vM), .val (.int (p0 &&& (3 : Int32))), .unset, .unset, .unset, .unset, .unset, .unset, .unset, .unset, .unset] [])) rfl (hb hby at_85)
      refine ⟨T8, X8, e8, fun target k => ?_⟩
      show Steps p.tables e below (T4.setTop (mkF m 41 #[.val (.int p0), .val (.int p1), .val (.int (524288 : Int32)), .val (.int (134217728 : Int32)), .val (.int vN), .val (.int vM), .val (.int (p0 &&& (3 : Int32))), .unset, .unset, .unset, .unset, .unset, .unset, .unset, .unset, .unset] [(.int (p0 &&& (3 : Int32)))])) _
      refine XS.ifYes X4.here hx rfl (pc0 := 41) (pc' := 59) rfl (hb hby at_41) rfl ((if0 _ _).trans (feq (fun z => absurd (q.symm.trans z) (by decide))).2) (by decide) (by decide) ?_
      show Steps p.tables e below (T4.setTop (mkF m 59 #[.val (.int p0), .val (.int p1), .val (.int (524288 : Int32)), .val (.int (134217728 : Int32)), .val (.int vN), .val (.int vM), .val (.int (p0 &&& (3 : Int32))), .unset, .unset, .unset, .unset, .unset, .unset, .unset, .unset, .unset] [])) _
      refine XS.iload X4.here hx rfl (hb hby at_59) rfl ?_
      show Steps p.tables e below (T4.setTop (mkF m 61 #[.val (.int p0), .val (.int p1), .val (.int (524288 : Int32)), .val (.int (134217728 : Int32)), .val (.int vN), .val (.int vM), .val (.int (p0 &&& (3 : Int32))), .unset, .unset, .unset, .unset, .unset, .unset, .unset, .unset, .unset] [(.int (p0 &&& (3 : Int32)))])) _
      refine XS.iconst X4.here hx rfl (hb hby at_61) ?_
      show Steps p.tables e below (T4.setTop (mkF m 62 #[.val (.int p0), .val (.int p1), .val (.int (524288 : Int32)), .val (.int (134217728 : Int32)), .val (.int vN), .val (.int vM), .val (.int (p0 &&& (3 : Int32))), .unset, .unset, .unset, .unset, .unset, .unset, .unset, .unset, .unset] [(.int (1 : Int32)), (.int (p0 &&& (3 : Int32)))])) _
      refine XS.icmpYes X4.here hx rfl (pc0 := 62) (pc' := 79) rfl (hb hby at_62) rfl (feq (fun z => absurd (q.symm.trans z) (by decide))).2 (by decide) (by decide) ?_
      show Steps p.tables e below (T4.setTop (mkF m 79 #[.val (.int p0), .val (.int p1), .val (.int (524288 : Int32)), .val (.int (134217728 : Int32)), .val (.int vN), .val (.int vM), .val (.int (p0 &&& (3 : Int32))), .unset, .unset, .unset, .unset, .unset, .unset, .unset, .unset, .unset] [])) _
      refine XS.iload X4.here hx rfl (hb hby at_79) rfl ?_
      show Steps p.tables e below (T4.setTop (mkF m 81 #[.val (.int p0), .val (.int p1), .val (.int (524288 : Int32)), .val (.int (134217728 : Int32)), .val (.int vN), .val (.int vM), .val (.int (p0 &&& (3 : Int32))), .unset, .unset, .unset, .unset, .unset, .unset, .unset, .unset, .unset] [(.int (p0 &&& (3 : Int32)))])) _
      refine XS.iconst X4.here hx rfl (hb hby at_81) ?_
      show Steps p.tables e below (T4.setTop (mkF m 82 #[.val (.int p0), .val (.int p1), .val (.int (524288 : Int32)), .val (.int (134217728 : Int32)), .val (.int vN), .val (.int vM), .val (.int (p0 &&& (3 : Int32))), .unset, .unset, .unset, .unset, .unset, .unset, .unset, .unset, .unset] [(.int (2 : Int32)), (.int (p0 &&& (3 : Int32)))])) _
      refine XS.icmpNo X4.here hx rfl (hb hby at_82) rfl (teq q).2 ?_
      show Steps p.tables e below (T4.setTop (mkF m 85 #[.val (.int p0), .val (.int p1), .val (.int (524288 : Int32)), .val (.int (134217728 : Int32)), .val (.int vN), .val (.int vM), .val (.int (p0 &&& (3 : Int32))), .unset, .unset, .unset, .unset, .unset, .unset, .unset, .unset, .unset] [])) _
      refine st8 _ ?_
      show Steps p.tables e below (T8.setTop (mkF m 88 #[.val (.int p0), .val (.int p1), .val (.int (524288 : Int32)), .val (.int (134217728 : Int32)), .val (.int vN), .val (.int vM), .val (.int (p0 &&& (3 : Int32))), .unset, .unset, .unset, .unset, .unset, .unset, .unset, .unset, .unset] [(.ref b_NONE)])) _
      refine XS.astore X8.here hx rfl (hb hby at_88) rfl rfl (l' := #[.val (.int p0), .val (.int p1), .val (.int (524288 : Int32)), .val (.int (134217728 : Int32)), .val (.int vN), .val (.int vM), .val (.int (p0 &&& (3 : Int32))), .val (.ref b_NONE), .unset, .unset, .unset, .unset, .unset, .unset, .unset, .unset]) rfl ?_
      show Steps p.tables e below (T8.setTop (mkF m 90 #[.val (.int p0), .val (.int p1), .val (.int (524288 : Int32)), .val (.int (134217728 : Int32)), .val (.int vN), .val (.int vM), .val (.int (p0 &&& (3 : Int32))), .val (.ref b_NONE), .unset, .unset, .unset, .unset, .unset, .unset, .unset, .unset] [])) _
      refine XS.iload X8.here hx rfl (hb hby at_90) rfl ?_
      show Steps p.tables e below (T8.setTop (mkF m 92 #[.val (.int p0), .val (.int p1), .val (.int (524288 : Int32)), .val (.int (134217728 : Int32)), .val (.int vN), .val (.int vM), .val (.int (p0 &&& (3 : Int32))), .val (.ref b_NONE), .unset, .unset, .unset, .unset, .unset, .unset, .unset, .unset] [(.int vN)])) _
      refine XS.istore X8.here hx rfl (hb hby at_92) rfl (l' := #[.val (.int p0), .val (.int p1), .val (.int (524288 : Int32)), .val (.int (134217728 : Int32)), .val (.int vN), .val (.int vM), .val (.int (p0 &&& (3 : Int32))), .val (.ref b_NONE), .val (.int vN), .unset, .unset, .unset, .unset, .unset, .unset, .unset]) rfl ?_
      show Steps p.tables e below (T8.setTop (mkF m 94 #[.val (.int p0), .val (.int p1), .val (.int (524288 : Int32)), .val (.int (134217728 : Int32)), .val (.int vN), .val (.int vM), .val (.int (p0 &&& (3 : Int32))), .val (.ref b_NONE), .val (.int vN), .unset, .unset, .unset, .unset, .unset, .unset, .unset] [])) _
      refine XS.iload X8.here hx rfl (hb hby at_94) rfl ?_
      show Steps p.tables e below (T8.setTop (mkF m 96 #[.val (.int p0), .val (.int p1), .val (.int (524288 : Int32)), .val (.int (134217728 : Int32)), .val (.int vN), .val (.int vM), .val (.int (p0 &&& (3 : Int32))), .val (.ref b_NONE), .val (.int vN), .unset, .unset, .unset, .unset, .unset, .unset, .unset] [(.int vM)])) _
      refine XS.istore X8.here hx rfl (hb hby at_96) rfl (l' := #[.val (.int p0), .val (.int p1), .val (.int (524288 : Int32)), .val (.int (134217728 : Int32)), .val (.int vN), .val (.int vM), .val (.int (p0 &&& (3 : Int32))), .val (.ref b_NONE), .val (.int vN), .val (.int vM), .unset, .unset, .unset, .unset, .unset, .unset]) rfl ?_
      show Steps p.tables e below (T8.setTop (mkF m 98 #[.val (.int p0), .val (.int p1), .val (.int (524288 : Int32)), .val (.int (134217728 : Int32)), .val (.int vN), .val (.int vM), .val (.int (p0 &&& (3 : Int32))), .val (.ref b_NONE), .val (.int vN), .val (.int vM), .unset, .unset, .unset, .unset, .unset, .unset] [])) _
      refine XS.goto X8.here hx rfl (pc0 := 98) (pc' := 112) rfl (hb hby at_98) (by decide) (by decide) ?_
      exact k
    · obtain ⟨T9, X9, e9, st9⟩ := getS X4 hx hZ (host := "") hown (hw _ (List.mem_of_getElem? (i := 19) rfl)) Via.refl e4 S_NEVER (g := (mkF m 101 #[.val (.int p0), .val (.int p1), .val (.int (524288 : Int32)), .val (.int (134217728 : Int32)), .val (.int vN), .val (.int vM), .val (.int (p0 &&& (3 : Int32))), .unset, .unset, .unset, .unset, .unset, .unset, .unset, .unset, .unset] [])) rfl (hb hby at_101)
      refine ⟨T9, X9, e9, fun target k => ?_⟩
      show Steps p.tables e below (T4.setTop (mkF m 41 #[.val (.int p0), .val (.int p1), .val (.int (524288 : Int32)), .val (.int (134217728 : Int32)), .val (.int vN), .val (.int vM), .val (.int (p0 &&& (3 : Int32))), .unset, .unset, .unset, .unset, .unset, .unset, .unset, .unset, .unset] [(.int (p0 &&& (3 : Int32)))])) _
      refine XS.ifYes X4.here hx rfl (pc0 := 41) (pc' := 59) rfl (hb hby at_41) rfl ((if0 _ _).trans (feq (fun z => absurd (q.symm.trans z) (by decide))).2) (by decide) (by decide) ?_
      show Steps p.tables e below (T4.setTop (mkF m 59 #[.val (.int p0), .val (.int p1), .val (.int (524288 : Int32)), .val (.int (134217728 : Int32)), .val (.int vN), .val (.int vM), .val (.int (p0 &&& (3 : Int32))), .unset, .unset, .unset, .unset, .unset, .unset, .unset, .unset, .unset] [])) _
      refine XS.iload X4.here hx rfl (hb hby at_59) rfl ?_
      show Steps p.tables e below (T4.setTop (mkF m 61 #[.val (.int p0), .val (.int p1), .val (.int (524288 : Int32)), .val (.int (134217728 : Int32)), .val (.int vN), .val (.int vM), .val (.int (p0 &&& (3 : Int32))), .unset, .unset, .unset, .unset, .unset, .unset, .unset, .unset, .unset] [(.int (p0 &&& (3 : Int32)))])) _
      refine XS.iconst X4.here hx rfl (hb hby at_61) ?_
      show Steps p.tables e below (T4.setTop (mkF m 62 #[.val (.int p0), .val (.int p1), .val (.int (524288 : Int32)), .val (.int (134217728 : Int32)), .val (.int vN), .val (.int vM), .val (.int (p0 &&& (3 : Int32))), .unset, .unset, .unset, .unset, .unset, .unset, .unset, .unset, .unset] [(.int (1 : Int32)), (.int (p0 &&& (3 : Int32)))])) _
      refine XS.icmpYes X4.here hx rfl (pc0 := 62) (pc' := 79) rfl (hb hby at_62) rfl (feq (fun z => absurd (q.symm.trans z) (by decide))).2 (by decide) (by decide) ?_
      show Steps p.tables e below (T4.setTop (mkF m 79 #[.val (.int p0), .val (.int p1), .val (.int (524288 : Int32)), .val (.int (134217728 : Int32)), .val (.int vN), .val (.int vM), .val (.int (p0 &&& (3 : Int32))), .unset, .unset, .unset, .unset, .unset, .unset, .unset, .unset, .unset] [])) _
      refine XS.iload X4.here hx rfl (hb hby at_79) rfl ?_
      show Steps p.tables e below (T4.setTop (mkF m 81 #[.val (.int p0), .val (.int p1), .val (.int (524288 : Int32)), .val (.int (134217728 : Int32)), .val (.int vN), .val (.int vM), .val (.int (p0 &&& (3 : Int32))), .unset, .unset, .unset, .unset, .unset, .unset, .unset, .unset, .unset] [(.int (p0 &&& (3 : Int32)))])) _
      refine XS.iconst X4.here hx rfl (hb hby at_81) ?_
      show Steps p.tables e below (T4.setTop (mkF m 82 #[.val (.int p0), .val (.int p1), .val (.int (524288 : Int32)), .val (.int (134217728 : Int32)), .val (.int vN), .val (.int vM), .val (.int (p0 &&& (3 : Int32))), .unset, .unset, .unset, .unset, .unset, .unset, .unset, .unset, .unset] [(.int (2 : Int32)), (.int (p0 &&& (3 : Int32)))])) _
      refine XS.icmpYes X4.here hx rfl (pc0 := 82) (pc' := 101) rfl (hb hby at_82) rfl (feq (fun z => absurd (q.symm.trans z) (by decide))).2 (by decide) (by decide) ?_
      show Steps p.tables e below (T4.setTop (mkF m 101 #[.val (.int p0), .val (.int p1), .val (.int (524288 : Int32)), .val (.int (134217728 : Int32)), .val (.int vN), .val (.int vM), .val (.int (p0 &&& (3 : Int32))), .unset, .unset, .unset, .unset, .unset, .unset, .unset, .unset, .unset] [])) _
      refine st9 _ ?_
      show Steps p.tables e below (T9.setTop (mkF m 104 #[.val (.int p0), .val (.int p1), .val (.int (524288 : Int32)), .val (.int (134217728 : Int32)), .val (.int vN), .val (.int vM), .val (.int (p0 &&& (3 : Int32))), .unset, .unset, .unset, .unset, .unset, .unset, .unset, .unset, .unset] [(.ref b_NEVER)])) _
      refine XS.astore X9.here hx rfl (hb hby at_104) rfl rfl (l' := #[.val (.int p0), .val (.int p1), .val (.int (524288 : Int32)), .val (.int (134217728 : Int32)), .val (.int vN), .val (.int vM), .val (.int (p0 &&& (3 : Int32))), .val (.ref b_NEVER), .unset, .unset, .unset, .unset, .unset, .unset, .unset, .unset]) rfl ?_
      show Steps p.tables e below (T9.setTop (mkF m 106 #[.val (.int p0), .val (.int p1), .val (.int (524288 : Int32)), .val (.int (134217728 : Int32)), .val (.int vN), .val (.int vM), .val (.int (p0 &&& (3 : Int32))), .val (.ref b_NEVER), .unset, .unset, .unset, .unset, .unset, .unset, .unset, .unset] [])) _
      refine XS.iconst X9.here hx rfl (hb hby at_106) ?_
      show Steps p.tables e below (T9.setTop (mkF m 107 #[.val (.int p0), .val (.int p1), .val (.int (524288 : Int32)), .val (.int (134217728 : Int32)), .val (.int vN), .val (.int vM), .val (.int (p0 &&& (3 : Int32))), .val (.ref b_NEVER), .unset, .unset, .unset, .unset, .unset, .unset, .unset, .unset] [(.int (0 : Int32))])) _
      refine XS.istore X9.here hx rfl (hb hby at_107) rfl (l' := #[.val (.int p0), .val (.int p1), .val (.int (524288 : Int32)), .val (.int (134217728 : Int32)), .val (.int vN), .val (.int vM), .val (.int (p0 &&& (3 : Int32))), .val (.ref b_NEVER), .val (.int (0 : Int32)), .unset, .unset, .unset, .unset, .unset, .unset, .unset]) rfl ?_
      show Steps p.tables e below (T9.setTop (mkF m 109 #[.val (.int p0), .val (.int p1), .val (.int (524288 : Int32)), .val (.int (134217728 : Int32)), .val (.int vN), .val (.int vM), .val (.int (p0 &&& (3 : Int32))), .val (.ref b_NEVER), .val (.int (0 : Int32)), .unset, .unset, .unset, .unset, .unset, .unset, .unset] [])) _
      refine XS.iconst X9.here hx rfl (hb hby at_109) ?_
      show Steps p.tables e below (T9.setTop (mkF m 110 #[.val (.int p0), .val (.int p1), .val (.int (524288 : Int32)), .val (.int (134217728 : Int32)), .val (.int vN), .val (.int vM), .val (.int (p0 &&& (3 : Int32))), .val (.ref b_NEVER), .val (.int (0 : Int32)), .unset, .unset, .unset, .unset, .unset, .unset, .unset] [(.int (0 : Int32))])) _
      refine XS.istore X9.here hx rfl (hb hby at_110) rfl (l' := #[.val (.int p0), .val (.int p1), .val (.int (524288 : Int32)), .val (.int (134217728 : Int32)), .val (.int vN), .val (.int vM), .val (.int (p0 &&& (3 : Int32))), .val (.ref b_NEVER), .val (.int (0 : Int32)), .val (.int (0 : Int32)), .unset, .unset, .unset, .unset, .unset, .unset]) rfl ?_
      exact k)
  obtain ⟨cq10, kq10, q10a, q10b, q10c⟩ := isOf hZ e5 E_M
  obtain ⟨_, _, ⟨T10, L10, k10, n10⟩, -, X10, ⟨Lc10, hQ10, l10, y10, z10⟩, st10⟩ := X5.virtualBack hx (y := (⟨"com/example/gestor/gestor/model/DocumentLaunchMode", "placementFlags", "(I)I"⟩ : MethodName)) (z := (⟨"com/example/gestor/gestor/model/DocumentLaunchMode", "placementFlags", "(I)I"⟩ : MethodName)) hown (mvT hZ (hw _ (List.mem_of_getElem? (i := 5) rfl))) (mvT hZ (hw _ (List.mem_of_getElem? (i := 6) rfl))) (notFace_of_selects (args := #[]) (mvT hZ (hw _ (List.mem_of_getElem? (i := 8) rfl)))) (mvT hZ (hw _ (List.mem_of_getElem? (i := 8) rfl))) (mvT hZ (hw _ (List.mem_of_getElem? (i := 7) rfl))) (by decide) (backOf (W := 0) (rm_pf l Z a0 hw [] M p1 ad rem h0 n0 Z0 FA FR) hZ (hw _ (List.mem_of_getElem? (i := 9) rfl)) (hw _ (List.mem_of_getElem? (i := 3) rfl)) (by decide) (by decide)) q10a q10c (g := (mkF m 115 #[.val (.int p0), .val (.int p1), .val (.int (524288 : Int32)), .val (.int (134217728 : Int32)), .val (.int vN), .val (.int vM), .val (.int (p0 &&& (3 : Int32))), .val (.ref M), .val (.int EN), .val (.int EM), .unset, .unset, .unset, .unset, .unset, .unset] [(.int p1), (.ref M)])) rfl (by rw [hml]; rfl) (Steps.refl _) (argsL := [(.int p1)]) (rest := []) (lenOf own_pd0 rfl) rfl (by show 2 * 0 + _ ≤ _; exact Nat.le_of_eq rfl) (hb hby at_115) (fun _ _ => ⟨rfl, e5, (by decide : 0 + 0 ≤ _), (by decide : 0 + 0 ≤ _)⟩)
  dsimp only [Pt.U, Pt.locs, Pt.cells, Pt.slots] at X10 l10 y10 z10 st10 hQ10
  subst l10 y10 z10
  obtain ⟨rfl, Nq10, eh10⟩ := hQ10
  have N10 := Fr.app N0 Nq10
  obtain ⟨T11, X11, e11, st11⟩ := own_join X10 (h := h0) (g := (mkF m 148 #[.val (.int p0), .val (.int p1), .val (.int (524288 : Int32)), .val (.int (134217728 : Int32)), .val (.int vN), .val (.int vM), .val (.int (p0 &&& (3 : Int32))), .val (.ref M), .val (.int EN), .val (.int EM), .val (.int ((p1 ||| ad) &&& (rem ^^^ (-1 : Int32)))), .val (.int (-134742017 : Int32)), .val (.int (1 : Int32)), .unset, .unset, .unset] [(.int (((p1 ||| ad) &&& (rem ^^^ (-1 : Int32))) &&& (524288 : Int32)))])) (g' := (mkF m 156 #[.val (.int p0), .val (.int p1), .val (.int (524288 : Int32)), .val (.int (134217728 : Int32)), .val (.int vN), .val (.int vM), .val (.int (p0 &&& (3 : Int32))), .val (.ref M), .val (.int EN), .val (.int EM), .val (.int ((p1 ||| ad) &&& (rem ^^^ (-1 : Int32)))), .val (.int (-134742017 : Int32)), .val (.int (1 : Int32)), .unset, .unset, .unset] [(.int vN2)])) (by
    by_cases q : (((p1 ||| ad) &&& (rem ^^^ (-1 : Int32))) &&& (524288 : Int32)) = (0 : Int32)
    · refine ⟨T10, X10, eh10, fun target k => ?_⟩
      rw [hvN2, if_pos q] at k
      show Steps p.tables e below (T10.setTop (mkF m 148 #[.val (.int p0), .val (.int p1), .val (.int (524288 : Int32)), .val (.int (134217728 : Int32)), .val (.int vN), .val (.int vM), .val (.int (p0 &&& (3 : Int32))), .val (.ref M), .val (.int EN), .val (.int EM), .val (.int ((p1 ||| ad) &&& (rem ^^^ (-1 : Int32)))), .val (.int (-134742017 : Int32)), .val (.int (1 : Int32)), .unset, .unset, .unset] [(.int (((p1 ||| ad) &&& (rem ^^^ (-1 : Int32))) &&& (524288 : Int32)))])) _
      refine XS.ifYes X10.here hx rfl (pc0 := 148) (pc' := 155) rfl (hb hby at_148) rfl ((if0 _ _).trans (teq q).1) (by decide) (by decide) ?_
      show Steps p.tables e below (T10.setTop (mkF m 155 #[.val (.int p0), .val (.int p1), .val (.int (524288 : Int32)), .val (.int (134217728 : Int32)), .val (.int vN), .val (.int vM), .val (.int (p0 &&& (3 : Int32))), .val (.ref M), .val (.int EN), .val (.int EM), .val (.int ((p1 ||| ad) &&& (rem ^^^ (-1 : Int32)))), .val (.int (-134742017 : Int32)), .val (.int (1 : Int32)), .unset, .unset, .unset] [])) _
      refine XS.iconst X10.here hx rfl (hb hby at_155) ?_
      exact k
    · refine ⟨T10, X10, eh10, fun target k => ?_⟩
      rw [hvN2, if_neg q] at k
      show Steps p.tables e below (T10.setTop (mkF m 148 #[.val (.int p0), .val (.int p1), .val (.int (524288 : Int32)), .val (.int (134217728 : Int32)), .val (.int vN), .val (.int vM), .val (.int (p0 &&& (3 : Int32))), .val (.ref M), .val (.int EN), .val (.int EM), .val (.int ((p1 ||| ad) &&& (rem ^^^ (-1 : Int32)))), .val (.int (-134742017 : Int32)), .val (.int (1 : Int32)), .unset, .unset, .unset] [(.int (((p1 ||| ad) &&& (rem ^^^ (-1 : Int32))) &&& (524288 : Int32)))])) _
      refine XS.ifNo X10.here hx rfl (hb hby at_148) rfl ((if0 _ _).trans (feq q).1) ?_
      show Steps p.tables e below (T10.setTop (mkF m 151 #[.val (.int p0), .val (.int p1), .val (.int (524288 : Int32)), .val (.int (134217728 : Int32)), .val (.int vN), .val (.int vM), .val (.int (p0 &&& (3 : Int32))), .val (.ref M), .val (.int EN), .val (.int EM), .val (.int ((p1 ||| ad) &&& (rem ^^^ (-1 : Int32)))), .val (.int (-134742017 : Int32)), .val (.int (1 : Int32)), .unset, .unset, .unset] [])) _
      refine XS.iconst X10.here hx rfl (hb hby at_151) ?_
      show Steps p.tables e below (T10.setTop (mkF m 152 #[.val (.int p0), .val (.int p1), .val (.int (524288 : Int32)), .val (.int (134217728 : Int32)), .val (.int vN), .val (.int vM), .val (.int (p0 &&& (3 : Int32))), .val (.ref M), .val (.int EN), .val (.int EM), .val (.int ((p1 ||| ad) &&& (rem ^^^ (-1 : Int32)))), .val (.int (-134742017 : Int32)), .val (.int (1 : Int32)), .unset, .unset, .unset] [(.int (1 : Int32))])) _
      refine XS.goto X10.here hx rfl (pc0 := 152) (pc' := 156) rfl (hb hby at_152) (by decide) (by decide) ?_
      exact k)
  obtain ⟨T12, X12, e12, st12⟩ := own_join X11 (h := h0) (g := (mkF m 173 #[.val (.int p0), .val (.int p1), .val (.int (524288 : Int32)), .val (.int (134217728 : Int32)), .val (.int vN), .val (.int vM), .val (.int (p0 &&& (3 : Int32))), .val (.ref M), .val (.int EN), .val (.int EM), .val (.int ((p1 ||| ad) &&& (rem ^^^ (-1 : Int32)))), .val (.int (-134742017 : Int32)), .val (.int (1 : Int32)), .val (.int (1 : Int32)), .unset, .unset] [(.int (((p1 ||| ad) &&& (rem ^^^ (-1 : Int32))) &&& (134217728 : Int32)))])) (g' := (mkF m 181 #[.val (.int p0), .val (.int p1), .val (.int (524288 : Int32)), .val (.int (134217728 : Int32)), .val (.int vN), .val (.int vM), .val (.int (p0 &&& (3 : Int32))), .val (.ref M), .val (.int EN), .val (.int EM), .val (.int ((p1 ||| ad) &&& (rem ^^^ (-1 : Int32)))), .val (.int (-134742017 : Int32)), .val (.int (1 : Int32)), .val (.int (1 : Int32)), .unset, .unset] [(.int vM2)])) (by
    by_cases q : (((p1 ||| ad) &&& (rem ^^^ (-1 : Int32))) &&& (134217728 : Int32)) = (0 : Int32)
    · refine ⟨T11, X11, e11, fun target k => ?_⟩
      rw [hvM2, if_pos q] at k
      show Steps p.tables e below (T11.setTop (mkF m 173 #[.val (.int p0), .val (.int p1), .val (.int (524288 : Int32)), .val (.int (134217728 : Int32)), .val (.int vN), .val (.int vM), .val (.int (p0 &&& (3 : Int32))), .val (.ref M), .val (.int EN), .val (.int EM), .val (.int ((p1 ||| ad) &&& (rem ^^^ (-1 : Int32)))), .val (.int (-134742017 : Int32)), .val (.int (1 : Int32)), .val (.int (1 : Int32)), .unset, .unset] [(.int (((p1 ||| ad) &&& (rem ^^^ (-1 : Int32))) &&& (134217728 : Int32)))])) _
      refine XS.ifYes X11.here hx rfl (pc0 := 173) (pc' := 180) rfl (hb hby at_173) rfl ((if0 _ _).trans (teq q).1) (by decide) (by decide) ?_
      show Steps p.tables e below (T11.setTop (mkF m 180 #[.val (.int p0), .val (.int p1), .val (.int (524288 : Int32)), .val (.int (134217728 : Int32)), .val (.int vN), .val (.int vM), .val (.int (p0 &&& (3 : Int32))), .val (.ref M), .val (.int EN), .val (.int EM), .val (.int ((p1 ||| ad) &&& (rem ^^^ (-1 : Int32)))), .val (.int (-134742017 : Int32)), .val (.int (1 : Int32)), .val (.int (1 : Int32)), .unset, .unset] [])) _
      refine XS.iconst X11.here hx rfl (hb hby at_180) ?_
      exact k
    · refine ⟨T11, X11, e11, fun target k => ?_⟩
      rw [hvM2, if_neg q] at k
      show Steps p.tables e below (T11.setTop (mkF m 173 #[.val (.int p0), .val (.int p1), .val (.int (524288 : Int32)), .val (.int (134217728 : Int32)), .val (.int vN), .val (.int vM), .val (.int (p0 &&& (3 : Int32))), .val (.ref M), .val (.int EN), .val (.int EM), .val (.int ((p1 ||| ad) &&& (rem ^^^ (-1 : Int32)))), .val (.int (-134742017 : Int32)), .val (.int (1 : Int32)), .val (.int (1 : Int32)), .unset, .unset] [(.int (((p1 ||| ad) &&& (rem ^^^ (-1 : Int32))) &&& (134217728 : Int32)))])) _
      refine XS.ifNo X11.here hx rfl (hb hby at_173) rfl ((if0 _ _).trans (feq q).1) ?_
      show Steps p.tables e below (T11.setTop (mkF m 176 #[.val (.int p0), .val (.int p1), .val (.int (524288 : Int32)), .val (.int (134217728 : Int32)), .val (.int vN), .val (.int vM), .val (.int (p0 &&& (3 : Int32))), .val (.ref M), .val (.int EN), .val (.int EM), .val (.int ((p1 ||| ad) &&& (rem ^^^ (-1 : Int32)))), .val (.int (-134742017 : Int32)), .val (.int (1 : Int32)), .val (.int (1 : Int32)), .unset, .unset] [])) _
      refine XS.iconst X11.here hx rfl (hb hby at_176) ?_
      show Steps p.tables e below (T11.setTop (mkF m 177 #[.val (.int p0), .val (.int p1), .val (.int (524288 : Int32)), .val (.int (134217728 : Int32)), .val (.int vN), .val (.int vM), .val (.int (p0 &&& (3 : Int32))), .val (.ref M), .val (.int EN), .val (.int EM), .val (.int ((p1 ||| ad) &&& (rem ^^^ (-1 : Int32)))), .val (.int (-134742017 : Int32)), .val (.int (1 : Int32)), .val (.int (1 : Int32)), .unset, .unset] [(.int (1 : Int32))])) _
      refine XS.goto X11.here hx rfl (pc0 := 177) (pc' := 181) rfl (hb hby at_177) (by decide) (by decide) ?_
      exact k)
  obtain ⟨fs, hr, hrun, hended, hW, hsame⟩ := X12.leave (v := some (.int (1 : Int32))) (fun h => by rw [Bd.returns] at h; cases h)
  refine ⟨_, _, pre0 _ ?_, hrun, hended, _, _, rfl, ?_, ⟨_, rfl⟩, hW, hsame.mono (by decide) (by decide)⟩
  · show Steps p.tables e below (s₁.setTop (mkF m 0 #[.val (.int p0), .val (.int p1), .unset, .unset, .unset, .unset, .unset, .unset, .unset, .unset, .unset, .unset, .unset, .unset, .unset, .unset] [])) _
    refine X0.ldcI hx hown (mvT hZ (hw _ (List.mem_of_getElem? (i := 0) rfl))) (g := (mkF m 0 #[.val (.int p0), .val (.int p1), .unset, .unset, .unset, .unset, .unset, .unset, .unset, .unset, .unset, .unset, .unset, .unset, .unset, .unset] [])) rfl (hb hby at_0) ?_
    show Steps p.tables e below (s₁.setTop (mkF m 2 #[.val (.int p0), .val (.int p1), .unset, .unset, .unset, .unset, .unset, .unset, .unset, .unset, .unset, .unset, .unset, .unset, .unset, .unset] [(.int (524288 : Int32))])) _
    refine XS.istoreN X0.here hx rfl (hb hby at_2) rfl (l' := #[.val (.int p0), .val (.int p1), .val (.int (524288 : Int32)), .unset, .unset, .unset, .unset, .unset, .unset, .unset, .unset, .unset, .unset, .unset, .unset, .unset]) rfl ?_
    show Steps p.tables e below (s₁.setTop (mkF m 3 #[.val (.int p0), .val (.int p1), .val (.int (524288 : Int32)), .unset, .unset, .unset, .unset, .unset, .unset, .unset, .unset, .unset, .unset, .unset, .unset, .unset] [])) _
    refine X0.ldcI hx hown (mvT hZ (hw _ (List.mem_of_getElem? (i := 1) rfl))) (g := (mkF m 3 #[.val (.int p0), .val (.int p1), .val (.int (524288 : Int32)), .unset, .unset, .unset, .unset, .unset, .unset, .unset, .unset, .unset, .unset, .unset, .unset, .unset] [])) rfl (hb hby at_3) ?_
    show Steps p.tables e below (s₁.setTop (mkF m 5 #[.val (.int p0), .val (.int p1), .val (.int (524288 : Int32)), .unset, .unset, .unset, .unset, .unset, .unset, .unset, .unset, .unset, .unset, .unset, .unset, .unset] [(.int (134217728 : Int32))])) _
    refine XS.istoreN X0.here hx rfl (hb hby at_5) rfl (l' := #[.val (.int p0), .val (.int p1), .val (.int (524288 : Int32)), .val (.int (134217728 : Int32)), .unset, .unset, .unset, .unset, .unset, .unset, .unset, .unset, .unset, .unset, .unset, .unset]) rfl ?_
    show Steps p.tables e below (s₁.setTop (mkF m 6 #[.val (.int p0), .val (.int p1), .val (.int (524288 : Int32)), .val (.int (134217728 : Int32)), .unset, .unset, .unset, .unset, .unset, .unset, .unset, .unset, .unset, .unset, .unset, .unset] [])) _
    refine XS.iloadN X0.here hx rfl (hb hby at_6) rfl ?_
    show Steps p.tables e below (s₁.setTop (mkF m 7 #[.val (.int p0), .val (.int p1), .val (.int (524288 : Int32)), .val (.int (134217728 : Int32)), .unset, .unset, .unset, .unset, .unset, .unset, .unset, .unset, .unset, .unset, .unset, .unset] [(.int p1)])) _
    refine X0.ldcI hx hown (mvT hZ (hw _ (List.mem_of_getElem? (i := 0) rfl))) (g := (mkF m 7 #[.val (.int p0), .val (.int p1), .val (.int (524288 : Int32)), .val (.int (134217728 : Int32)), .unset, .unset, .unset, .unset, .unset, .unset, .unset, .unset, .unset, .unset, .unset, .unset] [(.int p1)])) rfl (hb hby at_7) ?_
    show Steps p.tables e below (s₁.setTop (mkF m 9 #[.val (.int p0), .val (.int p1), .val (.int (524288 : Int32)), .val (.int (134217728 : Int32)), .unset, .unset, .unset, .unset, .unset, .unset, .unset, .unset, .unset, .unset, .unset, .unset] [(.int (524288 : Int32)), (.int p1)])) _
    refine XS.iand X0.here hx rfl (hb hby at_9) rfl ?_
    show Steps p.tables e below (s₁.setTop (mkF m 10 #[.val (.int p0), .val (.int p1), .val (.int (524288 : Int32)), .val (.int (134217728 : Int32)), .unset, .unset, .unset, .unset, .unset, .unset, .unset, .unset, .unset, .unset, .unset, .unset] [(.int (p1 &&& (524288 : Int32)))])) _
    refine st3 _ ?_
    show Steps p.tables e below (T3.setTop (mkF m 18 #[.val (.int p0), .val (.int p1), .val (.int (524288 : Int32)), .val (.int (134217728 : Int32)), .unset, .unset, .unset, .unset, .unset, .unset, .unset, .unset, .unset, .unset, .unset, .unset] [(.int vN)])) _
    refine XS.istore X3.here hx rfl (hb hby at_18) rfl (l' := #[.val (.int p0), .val (.int p1), .val (.int (524288 : Int32)), .val (.int (134217728 : Int32)), .val (.int vN), .unset, .unset, .unset, .unset, .unset, .unset, .unset, .unset, .unset, .unset, .unset]) rfl ?_
    show Steps p.tables e below (T3.setTop (mkF m 20 #[.val (.int p0), .val (.int p1), .val (.int (524288 : Int32)), .val (.int (134217728 : Int32)), .val (.int vN), .unset, .unset, .unset, .unset, .unset, .unset, .unset, .unset, .unset, .unset, .unset] [])) _
    refine XS.iloadN X3.here hx rfl (hb hby at_20) rfl ?_
    show Steps p.tables e below (T3.setTop (mkF m 21 #[.val (.int p0), .val (.int p1), .val (.int (524288 : Int32)), .val (.int (134217728 : Int32)), .val (.int vN), .unset, .unset, .unset, .unset, .unset, .unset, .unset, .unset, .unset, .unset, .unset] [(.int p1)])) _
    refine X3.ldcI hx hown (mvT hZ (hw _ (List.mem_of_getElem? (i := 1) rfl))) (g := (mkF m 21 #[.val (.int p0), .val (.int p1), .val (.int (524288 : Int32)), .val (.int (134217728 : Int32)), .val (.int vN), .unset, .unset, .unset, .unset, .unset, .unset, .unset, .unset, .unset, .unset, .unset] [(.int p1)])) rfl (hb hby at_21) ?_
    show Steps p.tables e below (T3.setTop (mkF m 23 #[.val (.int p0), .val (.int p1), .val (.int (524288 : Int32)), .val (.int (134217728 : Int32)), .val (.int vN), .unset, .unset, .unset, .unset, .unset, .unset, .unset, .unset, .unset, .unset, .unset] [(.int (134217728 : Int32)), (.int p1)])) _
    refine XS.iand X3.here hx rfl (hb hby at_23) rfl ?_
    show Steps p.tables e below (T3.setTop (mkF m 24 #[.val (.int p0), .val (.int p1), .val (.int (524288 : Int32)), .val (.int (134217728 : Int32)), .val (.int vN), .unset, .unset, .unset, .unset, .unset, .unset, .unset, .unset, .unset, .unset, .unset] [(.int (p1 &&& (134217728 : Int32)))])) _
    refine st4 _ ?_
    show Steps p.tables e below (T4.setTop (mkF m 32 #[.val (.int p0), .val (.int p1), .val (.int (524288 : Int32)), .val (.int (134217728 : Int32)), .val (.int vN), .unset, .unset, .unset, .unset, .unset, .unset, .unset, .unset, .unset, .unset, .unset] [(.int vM)])) _
    refine XS.istore X4.here hx rfl (hb hby at_32) rfl (l' := #[.val (.int p0), .val (.int p1), .val (.int (524288 : Int32)), .val (.int (134217728 : Int32)), .val (.int vN), .val (.int vM), .unset, .unset, .unset, .unset, .unset, .unset, .unset, .unset, .unset, .unset]) rfl ?_
    show Steps p.tables e below (T4.setTop (mkF m 34 #[.val (.int p0), .val (.int p1), .val (.int (524288 : Int32)), .val (.int (134217728 : Int32)), .val (.int vN), .val (.int vM), .unset, .unset, .unset, .unset, .unset, .unset, .unset, .unset, .unset, .unset] [])) _
    refine XS.iloadN X4.here hx rfl (hb hby at_34) rfl ?_
    show Steps p.tables e below (T4.setTop (mkF m 35 #[.val (.int p0), .val (.int p1), .val (.int (524288 : Int32)), .val (.int (134217728 : Int32)), .val (.int vN), .val (.int vM), .unset, .unset, .unset, .unset, .unset, .unset, .unset, .unset, .unset, .unset] [(.int p0)])) _
    refine XS.iconst X4.here hx rfl (hb hby at_35) ?_
    show Steps p.tables e below (T4.setTop (mkF m 36 #[.val (.int p0), .val (.int p1), .val (.int (524288 : Int32)), .val (.int (134217728 : Int32)), .val (.int vN), .val (.int vM), .unset, .unset, .unset, .unset, .unset, .unset, .unset, .unset, .unset, .unset] [(.int (3 : Int32)), (.int p0)])) _
    refine XS.iand X4.here hx rfl (hb hby at_36) rfl ?_
    show Steps p.tables e below (T4.setTop (mkF m 37 #[.val (.int p0), .val (.int p1), .val (.int (524288 : Int32)), .val (.int (134217728 : Int32)), .val (.int vN), .val (.int vM), .unset, .unset, .unset, .unset, .unset, .unset, .unset, .unset, .unset, .unset] [(.int (p0 &&& (3 : Int32)))])) _
    refine XS.istore X4.here hx rfl (hb hby at_37) rfl (l' := #[.val (.int p0), .val (.int p1), .val (.int (524288 : Int32)), .val (.int (134217728 : Int32)), .val (.int vN), .val (.int vM), .val (.int (p0 &&& (3 : Int32))), .unset, .unset, .unset, .unset, .unset, .unset, .unset, .unset, .unset]) rfl ?_
    show Steps p.tables e below (T4.setTop (mkF m 39 #[.val (.int p0), .val (.int p1), .val (.int (524288 : Int32)), .val (.int (134217728 : Int32)), .val (.int vN), .val (.int vM), .val (.int (p0 &&& (3 : Int32))), .unset, .unset, .unset, .unset, .unset, .unset, .unset, .unset, .unset] [])) _
    refine XS.iload X4.here hx rfl (hb hby at_39) rfl ?_
    show Steps p.tables e below (T4.setTop (mkF m 41 #[.val (.int p0), .val (.int p1), .val (.int (524288 : Int32)), .val (.int (134217728 : Int32)), .val (.int vN), .val (.int vM), .val (.int (p0 &&& (3 : Int32))), .unset, .unset, .unset, .unset, .unset, .unset, .unset, .unset, .unset] [(.int (p0 &&& (3 : Int32)))])) _
    refine st5 _ ?_
    show Steps p.tables e below (T5.setTop (mkF m 112 #[.val (.int p0), .val (.int p1), .val (.int (524288 : Int32)), .val (.int (134217728 : Int32)), .val (.int vN), .val (.int vM), .val (.int (p0 &&& (3 : Int32))), .val (.ref M), .val (.int EN), .val (.int EM), .unset, .unset, .unset, .unset, .unset, .unset] [])) _
    refine XS.aload X5.here hx rfl (hb hby at_112) rfl rfl ?_
    show Steps p.tables e below (T5.setTop (mkF m 114 #[.val (.int p0), .val (.int p1), .val (.int (524288 : Int32)), .val (.int (134217728 : Int32)), .val (.int vN), .val (.int vM), .val (.int (p0 &&& (3 : Int32))), .val (.ref M), .val (.int EN), .val (.int EM), .unset, .unset, .unset, .unset, .unset, .unset] [(.ref M)])) _
    refine XS.iloadN X5.here hx rfl (hb hby at_114) rfl ?_
    show Steps p.tables e below (T5.setTop (mkF m 115 #[.val (.int p0), .val (.int p1), .val (.int (524288 : Int32)), .val (.int (134217728 : Int32)), .val (.int vN), .val (.int vM), .val (.int (p0 &&& (3 : Int32))), .val (.ref M), .val (.int EN), .val (.int EM), .unset, .unset, .unset, .unset, .unset, .unset] [(.int p1), (.ref M)])) _
    refine st10.trans ?_
    show Steps p.tables e below (T10.setTop (mkF m 118 #[.val (.int p0), .val (.int p1), .val (.int (524288 : Int32)), .val (.int (134217728 : Int32)), .val (.int vN), .val (.int vM), .val (.int (p0 &&& (3 : Int32))), .val (.ref M), .val (.int EN), .val (.int EM), .unset, .unset, .unset, .unset, .unset, .unset] [(.int ((p1 ||| ad) &&& (rem ^^^ (-1 : Int32))))])) _
    refine XS.istore X10.here hx rfl (hb hby at_118) rfl (l' := #[.val (.int p0), .val (.int p1), .val (.int (524288 : Int32)), .val (.int (134217728 : Int32)), .val (.int vN), .val (.int vM), .val (.int (p0 &&& (3 : Int32))), .val (.ref M), .val (.int EN), .val (.int EM), .val (.int ((p1 ||| ad) &&& (rem ^^^ (-1 : Int32)))), .unset, .unset, .unset, .unset, .unset]) rfl ?_
    show Steps p.tables e below (T10.setTop (mkF m 120 #[.val (.int p0), .val (.int p1), .val (.int (524288 : Int32)), .val (.int (134217728 : Int32)), .val (.int vN), .val (.int vM), .val (.int (p0 &&& (3 : Int32))), .val (.ref M), .val (.int EN), .val (.int EM), .val (.int ((p1 ||| ad) &&& (rem ^^^ (-1 : Int32)))), .unset, .unset, .unset, .unset, .unset] [])) _
    refine X10.ldcI hx hown (mvT hZ (hw _ (List.mem_of_getElem? (i := 14) rfl))) (g := (mkF m 120 #[.val (.int p0), .val (.int p1), .val (.int (524288 : Int32)), .val (.int (134217728 : Int32)), .val (.int vN), .val (.int vM), .val (.int (p0 &&& (3 : Int32))), .val (.ref M), .val (.int EN), .val (.int EM), .val (.int ((p1 ||| ad) &&& (rem ^^^ (-1 : Int32)))), .unset, .unset, .unset, .unset, .unset] [])) rfl (hb hby at_120) ?_
    show Steps p.tables e below (T10.setTop (mkF m 122 #[.val (.int p0), .val (.int p1), .val (.int (524288 : Int32)), .val (.int (134217728 : Int32)), .val (.int vN), .val (.int vM), .val (.int (p0 &&& (3 : Int32))), .val (.ref M), .val (.int EN), .val (.int EM), .val (.int ((p1 ||| ad) &&& (rem ^^^ (-1 : Int32)))), .unset, .unset, .unset, .unset, .unset] [(.int (-134742017 : Int32))])) _
    refine XS.istore X10.here hx rfl (hb hby at_122) rfl (l' := #[.val (.int p0), .val (.int p1), .val (.int (524288 : Int32)), .val (.int (134217728 : Int32)), .val (.int vN), .val (.int vM), .val (.int (p0 &&& (3 : Int32))), .val (.ref M), .val (.int EN), .val (.int EM), .val (.int ((p1 ||| ad) &&& (rem ^^^ (-1 : Int32)))), .val (.int (-134742017 : Int32)), .unset, .unset, .unset, .unset]) rfl ?_
    show Steps p.tables e below (T10.setTop (mkF m 124 #[.val (.int p0), .val (.int p1), .val (.int (524288 : Int32)), .val (.int (134217728 : Int32)), .val (.int vN), .val (.int vM), .val (.int (p0 &&& (3 : Int32))), .val (.ref M), .val (.int EN), .val (.int EM), .val (.int ((p1 ||| ad) &&& (rem ^^^ (-1 : Int32)))), .val (.int (-134742017 : Int32)), .unset, .unset, .unset, .unset] [])) _
    refine XS.iload X10.here hx rfl (hb hby at_124) rfl ?_
    show Steps p.tables e below (T10.setTop (mkF m 126 #[.val (.int p0), .val (.int p1), .val (.int (524288 : Int32)), .val (.int (134217728 : Int32)), .val (.int vN), .val (.int vM), .val (.int (p0 &&& (3 : Int32))), .val (.ref M), .val (.int EN), .val (.int EM), .val (.int ((p1 ||| ad) &&& (rem ^^^ (-1 : Int32)))), .val (.int (-134742017 : Int32)), .unset, .unset, .unset, .unset] [(.int ((p1 ||| ad) &&& (rem ^^^ (-1 : Int32))))])) _
    refine XS.iload X10.here hx rfl (hb hby at_126) rfl ?_
    show Steps p.tables e below (T10.setTop (mkF m 128 #[.val (.int p0), .val (.int p1), .val (.int (524288 : Int32)), .val (.int (134217728 : Int32)), .val (.int vN), .val (.int vM), .val (.int (p0 &&& (3 : Int32))), .val (.ref M), .val (.int EN), .val (.int EM), .val (.int ((p1 ||| ad) &&& (rem ^^^ (-1 : Int32)))), .val (.int (-134742017 : Int32)), .unset, .unset, .unset, .unset] [(.int (-134742017 : Int32)), (.int ((p1 ||| ad) &&& (rem ^^^ (-1 : Int32))))])) _
    refine XS.iand X10.here hx rfl (hb hby at_128) rfl ?_
    show Steps p.tables e below (T10.setTop (mkF m 129 #[.val (.int p0), .val (.int p1), .val (.int (524288 : Int32)), .val (.int (134217728 : Int32)), .val (.int vN), .val (.int vM), .val (.int (p0 &&& (3 : Int32))), .val (.ref M), .val (.int EN), .val (.int EM), .val (.int ((p1 ||| ad) &&& (rem ^^^ (-1 : Int32)))), .val (.int (-134742017 : Int32)), .unset, .unset, .unset, .unset] [(.int (((p1 ||| ad) &&& (rem ^^^ (-1 : Int32))) &&& (-134742017 : Int32)))])) _
    refine XS.iloadN X10.here hx rfl (hb hby at_129) rfl ?_
    show Steps p.tables e below (T10.setTop (mkF m 130 #[.val (.int p0), .val (.int p1), .val (.int (524288 : Int32)), .val (.int (134217728 : Int32)), .val (.int vN), .val (.int vM), .val (.int (p0 &&& (3 : Int32))), .val (.ref M), .val (.int EN), .val (.int EM), .val (.int ((p1 ||| ad) &&& (rem ^^^ (-1 : Int32)))), .val (.int (-134742017 : Int32)), .unset, .unset, .unset, .unset] [(.int p1), (.int (((p1 ||| ad) &&& (rem ^^^ (-1 : Int32))) &&& (-134742017 : Int32)))])) _
    refine XS.iload X10.here hx rfl (hb hby at_130) rfl ?_
    show Steps p.tables e below (T10.setTop (mkF m 132 #[.val (.int p0), .val (.int p1), .val (.int (524288 : Int32)), .val (.int (134217728 : Int32)), .val (.int vN), .val (.int vM), .val (.int (p0 &&& (3 : Int32))), .val (.ref M), .val (.int EN), .val (.int EM), .val (.int ((p1 ||| ad) &&& (rem ^^^ (-1 : Int32)))), .val (.int (-134742017 : Int32)), .unset, .unset, .unset, .unset] [(.int (-134742017 : Int32)), (.int p1), (.int (((p1 ||| ad) &&& (rem ^^^ (-1 : Int32))) &&& (-134742017 : Int32)))])) _
    refine XS.iand X10.here hx rfl (hb hby at_132) rfl ?_
    show Steps p.tables e below (T10.setTop (mkF m 133 #[.val (.int p0), .val (.int p1), .val (.int (524288 : Int32)), .val (.int (134217728 : Int32)), .val (.int vN), .val (.int vM), .val (.int (p0 &&& (3 : Int32))), .val (.ref M), .val (.int EN), .val (.int EM), .val (.int ((p1 ||| ad) &&& (rem ^^^ (-1 : Int32)))), .val (.int (-134742017 : Int32)), .unset, .unset, .unset, .unset] [(.int (p1 &&& (-134742017 : Int32))), (.int (((p1 ||| ad) &&& (rem ^^^ (-1 : Int32))) &&& (-134742017 : Int32)))])) _
    refine XS.icmpNo X10.here hx rfl (hb hby at_133) rfl (teq hO).2 ?_
    show Steps p.tables e below (T10.setTop (mkF m 136 #[.val (.int p0), .val (.int p1), .val (.int (524288 : Int32)), .val (.int (134217728 : Int32)), .val (.int vN), .val (.int vM), .val (.int (p0 &&& (3 : Int32))), .val (.ref M), .val (.int EN), .val (.int EM), .val (.int ((p1 ||| ad) &&& (rem ^^^ (-1 : Int32)))), .val (.int (-134742017 : Int32)), .unset, .unset, .unset, .unset] [])) _
    refine XS.iconst X10.here hx rfl (hb hby at_136) ?_
    show Steps p.tables e below (T10.setTop (mkF m 137 #[.val (.int p0), .val (.int p1), .val (.int (524288 : Int32)), .val (.int (134217728 : Int32)), .val (.int vN), .val (.int vM), .val (.int (p0 &&& (3 : Int32))), .val (.ref M), .val (.int EN), .val (.int EM), .val (.int ((p1 ||| ad) &&& (rem ^^^ (-1 : Int32)))), .val (.int (-134742017 : Int32)), .unset, .unset, .unset, .unset] [(.int (1 : Int32))])) _
    refine XS.goto X10.here hx rfl (pc0 := 137) (pc' := 141) rfl (hb hby at_137) (by decide) (by decide) ?_
    show Steps p.tables e below (T10.setTop (mkF m 141 #[.val (.int p0), .val (.int p1), .val (.int (524288 : Int32)), .val (.int (134217728 : Int32)), .val (.int vN), .val (.int vM), .val (.int (p0 &&& (3 : Int32))), .val (.ref M), .val (.int EN), .val (.int EM), .val (.int ((p1 ||| ad) &&& (rem ^^^ (-1 : Int32)))), .val (.int (-134742017 : Int32)), .unset, .unset, .unset, .unset] [(.int (1 : Int32))])) _
    refine XS.istore X10.here hx rfl (hb hby at_141) rfl (l' := #[.val (.int p0), .val (.int p1), .val (.int (524288 : Int32)), .val (.int (134217728 : Int32)), .val (.int vN), .val (.int vM), .val (.int (p0 &&& (3 : Int32))), .val (.ref M), .val (.int EN), .val (.int EM), .val (.int ((p1 ||| ad) &&& (rem ^^^ (-1 : Int32)))), .val (.int (-134742017 : Int32)), .val (.int (1 : Int32)), .unset, .unset, .unset]) rfl ?_
    show Steps p.tables e below (T10.setTop (mkF m 143 #[.val (.int p0), .val (.int p1), .val (.int (524288 : Int32)), .val (.int (134217728 : Int32)), .val (.int vN), .val (.int vM), .val (.int (p0 &&& (3 : Int32))), .val (.ref M), .val (.int EN), .val (.int EM), .val (.int ((p1 ||| ad) &&& (rem ^^^ (-1 : Int32)))), .val (.int (-134742017 : Int32)), .val (.int (1 : Int32)), .unset, .unset, .unset] [])) _
    refine XS.iload X10.here hx rfl (hb hby at_143) rfl ?_
    show Steps p.tables e below (T10.setTop (mkF m 145 #[.val (.int p0), .val (.int p1), .val (.int (524288 : Int32)), .val (.int (134217728 : Int32)), .val (.int vN), .val (.int vM), .val (.int (p0 &&& (3 : Int32))), .val (.ref M), .val (.int EN), .val (.int EM), .val (.int ((p1 ||| ad) &&& (rem ^^^ (-1 : Int32)))), .val (.int (-134742017 : Int32)), .val (.int (1 : Int32)), .unset, .unset, .unset] [(.int ((p1 ||| ad) &&& (rem ^^^ (-1 : Int32))))])) _
    refine X10.ldcI hx hown (mvT hZ (hw _ (List.mem_of_getElem? (i := 0) rfl))) (g := (mkF m 145 #[.val (.int p0), .val (.int p1), .val (.int (524288 : Int32)), .val (.int (134217728 : Int32)), .val (.int vN), .val (.int vM), .val (.int (p0 &&& (3 : Int32))), .val (.ref M), .val (.int EN), .val (.int EM), .val (.int ((p1 ||| ad) &&& (rem ^^^ (-1 : Int32)))), .val (.int (-134742017 : Int32)), .val (.int (1 : Int32)), .unset, .unset, .unset] [(.int ((p1 ||| ad) &&& (rem ^^^ (-1 : Int32))))])) rfl (hb hby at_145) ?_
    show Steps p.tables e below (T10.setTop (mkF m 147 #[.val (.int p0), .val (.int p1), .val (.int (524288 : Int32)), .val (.int (134217728 : Int32)), .val (.int vN), .val (.int vM), .val (.int (p0 &&& (3 : Int32))), .val (.ref M), .val (.int EN), .val (.int EM), .val (.int ((p1 ||| ad) &&& (rem ^^^ (-1 : Int32)))), .val (.int (-134742017 : Int32)), .val (.int (1 : Int32)), .unset, .unset, .unset] [(.int (524288 : Int32)), (.int ((p1 ||| ad) &&& (rem ^^^ (-1 : Int32))))])) _
    refine XS.iand X10.here hx rfl (hb hby at_147) rfl ?_
    show Steps p.tables e below (T10.setTop (mkF m 148 #[.val (.int p0), .val (.int p1), .val (.int (524288 : Int32)), .val (.int (134217728 : Int32)), .val (.int vN), .val (.int vM), .val (.int (p0 &&& (3 : Int32))), .val (.ref M), .val (.int EN), .val (.int EM), .val (.int ((p1 ||| ad) &&& (rem ^^^ (-1 : Int32)))), .val (.int (-134742017 : Int32)), .val (.int (1 : Int32)), .unset, .unset, .unset] [(.int (((p1 ||| ad) &&& (rem ^^^ (-1 : Int32))) &&& (524288 : Int32)))])) _
    refine st11 _ ?_
    show Steps p.tables e below (T11.setTop (mkF m 156 #[.val (.int p0), .val (.int p1), .val (.int (524288 : Int32)), .val (.int (134217728 : Int32)), .val (.int vN), .val (.int vM), .val (.int (p0 &&& (3 : Int32))), .val (.ref M), .val (.int EN), .val (.int EM), .val (.int ((p1 ||| ad) &&& (rem ^^^ (-1 : Int32)))), .val (.int (-134742017 : Int32)), .val (.int (1 : Int32)), .unset, .unset, .unset] [(.int vN2)])) _
    refine XS.iload X11.here hx rfl (hb hby at_156) rfl ?_
    show Steps p.tables e below (T11.setTop (mkF m 158 #[.val (.int p0), .val (.int p1), .val (.int (524288 : Int32)), .val (.int (134217728 : Int32)), .val (.int vN), .val (.int vM), .val (.int (p0 &&& (3 : Int32))), .val (.ref M), .val (.int EN), .val (.int EM), .val (.int ((p1 ||| ad) &&& (rem ^^^ (-1 : Int32)))), .val (.int (-134742017 : Int32)), .val (.int (1 : Int32)), .unset, .unset, .unset] [(.int EN), (.int vN2)])) _
    refine XS.icmpNo X11.here hx rfl (hb hby at_158) rfl (teq hN).2 ?_
    show Steps p.tables e below (T11.setTop (mkF m 161 #[.val (.int p0), .val (.int p1), .val (.int (524288 : Int32)), .val (.int (134217728 : Int32)), .val (.int vN), .val (.int vM), .val (.int (p0 &&& (3 : Int32))), .val (.ref M), .val (.int EN), .val (.int EM), .val (.int ((p1 ||| ad) &&& (rem ^^^ (-1 : Int32)))), .val (.int (-134742017 : Int32)), .val (.int (1 : Int32)), .unset, .unset, .unset] [])) _
    refine XS.iconst X11.here hx rfl (hb hby at_161) ?_
    show Steps p.tables e below (T11.setTop (mkF m 162 #[.val (.int p0), .val (.int p1), .val (.int (524288 : Int32)), .val (.int (134217728 : Int32)), .val (.int vN), .val (.int vM), .val (.int (p0 &&& (3 : Int32))), .val (.ref M), .val (.int EN), .val (.int EM), .val (.int ((p1 ||| ad) &&& (rem ^^^ (-1 : Int32)))), .val (.int (-134742017 : Int32)), .val (.int (1 : Int32)), .unset, .unset, .unset] [(.int (1 : Int32))])) _
    refine XS.goto X11.here hx rfl (pc0 := 162) (pc' := 166) rfl (hb hby at_162) (by decide) (by decide) ?_
    show Steps p.tables e below (T11.setTop (mkF m 166 #[.val (.int p0), .val (.int p1), .val (.int (524288 : Int32)), .val (.int (134217728 : Int32)), .val (.int vN), .val (.int vM), .val (.int (p0 &&& (3 : Int32))), .val (.ref M), .val (.int EN), .val (.int EM), .val (.int ((p1 ||| ad) &&& (rem ^^^ (-1 : Int32)))), .val (.int (-134742017 : Int32)), .val (.int (1 : Int32)), .unset, .unset, .unset] [(.int (1 : Int32))])) _
    refine XS.istore X11.here hx rfl (hb hby at_166) rfl (l' := #[.val (.int p0), .val (.int p1), .val (.int (524288 : Int32)), .val (.int (134217728 : Int32)), .val (.int vN), .val (.int vM), .val (.int (p0 &&& (3 : Int32))), .val (.ref M), .val (.int EN), .val (.int EM), .val (.int ((p1 ||| ad) &&& (rem ^^^ (-1 : Int32)))), .val (.int (-134742017 : Int32)), .val (.int (1 : Int32)), .val (.int (1 : Int32)), .unset, .unset]) rfl ?_
    show Steps p.tables e below (T11.setTop (mkF m 168 #[.val (.int p0), .val (.int p1), .val (.int (524288 : Int32)), .val (.int (134217728 : Int32)), .val (.int vN), .val (.int vM), .val (.int (p0 &&& (3 : Int32))), .val (.ref M), .val (.int EN), .val (.int EM), .val (.int ((p1 ||| ad) &&& (rem ^^^ (-1 : Int32)))), .val (.int (-134742017 : Int32)), .val (.int (1 : Int32)), .val (.int (1 : Int32)), .unset, .unset] [])) _
    refine XS.iload X11.here hx rfl (hb hby at_168) rfl ?_
    show Steps p.tables e below (T11.setTop (mkF m 170 #[.val (.int p0), .val (.int p1), .val (.int (524288 : Int32)), .val (.int (134217728 : Int32)), .val (.int vN), .val (.int vM), .val (.int (p0 &&& (3 : Int32))), .val (.ref M), .val (.int EN), .val (.int EM), .val (.int ((p1 ||| ad) &&& (rem ^^^ (-1 : Int32)))), .val (.int (-134742017 : Int32)), .val (.int (1 : Int32)), .val (.int (1 : Int32)), .unset, .unset] [(.int ((p1 ||| ad) &&& (rem ^^^ (-1 : Int32))))])) _
    refine X11.ldcI hx hown (mvT hZ (hw _ (List.mem_of_getElem? (i := 1) rfl))) (g := (mkF m 170 #[.val (.int p0), .val (.int p1), .val (.int (524288 : Int32)), .val (.int (134217728 : Int32)), .val (.int vN), .val (.int vM), .val (.int (p0 &&& (3 : Int32))), .val (.ref M), .val (.int EN), .val (.int EM), .val (.int ((p1 ||| ad) &&& (rem ^^^ (-1 : Int32)))), .val (.int (-134742017 : Int32)), .val (.int (1 : Int32)), .val (.int (1 : Int32)), .unset, .unset] [(.int ((p1 ||| ad) &&& (rem ^^^ (-1 : Int32))))])) rfl (hb hby at_170) ?_
    show Steps p.tables e below (T11.setTop (mkF m 172 #[.val (.int p0), .val (.int p1), .val (.int (524288 : Int32)), .val (.int (134217728 : Int32)), .val (.int vN), .val (.int vM), .val (.int (p0 &&& (3 : Int32))), .val (.ref M), .val (.int EN), .val (.int EM), .val (.int ((p1 ||| ad) &&& (rem ^^^ (-1 : Int32)))), .val (.int (-134742017 : Int32)), .val (.int (1 : Int32)), .val (.int (1 : Int32)), .unset, .unset] [(.int (134217728 : Int32)), (.int ((p1 ||| ad) &&& (rem ^^^ (-1 : Int32))))])) _
    refine XS.iand X11.here hx rfl (hb hby at_172) rfl ?_
    show Steps p.tables e below (T11.setTop (mkF m 173 #[.val (.int p0), .val (.int p1), .val (.int (524288 : Int32)), .val (.int (134217728 : Int32)), .val (.int vN), .val (.int vM), .val (.int (p0 &&& (3 : Int32))), .val (.ref M), .val (.int EN), .val (.int EM), .val (.int ((p1 ||| ad) &&& (rem ^^^ (-1 : Int32)))), .val (.int (-134742017 : Int32)), .val (.int (1 : Int32)), .val (.int (1 : Int32)), .unset, .unset] [(.int (((p1 ||| ad) &&& (rem ^^^ (-1 : Int32))) &&& (134217728 : Int32)))])) _
    refine st12 _ ?_
    show Steps p.tables e below (T12.setTop (mkF m 181 #[.val (.int p0), .val (.int p1), .val (.int (524288 : Int32)), .val (.int (134217728 : Int32)), .val (.int vN), .val (.int vM), .val (.int (p0 &&& (3 : Int32))), .val (.ref M), .val (.int EN), .val (.int EM), .val (.int ((p1 ||| ad) &&& (rem ^^^ (-1 : Int32)))), .val (.int (-134742017 : Int32)), .val (.int (1 : Int32)), .val (.int (1 : Int32)), .unset, .unset] [(.int vM2)])) _
    refine XS.iload X12.here hx rfl (hb hby at_181) rfl ?_
    show Steps p.tables e below (T12.setTop (mkF m 183 #[.val (.int p0), .val (.int p1), .val (.int (524288 : Int32)), .val (.int (134217728 : Int32)), .val (.int vN), .val (.int vM), .val (.int (p0 &&& (3 : Int32))), .val (.ref M), .val (.int EN), .val (.int EM), .val (.int ((p1 ||| ad) &&& (rem ^^^ (-1 : Int32)))), .val (.int (-134742017 : Int32)), .val (.int (1 : Int32)), .val (.int (1 : Int32)), .unset, .unset] [(.int EM), (.int vM2)])) _
    refine XS.icmpNo X12.here hx rfl (hb hby at_183) rfl (teq hMm).2 ?_
    show Steps p.tables e below (T12.setTop (mkF m 186 #[.val (.int p0), .val (.int p1), .val (.int (524288 : Int32)), .val (.int (134217728 : Int32)), .val (.int vN), .val (.int vM), .val (.int (p0 &&& (3 : Int32))), .val (.ref M), .val (.int EN), .val (.int EM), .val (.int ((p1 ||| ad) &&& (rem ^^^ (-1 : Int32)))), .val (.int (-134742017 : Int32)), .val (.int (1 : Int32)), .val (.int (1 : Int32)), .unset, .unset] [])) _
    refine XS.iconst X12.here hx rfl (hb hby at_186) ?_
    show Steps p.tables e below (T12.setTop (mkF m 187 #[.val (.int p0), .val (.int p1), .val (.int (524288 : Int32)), .val (.int (134217728 : Int32)), .val (.int vN), .val (.int vM), .val (.int (p0 &&& (3 : Int32))), .val (.ref M), .val (.int EN), .val (.int EM), .val (.int ((p1 ||| ad) &&& (rem ^^^ (-1 : Int32)))), .val (.int (-134742017 : Int32)), .val (.int (1 : Int32)), .val (.int (1 : Int32)), .unset, .unset] [(.int (1 : Int32))])) _
    refine XS.goto X12.here hx rfl (pc0 := 187) (pc' := 191) rfl (hb hby at_187) (by decide) (by decide) ?_
    show Steps p.tables e below (T12.setTop (mkF m 191 #[.val (.int p0), .val (.int p1), .val (.int (524288 : Int32)), .val (.int (134217728 : Int32)), .val (.int vN), .val (.int vM), .val (.int (p0 &&& (3 : Int32))), .val (.ref M), .val (.int EN), .val (.int EM), .val (.int ((p1 ||| ad) &&& (rem ^^^ (-1 : Int32)))), .val (.int (-134742017 : Int32)), .val (.int (1 : Int32)), .val (.int (1 : Int32)), .unset, .unset] [(.int (1 : Int32))])) _
    refine XS.istore X12.here hx rfl (hb hby at_191) rfl (l' := #[.val (.int p0), .val (.int p1), .val (.int (524288 : Int32)), .val (.int (134217728 : Int32)), .val (.int vN), .val (.int vM), .val (.int (p0 &&& (3 : Int32))), .val (.ref M), .val (.int EN), .val (.int EM), .val (.int ((p1 ||| ad) &&& (rem ^^^ (-1 : Int32)))), .val (.int (-134742017 : Int32)), .val (.int (1 : Int32)), .val (.int (1 : Int32)), .val (.int (1 : Int32)), .unset]) rfl ?_
    show Steps p.tables e below (T12.setTop (mkF m 193 #[.val (.int p0), .val (.int p1), .val (.int (524288 : Int32)), .val (.int (134217728 : Int32)), .val (.int vN), .val (.int vM), .val (.int (p0 &&& (3 : Int32))), .val (.ref M), .val (.int EN), .val (.int EM), .val (.int ((p1 ||| ad) &&& (rem ^^^ (-1 : Int32)))), .val (.int (-134742017 : Int32)), .val (.int (1 : Int32)), .val (.int (1 : Int32)), .val (.int (1 : Int32)), .unset] [])) _
    refine XS.iloadN X12.here hx rfl (hb hby at_193) rfl ?_
    show Steps p.tables e below (T12.setTop (mkF m 194 #[.val (.int p0), .val (.int p1), .val (.int (524288 : Int32)), .val (.int (134217728 : Int32)), .val (.int vN), .val (.int vM), .val (.int (p0 &&& (3 : Int32))), .val (.ref M), .val (.int EN), .val (.int EM), .val (.int ((p1 ||| ad) &&& (rem ^^^ (-1 : Int32)))), .val (.int (-134742017 : Int32)), .val (.int (1 : Int32)), .val (.int (1 : Int32)), .val (.int (1 : Int32)), .unset] [(.int (524288 : Int32))])) _
    refine X12.ldcI hx hown (mvT hZ (hw _ (List.mem_of_getElem? (i := 0) rfl))) (g := (mkF m 194 #[.val (.int p0), .val (.int p1), .val (.int (524288 : Int32)), .val (.int (134217728 : Int32)), .val (.int vN), .val (.int vM), .val (.int (p0 &&& (3 : Int32))), .val (.ref M), .val (.int EN), .val (.int EM), .val (.int ((p1 ||| ad) &&& (rem ^^^ (-1 : Int32)))), .val (.int (-134742017 : Int32)), .val (.int (1 : Int32)), .val (.int (1 : Int32)), .val (.int (1 : Int32)), .unset] [(.int (524288 : Int32))])) rfl (hb hby at_194) ?_
    show Steps p.tables e below (T12.setTop (mkF m 196 #[.val (.int p0), .val (.int p1), .val (.int (524288 : Int32)), .val (.int (134217728 : Int32)), .val (.int vN), .val (.int vM), .val (.int (p0 &&& (3 : Int32))), .val (.ref M), .val (.int EN), .val (.int EM), .val (.int ((p1 ||| ad) &&& (rem ^^^ (-1 : Int32)))), .val (.int (-134742017 : Int32)), .val (.int (1 : Int32)), .val (.int (1 : Int32)), .val (.int (1 : Int32)), .unset] [(.int (524288 : Int32)), (.int (524288 : Int32))])) _
    refine XS.icmpNo X12.here hx rfl (hb hby at_196) rfl (teq (rfl : (524288 : Int32) = (524288 : Int32))).2 ?_
    show Steps p.tables e below (T12.setTop (mkF m 199 #[.val (.int p0), .val (.int p1), .val (.int (524288 : Int32)), .val (.int (134217728 : Int32)), .val (.int vN), .val (.int vM), .val (.int (p0 &&& (3 : Int32))), .val (.ref M), .val (.int EN), .val (.int EM), .val (.int ((p1 ||| ad) &&& (rem ^^^ (-1 : Int32)))), .val (.int (-134742017 : Int32)), .val (.int (1 : Int32)), .val (.int (1 : Int32)), .val (.int (1 : Int32)), .unset] [])) _
    refine XS.iloadN X12.here hx rfl (hb hby at_199) rfl ?_
    show Steps p.tables e below (T12.setTop (mkF m 200 #[.val (.int p0), .val (.int p1), .val (.int (524288 : Int32)), .val (.int (134217728 : Int32)), .val (.int vN), .val (.int vM), .val (.int (p0 &&& (3 : Int32))), .val (.ref M), .val (.int EN), .val (.int EM), .val (.int ((p1 ||| ad) &&& (rem ^^^ (-1 : Int32)))), .val (.int (-134742017 : Int32)), .val (.int (1 : Int32)), .val (.int (1 : Int32)), .val (.int (1 : Int32)), .unset] [(.int (134217728 : Int32))])) _
    refine X12.ldcI hx hown (mvT hZ (hw _ (List.mem_of_getElem? (i := 1) rfl))) (g := (mkF m 200 #[.val (.int p0), .val (.int p1), .val (.int (524288 : Int32)), .val (.int (134217728 : Int32)), .val (.int vN), .val (.int vM), .val (.int (p0 &&& (3 : Int32))), .val (.ref M), .val (.int EN), .val (.int EM), .val (.int ((p1 ||| ad) &&& (rem ^^^ (-1 : Int32)))), .val (.int (-134742017 : Int32)), .val (.int (1 : Int32)), .val (.int (1 : Int32)), .val (.int (1 : Int32)), .unset] [(.int (134217728 : Int32))])) rfl (hb hby at_200) ?_
    show Steps p.tables e below (T12.setTop (mkF m 202 #[.val (.int p0), .val (.int p1), .val (.int (524288 : Int32)), .val (.int (134217728 : Int32)), .val (.int vN), .val (.int vM), .val (.int (p0 &&& (3 : Int32))), .val (.ref M), .val (.int EN), .val (.int EM), .val (.int ((p1 ||| ad) &&& (rem ^^^ (-1 : Int32)))), .val (.int (-134742017 : Int32)), .val (.int (1 : Int32)), .val (.int (1 : Int32)), .val (.int (1 : Int32)), .unset] [(.int (134217728 : Int32)), (.int (134217728 : Int32))])) _
    refine XS.icmpNo X12.here hx rfl (hb hby at_202) rfl (teq (rfl : (134217728 : Int32) = (134217728 : Int32))).2 ?_
    show Steps p.tables e below (T12.setTop (mkF m 205 #[.val (.int p0), .val (.int p1), .val (.int (524288 : Int32)), .val (.int (134217728 : Int32)), .val (.int vN), .val (.int vM), .val (.int (p0 &&& (3 : Int32))), .val (.ref M), .val (.int EN), .val (.int EM), .val (.int ((p1 ||| ad) &&& (rem ^^^ (-1 : Int32)))), .val (.int (-134742017 : Int32)), .val (.int (1 : Int32)), .val (.int (1 : Int32)), .val (.int (1 : Int32)), .unset] [])) _
    refine XS.iconst X12.here hx rfl (hb hby at_205) ?_
    show Steps p.tables e below (T12.setTop (mkF m 206 #[.val (.int p0), .val (.int p1), .val (.int (524288 : Int32)), .val (.int (134217728 : Int32)), .val (.int vN), .val (.int vM), .val (.int (p0 &&& (3 : Int32))), .val (.ref M), .val (.int EN), .val (.int EM), .val (.int ((p1 ||| ad) &&& (rem ^^^ (-1 : Int32)))), .val (.int (-134742017 : Int32)), .val (.int (1 : Int32)), .val (.int (1 : Int32)), .val (.int (1 : Int32)), .unset] [(.int (1 : Int32))])) _
    refine XS.goto X12.here hx rfl (pc0 := 206) (pc' := 210) rfl (hb hby at_206) (by decide) (by decide) ?_
    show Steps p.tables e below (T12.setTop (mkF m 210 #[.val (.int p0), .val (.int p1), .val (.int (524288 : Int32)), .val (.int (134217728 : Int32)), .val (.int vN), .val (.int vM), .val (.int (p0 &&& (3 : Int32))), .val (.ref M), .val (.int EN), .val (.int EM), .val (.int ((p1 ||| ad) &&& (rem ^^^ (-1 : Int32)))), .val (.int (-134742017 : Int32)), .val (.int (1 : Int32)), .val (.int (1 : Int32)), .val (.int (1 : Int32)), .unset] [(.int (1 : Int32))])) _
    refine XS.istore X12.here hx rfl (hb hby at_210) rfl (l' := #[.val (.int p0), .val (.int p1), .val (.int (524288 : Int32)), .val (.int (134217728 : Int32)), .val (.int vN), .val (.int vM), .val (.int (p0 &&& (3 : Int32))), .val (.ref M), .val (.int EN), .val (.int EM), .val (.int ((p1 ||| ad) &&& (rem ^^^ (-1 : Int32)))), .val (.int (-134742017 : Int32)), .val (.int (1 : Int32)), .val (.int (1 : Int32)), .val (.int (1 : Int32)), .val (.int (1 : Int32))]) rfl ?_
    show Steps p.tables e below (T12.setTop (mkF m 212 #[.val (.int p0), .val (.int p1), .val (.int (524288 : Int32)), .val (.int (134217728 : Int32)), .val (.int vN), .val (.int vM), .val (.int (p0 &&& (3 : Int32))), .val (.ref M), .val (.int EN), .val (.int EM), .val (.int ((p1 ||| ad) &&& (rem ^^^ (-1 : Int32)))), .val (.int (-134742017 : Int32)), .val (.int (1 : Int32)), .val (.int (1 : Int32)), .val (.int (1 : Int32)), .val (.int (1 : Int32))] [])) _
    refine XS.iload X12.here hx rfl (hb hby at_212) rfl ?_
    show Steps p.tables e below (T12.setTop (mkF m 214 #[.val (.int p0), .val (.int p1), .val (.int (524288 : Int32)), .val (.int (134217728 : Int32)), .val (.int vN), .val (.int vM), .val (.int (p0 &&& (3 : Int32))), .val (.ref M), .val (.int EN), .val (.int EM), .val (.int ((p1 ||| ad) &&& (rem ^^^ (-1 : Int32)))), .val (.int (-134742017 : Int32)), .val (.int (1 : Int32)), .val (.int (1 : Int32)), .val (.int (1 : Int32)), .val (.int (1 : Int32))] [(.int (1 : Int32))])) _
    refine XS.ifNo X12.here hx rfl (hb hby at_214) rfl ((if0 _ _).trans (feq (show ¬ (1 : Int32) = (0 : Int32) by decide)).1) ?_
    show Steps p.tables e below (T12.setTop (mkF m 217 #[.val (.int p0), .val (.int p1), .val (.int (524288 : Int32)), .val (.int (134217728 : Int32)), .val (.int vN), .val (.int vM), .val (.int (p0 &&& (3 : Int32))), .val (.ref M), .val (.int EN), .val (.int EM), .val (.int ((p1 ||| ad) &&& (rem ^^^ (-1 : Int32)))), .val (.int (-134742017 : Int32)), .val (.int (1 : Int32)), .val (.int (1 : Int32)), .val (.int (1 : Int32)), .val (.int (1 : Int32))] [])) _
    refine XS.iload X12.here hx rfl (hb hby at_217) rfl ?_
    show Steps p.tables e below (T12.setTop (mkF m 219 #[.val (.int p0), .val (.int p1), .val (.int (524288 : Int32)), .val (.int (134217728 : Int32)), .val (.int vN), .val (.int vM), .val (.int (p0 &&& (3 : Int32))), .val (.ref M), .val (.int EN), .val (.int EM), .val (.int ((p1 ||| ad) &&& (rem ^^^ (-1 : Int32)))), .val (.int (-134742017 : Int32)), .val (.int (1 : Int32)), .val (.int (1 : Int32)), .val (.int (1 : Int32)), .val (.int (1 : Int32))] [(.int (1 : Int32))])) _
    refine XS.ifNo X12.here hx rfl (hb hby at_219) rfl ((if0 _ _).trans (feq (show ¬ (1 : Int32) = (0 : Int32) by decide)).1) ?_
    show Steps p.tables e below (T12.setTop (mkF m 222 #[.val (.int p0), .val (.int p1), .val (.int (524288 : Int32)), .val (.int (134217728 : Int32)), .val (.int vN), .val (.int vM), .val (.int (p0 &&& (3 : Int32))), .val (.ref M), .val (.int EN), .val (.int EM), .val (.int ((p1 ||| ad) &&& (rem ^^^ (-1 : Int32)))), .val (.int (-134742017 : Int32)), .val (.int (1 : Int32)), .val (.int (1 : Int32)), .val (.int (1 : Int32)), .val (.int (1 : Int32))] [])) _
    refine XS.iload X12.here hx rfl (hb hby at_222) rfl ?_
    show Steps p.tables e below (T12.setTop (mkF m 224 #[.val (.int p0), .val (.int p1), .val (.int (524288 : Int32)), .val (.int (134217728 : Int32)), .val (.int vN), .val (.int vM), .val (.int (p0 &&& (3 : Int32))), .val (.ref M), .val (.int EN), .val (.int EM), .val (.int ((p1 ||| ad) &&& (rem ^^^ (-1 : Int32)))), .val (.int (-134742017 : Int32)), .val (.int (1 : Int32)), .val (.int (1 : Int32)), .val (.int (1 : Int32)), .val (.int (1 : Int32))] [(.int (1 : Int32))])) _
    refine XS.ifNo X12.here hx rfl (hb hby at_224) rfl ((if0 _ _).trans (feq (show ¬ (1 : Int32) = (0 : Int32) by decide)).1) ?_
    show Steps p.tables e below (T12.setTop (mkF m 227 #[.val (.int p0), .val (.int p1), .val (.int (524288 : Int32)), .val (.int (134217728 : Int32)), .val (.int vN), .val (.int vM), .val (.int (p0 &&& (3 : Int32))), .val (.ref M), .val (.int EN), .val (.int EM), .val (.int ((p1 ||| ad) &&& (rem ^^^ (-1 : Int32)))), .val (.int (-134742017 : Int32)), .val (.int (1 : Int32)), .val (.int (1 : Int32)), .val (.int (1 : Int32)), .val (.int (1 : Int32))] [])) _
    refine XS.iload X12.here hx rfl (hb hby at_227) rfl ?_
    show Steps p.tables e below (T12.setTop (mkF m 229 #[.val (.int p0), .val (.int p1), .val (.int (524288 : Int32)), .val (.int (134217728 : Int32)), .val (.int vN), .val (.int vM), .val (.int (p0 &&& (3 : Int32))), .val (.ref M), .val (.int EN), .val (.int EM), .val (.int ((p1 ||| ad) &&& (rem ^^^ (-1 : Int32)))), .val (.int (-134742017 : Int32)), .val (.int (1 : Int32)), .val (.int (1 : Int32)), .val (.int (1 : Int32)), .val (.int (1 : Int32))] [(.int (1 : Int32))])) _
    refine XS.ifNo X12.here hx rfl (hb hby at_229) rfl ((if0 _ _).trans (feq (show ¬ (1 : Int32) = (0 : Int32) by decide)).1) ?_
    show Steps p.tables e below (T12.setTop (mkF m 232 #[.val (.int p0), .val (.int p1), .val (.int (524288 : Int32)), .val (.int (134217728 : Int32)), .val (.int vN), .val (.int vM), .val (.int (p0 &&& (3 : Int32))), .val (.ref M), .val (.int EN), .val (.int EM), .val (.int ((p1 ||| ad) &&& (rem ^^^ (-1 : Int32)))), .val (.int (-134742017 : Int32)), .val (.int (1 : Int32)), .val (.int (1 : Int32)), .val (.int (1 : Int32)), .val (.int (1 : Int32))] [])) _
    refine XS.iconst X12.here hx rfl (hb hby at_232) ?_
    show Steps p.tables e below (T12.setTop (mkF m 233 #[.val (.int p0), .val (.int p1), .val (.int (524288 : Int32)), .val (.int (134217728 : Int32)), .val (.int vN), .val (.int vM), .val (.int (p0 &&& (3 : Int32))), .val (.ref M), .val (.int EN), .val (.int EM), .val (.int ((p1 ||| ad) &&& (rem ^^^ (-1 : Int32)))), .val (.int (-134742017 : Int32)), .val (.int (1 : Int32)), .val (.int (1 : Int32)), .val (.int (1 : Int32)), .val (.int (1 : Int32))] [(.int (1 : Int32))])) _
    refine XS.goto X12.here hx rfl (pc0 := 233) (pc' := 237) rfl (hb hby at_233) (by decide) (by decide) ?_
    show Steps p.tables e below (T12.setTop (mkF m 237 #[.val (.int p0), .val (.int p1), .val (.int (524288 : Int32)), .val (.int (134217728 : Int32)), .val (.int vN), .val (.int vM), .val (.int (p0 &&& (3 : Int32))), .val (.ref M), .val (.int EN), .val (.int EM), .val (.int ((p1 ||| ad) &&& (rem ^^^ (-1 : Int32)))), .val (.int (-134742017 : Int32)), .val (.int (1 : Int32)), .val (.int (1 : Int32)), .val (.int (1 : Int32)), .val (.int (1 : Int32))] [(.int (1 : Int32))])) _
    exact own_retZ X12 hx rfl Bd.returns (hb hby at_237) hr
  · show rm_law_Q Z p0 p1 b_INTO_EXISTING b_NONE b_ALWAYS b_NEVER h0 n0 _ T12.heap _
    rw [e12]
    exact ⟨rfl, N10⟩
set_option maxRecDepth 65536 in
set_option maxHeartbeats 40000000 in
theorem own_comes {Post : Tables → Env → Array Value → State → Outcome → State → Prop} (hpost : ∀ tb e args s v u, (limb_1_1.after args s (.returned v) u = true ∧ limb_1_2.after args s (.returned v) u = true ∧ True) → FrameEnd s (.returned v) u (Jvm.fieldLocs frame_1_writes args s ++ Jvm.arrayLocs frame_1_arrays args s ++ Jvm.staticLocs frame_1_statics s) 0 0 → Post tb e args s (.returned v) u) :
    ArmFor flags0 classFile x code maxLocals ret World_1 tables_1 room_1 Calls_1 rest_1 Pre_1 Post := by
  intro l hfl _ _ p e ha hc hk s m args below hf hA hF happ hP
  obtain ⟨hcalls, hrest, hpre⟩ := hP
  obtain ⟨-, -, -, hnamed, -, -, -, hat⟩ := (Spec.applies_iff hf).mp happ
  obtain ⟨hg, hn⟩ := and_e (Cond.before_iff.mp (show (Jvm.Cond.and given_1 narrow_1).before args s = true from hpre))
  obtain ⟨h1, h2⟩ := and_e hg
  obtain ⟨w0, w1, rfl⟩ := own_arg2 h1
  have hw := fun d (hd : d ∈ tables_1) => atoms_spec (ws := Jvm.Cond.code x code maxLocals ret :: tables_1) hat d (List.mem_cons_of_mem _ hd)
  have hfit : Fit s := fun {y c} hc i hi => by
    obtain ⟨ha, rfl⟩ := Array.getElem?_eq_some_iff.mp hc
    have q := List.all_eq_true.mp ((Array.all_eq_true_iff_forall_mem.mp hF) _ (Array.getElem_mem ha)) i (List.mem_range.mpr hi)
    simpa [Array.getElem?_eq_getElem hi] using q
  obtain ⟨g0, h2⟩ := and_e h2
  obtain ⟨i0, e0⟩ := is_v g0
  obtain rfl : w0 = (.int i0) := Option.some.inj e0
  have g1 := h2
  obtain ⟨i1, e1⟩ := is_v g1
  obtain rfl : w1 = (.int i1) := Option.some.inj e1
  obtain ⟨c0, hn⟩ := and_e hn
  obtain ⟨c1, hn⟩ := and_e hn
  obtain ⟨c2, hn⟩ := and_e hn
  obtain ⟨c3, hn⟩ := and_e hn
  obtain ⟨c4, hn⟩ := and_e hn
  obtain ⟨c5, hn⟩ := and_e hn
  obtain ⟨c6, hn⟩ := and_e hn
  obtain ⟨c7, hn⟩ := and_e hn
  obtain ⟨c8, hn⟩ := and_e hn
  obtain ⟨c9, hn⟩ := and_e hn
  obtain ⟨c10, hn⟩ := and_e hn
  have c11 := hn
  obtain ⟨b_INTO_EXISTING, ev_INTO_EXISTING⟩ := exa_v c0
  have S_INTO_EXISTING := Sta.start ev_INTO_EXISTING (Or.inr ⟨(hw _ (List.mem_of_getElem? (i := 3) rfl)), (hw _ (List.mem_of_getElem? (i := 4) rfl))⟩)
  have E_INTO_EXISTING := Exa.start ev_INTO_EXISTING c0
  obtain ⟨b_NONE, ev_NONE⟩ := exa_v c3
  have S_NONE := Sta.start ev_NONE (Or.inr ⟨(hw _ (List.mem_of_getElem? (i := 3) rfl)), (hw _ (List.mem_of_getElem? (i := 16) rfl))⟩)
  have E_NONE := Exa.start ev_NONE c3
  obtain ⟨b_ALWAYS, ev_ALWAYS⟩ := exa_v c6
  have S_ALWAYS := Sta.start ev_ALWAYS (Or.inr ⟨(hw _ (List.mem_of_getElem? (i := 3) rfl)), (hw _ (List.mem_of_getElem? (i := 18) rfl))⟩)
  have E_ALWAYS := Exa.start ev_ALWAYS c6
  obtain ⟨b_NEVER, ev_NEVER⟩ := exa_v c9
  have S_NEVER := Sta.start ev_NEVER (Or.inr ⟨(hw _ (List.mem_of_getElem? (i := 3) rfl)), (hw _ (List.mem_of_getElem? (i := 20) rfl))⟩)
  have E_NEVER := Exa.start ev_NEVER c9
  have F_INTO_EXISTING_added := own_fI ev_INTO_EXISTING c1
  have F_INTO_EXISTING_removed := own_fI ev_INTO_EXISTING c2
  have F_NONE_added := own_fI ev_NONE c4
  have F_NONE_removed := own_fI ev_NONE c5
  have F_ALWAYS_added := own_fI ev_ALWAYS c7
  have F_ALWAYS_removed := own_fI ev_ALWAYS c8
  have F_NEVER_added := own_fI ev_NEVER c10
  have F_NEVER_removed := own_fI ev_NEVER c11
  obtain ⟨n, o, h1, h2, h3, _, L, rfl, ⟨rfl, N⟩, hq⟩ := rm_law l s _ hw tables_1 i0 i1 b_INTO_EXISTING b_NONE b_ALWAYS b_NEVER s.heap s.heap.size (Nat.le_refl _) S_INTO_EXISTING E_INTO_EXISTING S_NONE E_NONE S_ALWAYS E_ALWAYS S_NEVER E_NEVER F_INTO_EXISTING_added F_INTO_EXISTING_removed F_NONE_added F_NONE_removed F_ALWAYS_added F_ALWAYS_removed F_NEVER_added F_NEVER_removed p e ha hc hk s m _ below hf ((Spec.applies_iff_loose hf).mp happ).1 ⟨rfl, State.Warmed39.refl s, rfl⟩ trivial
  exact ⟨n, _, h1, h2, h3, hpost _ _ _ _ _ _ ⟨Cond.after_iff.mpr rfl, Cond.after_iff.mpr (eq_i res_at (Term.int_eval (1)) rfl), trivial⟩ ⟨hq.1, hq.2.1, (hq.2.2.sift fun y hy => Or.inr (N y hy)).mono (by decide) (by decide)⟩⟩
theorem main_1_1 : Claimed_1_1 := own_comes fun _ _ _ _ _ _ h hF => ⟨h.1, hF⟩
theorem main_1_2 : Claimed_1_2 := own_comes fun _ _ _ _ _ _ h hF => ⟨h.2.1, hF⟩
end Jvm.Pilot.@@N@@
namespace Jvm.Pilot.@@N@@
open Jvm Jvm.ClassFile Sem Op Lib Jvm.Free Jvm.Stand Jvm.Pilot.@@N@@.Jvm.D
/-! MADE BY PROGRAM (witnessworld.py) out of the Statement's table words and the real class files: 13 classes; the members and pool entries that the words name. The judged class is class 1, her method 1. -/
namespace start1
open Jvm.ClassFile
def u (s : String) : CpInfo := .utf8 (stringToUtf16 s)
/-- a pool by its gaps: so many unusable entries, then the entry; so many at the end -/
def gap : Nat → List CpInfo → List CpInfo
  | 0, r => r
  | n + 1, r => .unusable :: gap n r
def poolList (es : List (Nat × CpInfo)) (last : Nat) : List CpInfo := es.foldr (fun e r => gap e.1 (e.2 :: r)) (gap last [])
def pool (es : List (Nat × CpInfo)) (last : Nat) : Array CpInfo := ⟨poolList es last⟩
def fileOf (pool : Array CpInfo) (this : Nat) (attrs : Array Attribute := #[]) (ms : Array MethodInfo := #[]) (fl : Nat := 33) (sup : Nat := 0) (ifs : Array Nat := #[]) (fds : Array FieldInfo := #[]) : ClassFile where
  minorVersion := 0
  majorVersion := 65
  constantPool := pool
  accessFlags := fl
  thisClass := this
  superClass := sup
  interfaces := ifs
  fields := fds
  methods := ms
  attributes := attrs
def plain (name : String) (sup : Option ClassId) : Class where
  name := name
  kind := .ordinary
  loader := none
  accessFlags := 33
  super := sup
  interfaces := #[]
  cf := none
  fields := #[]
  methods := #[]
  instanceTypes := #[]
  staticTypes := #[]
  resolved := #[]
  callSites := []
  init := .initialized
  statics := none
  mirror := none

def pool0 : Array CpInfo := pool [(5, u "<init>"), (0, u "()V"), (1, .class_ 10), (1, u "java/lang/Object")] 113

def k0m0 : Method := { name := "<init>", desc := "()V", sig := { parameters := [], returnType := none }, accessFlags := 1, code := none }
/-- java/lang/Object -/
def k0 : Class := { plain "java/lang/Object" none with
  accessFlags := 33
  interfaces := #[]
  cf := some (fileOf pool0 8 #[] #[{ accessFlags := 1, nameIndex := 5, descriptorIndex := 6, attributes := #[] }] 33 0 #[] #[])
  fields := #[]
  methods := #[k0m0]
  instanceTypes := #[]
  staticTypes := #[]
  resolved := Array.replicate 124 none
  statics := none }

def pool1 : Array CpInfo := pool [(2, .class_ 4), (1, u "java/lang/Object"), (0, u "<init>"), (0, u "()V"), (2, .integer 524288), (0, .integer 134217728), (0, .fieldref 12 13), (0, .class_ 14), (0, .nameAndType 15 16), (0, u "com/example/gestor/gestor/model/DocumentLaunchMode"), (0, u "INTO_EXISTING"), (0, u "Lcom/example/gestor/gestor/model/DocumentLaunchMode;"), (0, .fieldref 12 18), (0, .nameAndType 19 16), (0, u "ALWAYS"), (0, .fieldref 12 21), (0, .nameAndType 22 16), (0, u "NONE"), (0, .fieldref 12 24), (0, .nameAndType 25 16), (0, u "NEVER"), (0, .methodref 12 27), (0, .nameAndType 28 29), (0, u "placementFlags"), (0, u "(I)I"), (0, .integer 4160225279), (0, .class_ 32), (0, u "com/example/gestor/gestor/model/DocumentLaunchModePlacementFlagsPinLaw"), (2, u "law"), (0, u "(II)Z")] 3

def k1m0 : Method := { name := "<init>", desc := "()V", sig := { parameters := [], returnType := none }, accessFlags := 2, code := none }
def k1c1 : Code := { maxStack := 3, maxLocals := 16, code := code, exceptionTable := #[], attributes := #[] }
def k1m1 : Method := { name := "law", desc := "(II)Z", sig := { parameters := [.int, .int], returnType := some .boolean }, accessFlags := 9, code := some k1c1 }
/-- com/example/gestor/gestor/model/DocumentLaunchModePlacementFlagsPinLaw -/
def k1 : Class := { plain "com/example/gestor/gestor/model/DocumentLaunchModePlacementFlagsPinLaw" (some 0) with
  accessFlags := 49
  interfaces := #[]
  cf := some (fileOf pool1 31 #[] #[{ accessFlags := 2, nameIndex := 5, descriptorIndex := 6, attributes := #[] }, { accessFlags := 9, nameIndex := 35, descriptorIndex := 36, attributes := #[] }] 49 2 #[] #[])
  fields := #[]
  methods := #[k1m0, k1m1]
  instanceTypes := #[]
  staticTypes := #[]
  resolved := Array.replicate 40 none
  statics := none }

def pool2 : Array CpInfo := pool [(1, .class_ 2), (0, u "java/lang/constant/Constable"), (0, .class_ 4), (0, u "java/lang/Object")] 6

/-- java/lang/constant/Constable -/
def k2 : Class := { plain "java/lang/constant/Constable" (some 0) with
  accessFlags := 1537
  interfaces := #[]
  cf := some (fileOf pool2 1 #[] #[] 1537 3 #[] #[])
  fields := #[]
  methods := #[]
  instanceTypes := #[]
  staticTypes := #[]
  resolved := Array.replicate 11 none
  statics := none }

def pool3 : Array CpInfo := pool [(1, .class_ 2), (0, u "java/lang/Comparable"), (0, .class_ 4), (0, u "java/lang/Object")] 7

/-- java/lang/Comparable -/
def k3 : Class := { plain "java/lang/Comparable" (some 0) with
  accessFlags := 1537
  interfaces := #[]
  cf := some (fileOf pool3 1 #[] #[] 1537 3 #[] #[])
  fields := #[]
  methods := #[]
  instanceTypes := #[]
  staticTypes := #[]
  resolved := Array.replicate 12 none
  statics := none }

def pool4 : Array CpInfo := pool [(1, .class_ 2), (0, u "java/io/Serializable"), (0, .class_ 4), (0, u "java/lang/Object")] 2

/-- java/io/Serializable -/
def k4 : Class := { plain "java/io/Serializable" (some 0) with
  accessFlags := 1537
  interfaces := #[]
  cf := some (fileOf pool4 1 #[] #[] 1537 3 #[] #[])
  fields := #[]
  methods := #[]
  instanceTypes := #[]
  staticTypes := #[]
  resolved := Array.replicate 7 none
  statics := none }

def pool5 : Array CpInfo := pool [(2, .class_ 4), (1, u "java/lang/Enum"), (0, u "name"), (0, u "Ljava/lang/String;"), (2, u "ordinal"), (0, u "I"), (1, .class_ 14), (1, u "java/lang/Object"), (4, u "hash"), (86, .class_ 108), (1, u "java/lang/Enum$EnumDesc"), (2, .class_ 112), (0, u "java/lang/constant/Constable"), (0, .class_ 114), (0, u "java/lang/Comparable"), (0, .class_ 116), (0, u "java/io/Serializable")] 87

/-- java/lang/Enum -/
def k5 : Class := { plain "java/lang/Enum" (some 0) with
  accessFlags := 1057
  interfaces := #[2, 3, 4]
  cf := some (fileOf pool5 2 #[.nestMembers #[106]] #[] 1057 12 #[111, 113, 115] #[{ accessFlags := 18, nameIndex := 5, descriptorIndex := 6, attributes := #[] }, { accessFlags := 18, nameIndex := 9, descriptorIndex := 10, attributes := #[] }, { accessFlags := 2, nameIndex := 19, descriptorIndex := 10, attributes := #[] }])
  fields := #[{ name := "name", type := (.object "java/lang/String"), accessFlags := 18, slot := 0, constantValue := 0 }, { name := "ordinal", type := .int, accessFlags := 18, slot := 1, constantValue := 0 }, { name := "hash", type := .int, accessFlags := 2, slot := 2, constantValue := 0 }]
  methods := #[]
  instanceTypes := #[(.object "java/lang/String"), .int, .int]
  staticTypes := #[]
  resolved := Array.replicate 204 none
  statics := none }

def pool6 : Array CpInfo := pool [(9, .class_ 10), (0, u "com/example/gestor/gestor/model/ManifestValue"), (10, .class_ 22), (0, u "java/lang/Object")] 9

/-- com/example/gestor/gestor/model/ManifestValue -/
def k6 : Class := { plain "com/example/gestor/gestor/model/ManifestValue" (some 0) with
  accessFlags := 1537
  interfaces := #[]
  cf := some (fileOf pool6 9 #[] #[] 1537 21 #[] #[])
  fields := #[]
  methods := #[]
  instanceTypes := #[]
  staticTypes := #[]
  resolved := Array.replicate 32 none
  statics := none }

def pool7 : Array CpInfo := pool [(1, .class_ 2), (0, u "com/example/gestor/gestor/model/DocumentLaunchMode"), (2, u "INTO_EXISTING"), (0, u "Lcom/example/gestor/gestor/model/DocumentLaunchMode;"), (2, u "ALWAYS"), (2, u "NONE"), (2, u "NEVER"), (2, u "$VALUES"), (0, u "[Lcom/example/gestor/gestor/model/DocumentLaunchMode;"), (6, .class_ 28), (1, u "java/lang/Enum"), (8, u "manifestValue"), (0, u "Ljava/lang/String;"), (0, .fieldref 1 40), (0, .nameAndType 41 42), (0, u "added"), (0, u "I"), (0, .fieldref 1 44), (0, .nameAndType 45 42), (0, u "removed"), (23, .class_ 70), (0, u "com/example/gestor/gestor/model/ManifestValue"), (9, u "placementFlags"), (0, u "(I)I")] 5

def k7c0 : Code := { maxStack := 3, maxLocals := 2, code := prog_38_method_5_code, exceptionTable := #[], attributes := #[] }
def k7m0 : Method := { name := "placementFlags", desc := "(I)I", sig := { parameters := [.int], returnType := some .int }, accessFlags := 1, code := some k7c0 }
/-- com/example/gestor/gestor/model/DocumentLaunchMode -/
def k7 : Class := { plain "com/example/gestor/gestor/model/DocumentLaunchMode" (some 5) with
  accessFlags := 16433
  interfaces := #[6]
  cf := some (fileOf pool7 1 #[] #[{ accessFlags := 1, nameIndex := 80, descriptorIndex := 81, attributes := #[] }] 16433 26 #[69] #[{ accessFlags := 16409, nameIndex := 5, descriptorIndex := 6, attributes := #[] }, { accessFlags := 16409, nameIndex := 9, descriptorIndex := 6, attributes := #[] }, { accessFlags := 16409, nameIndex := 12, descriptorIndex := 6, attributes := #[] }, { accessFlags := 16409, nameIndex := 15, descriptorIndex := 6, attributes := #[] }, { accessFlags := 18, nameIndex := 37, descriptorIndex := 38, attributes := #[] }, { accessFlags := 18, nameIndex := 41, descriptorIndex := 42, attributes := #[] }, { accessFlags := 18, nameIndex := 45, descriptorIndex := 42, attributes := #[] }, { accessFlags := 4122, nameIndex := 18, descriptorIndex := 19, attributes := #[] }])
  fields := #[{ name := "INTO_EXISTING", type := (.object "com/example/gestor/gestor/model/DocumentLaunchMode"), accessFlags := 16409, slot := 0, constantValue := 0 }, { name := "ALWAYS", type := (.object "com/example/gestor/gestor/model/DocumentLaunchMode"), accessFlags := 16409, slot := 1, constantValue := 0 }, { name := "NONE", type := (.object "com/example/gestor/gestor/model/DocumentLaunchMode"), accessFlags := 16409, slot := 2, constantValue := 0 }, { name := "NEVER", type := (.object "com/example/gestor/gestor/model/DocumentLaunchMode"), accessFlags := 16409, slot := 3, constantValue := 0 }, { name := "manifestValue", type := (.object "java/lang/String"), accessFlags := 18, slot := 3, constantValue := 0 }, { name := "added", type := .int, accessFlags := 18, slot := 4, constantValue := 0 }, { name := "removed", type := .int, accessFlags := 18, slot := 5, constantValue := 0 }, { name := "$VALUES", type := (.array (.object "com/example/gestor/gestor/model/DocumentLaunchMode")), accessFlags := 4122, slot := 4, constantValue := 0 }]
  methods := #[k7m0]
  instanceTypes := #[(.object "java/lang/String"), .int, .int, (.object "java/lang/String"), .int, .int]
  staticTypes := #[(.object "com/example/gestor/gestor/model/DocumentLaunchMode"), (.object "com/example/gestor/gestor/model/DocumentLaunchMode"), (.object "com/example/gestor/gestor/model/DocumentLaunchMode"), (.object "com/example/gestor/gestor/model/DocumentLaunchMode"), (.array (.object "com/example/gestor/gestor/model/DocumentLaunchMode"))]
  resolved := Array.replicate 87 none
  statics := some 0 }

def pool8 : Array CpInfo := pool [(1, u "java/lang/Cloneable"), (0, .class_ 1), (0, u "java/lang/Object"), (0, .class_ 3)] 3

/-- java/lang/Cloneable -/
def k8 : Class := { plain "java/lang/Cloneable" (some 0) with
  accessFlags := 1537
  interfaces := #[]
  cf := some (fileOf pool8 2 #[] #[] 1537 4 #[] #[])
  fields := #[]
  methods := #[]
  instanceTypes := #[]
  staticTypes := #[]
  resolved := Array.replicate 8 none
  statics := none }

/-- the primitive byte -/
def k9 : Class := { plain "byte" none with kind := .primitive 'B', accessFlags := 0x411 }
/-- [B -/
def k10 : Class := { plain "[B" (some 0) with kind := .array 9 .byte, interfaces := #[8, 4], accessFlags := 1041 }

/-- the primitive int -/
def k11 : Class := { plain "int" none with kind := .primitive 'I', accessFlags := 0x411 }
/-- [I -/
def k12 : Class := { plain "[I" (some 0) with kind := .array 11 .int, interfaces := #[8, 4], accessFlags := 1041 }

def heap : Heap := #[{ cls := 7, slots := #[.ref 1, .ref 3, .ref 2, .ref 4, .null], vm := .statics 7 },
  { cls := 7, slots := #[.null, .int 0, .int 0, .null, .int 524288, .int 0], vm := .none },
  { cls := 7, slots := #[.null, .int 0, .int 0, .null, .int 0, .int 0], vm := .none },
  { cls := 7, slots := #[.null, .int 0, .int 0, .null, .int 134742016, .int 0], vm := .none },
  { cls := 7, slots := #[.null, .int 0, .int 0, .null, .int 0, .int 134742016], vm := .none }]
def classes : Array Class := #[k0, k1, k2, k3, k4, k5, k6, k7, k8, k9, k10, k11, k12]
def interned : List (Array UInt16 × Addr) := []
def slotsUsed : Nat := 29
def theMethod : MethodId := ⟨1, 1⟩
def args0 : Array Value := #[.int 5, .int 5]
def aboutOver (below : List Frame) : State where
  vm := { classes := classes, interned := interned.toArray }
  heap := heap
  slotsUsed := slotsUsed
  threads := #[{ frames := .invoking theMethod args0 :: below }]
def below0 : List Frame := [.native { method := ⟨0, 0⟩, args := #[] }]
def about1 : State := aboutOver below0
def p0 : Program := .bare "" "" ""
def e0 : Env := launch0.env 0 0 0
theorem w_frames : about1.frames = Frame.invoking theMethod args0 :: below0 := rfl
set_option maxRecDepth 65536 in
theorem w_args : argsFit about1.vm theMethod args0 = true := by decide +kernel
set_option maxRecDepth 65536 in
theorem w_heap : heapFits about1 = true := by decide +kernel
set_option maxRecDepth 65536 in
theorem w_runnable : about1.curStatus? = some .runnable := by decide +kernel
set_option maxRecDepth 65536 in
theorem w_alone : about1.alone = true := by decide +kernel
set_option maxRecDepth 65536 in
theorem w_named : about1.methodNamed? x = some theMethod := by decide +kernel
set_option maxRecDepth 65536 in
theorem w_hears : about1.hears theMethod below0 = true := by decide +kernel
set_option maxRecDepth 65536 in
theorem w_ripe : about1.ripe theMethod args0 below0 = true := by decide +kernel
theorem w_running : about1.status = .running := rfl
set_option maxRecDepth 65536 in
theorem w_room : about1.hasRoom e0.platform room_1 = true :=
  launch0.hasRoom_least _ room_1 (by decide +kernel) (by decide +kernel) (by decide +kernel) (by decide +kernel) (by decide +kernel) (by decide +kernel)
theorem allAtoms_all (ts : List Jvm.Cond) (a : Array Jvm.Value) (st : Jvm.State) : (allAtoms ts).before a st = ts.all (fun c => c.before a st) := by
  induction ts with
  | nil => rfl
  | cons c t ih =>
    show (Jvm.Cond.and c (allAtoms t)).before a st = _
    rw [Jvm.Cond.before_and, ih, List.all_cons]
def words1 : List Jvm.Cond := Jvm.Cond.code x code maxLocals ret :: tables_1
/-- a 'code' word, met by the world's own term for the bytes: nothing is compared byte by byte -/
theorem code_word {y : MethodName} {bytes : ByteArray} {mx : Nat} {rt : Option FieldType} {a : Array Value} {s : State} {m : MethodId} {meth : Method} {c : Code} (h1 : s.methodNamed? y = some m) (h2 : s.vm.method? m = some meth) (h3 : meth.code = some c) (h4 : c.code = bytes)
    (h5 : (c.maxLocals == mx && c.exceptionTable.isEmpty && decide (c.maxStack ≤ mostOperands) && decide (meth.sig.returnType = rt) && !meth.locks && decide (parseMethodDescriptor y.desc = some meth.sig)) = true) : (Jvm.Cond.code y bytes mx rt).before a s = true := by
  simp only [Bool.and_eq_true, beq_iff_eq, Bool.not_eq_true', decide_eq_true_eq] at h5
  obtain ⟨⟨⟨⟨⟨g1, g2⟩, g3⟩, g4⟩, g5⟩, g6⟩ := h5
  simp [Cond.before, Cond.holds, Cond.value, h1, h2, h3, h4, g1, g2, g3, g4, g5, g6]
def isCode : Jvm.Cond → Bool
  | .code _ _ _ _ => true
  | _ => false
theorem all_split {L : List Jvm.Cond} {P : Jvm.Cond → Bool} (h1 : L.all (fun c => isCode c || P c) = true) (h2 : ∀ c ∈ L.filter isCode, P c = true) : L.all P = true := by
  refine List.all_eq_true.mpr fun c hc => ?_
  have h := List.all_eq_true.mp h1 c hc
  rcases Bool.eq_false_or_eq_true (isCode c) with hi | hi
  · exact h2 c (List.mem_filter.mpr ⟨hc, hi⟩)
  · simpa [hi] using h
set_option maxRecDepth 65536 in
theorem w_c0 : (Jvm.Cond.code x code maxLocals ret).before args0 about1 = true := code_word (m := ⟨1, 1⟩) (meth := k1m1) (c := k1c1) (by decide +kernel) rfl rfl rfl (by decide +kernel)
set_option maxRecDepth 65536 in
theorem w_c1 : (Jvm.Cond.code ({ cls := "com/example/gestor/gestor/model/DocumentLaunchMode", name := "placementFlags", desc := "(I)I" } : Jvm.MethodName) prog_38_method_5_code (2 : Nat) (Option.some Jvm.ClassFile.FieldType.int)).before args0 about1 = true := code_word (m := ⟨7, 0⟩) (meth := k7m0) (c := k7c0) (by decide +kernel) rfl rfl rfl (by decide +kernel)
def codes1 : List Jvm.Cond := [Jvm.Cond.code x code maxLocals ret, Jvm.Cond.code ({ cls := "com/example/gestor/gestor/model/DocumentLaunchMode", name := "placementFlags", desc := "(I)I" } : Jvm.MethodName) prog_38_method_5_code (2 : Nat) (Option.some Jvm.ClassFile.FieldType.int)]
set_option maxRecDepth 65536 in
theorem codes_eq : words1.filter isCode = codes1 := rfl
theorem w_codes : ∀ c ∈ words1.filter isCode, c.before args0 about1 = true := by
  rw [codes_eq]
  intro c hc
  simp only [codes1, List.mem_cons, List.not_mem_nil, or_false] at hc
  rcases hc with rfl | rfl
  · exact w_c0
  · exact w_c1
set_option maxRecDepth 65536 in
theorem w_t1 : words1.all (fun c => isCode c || c.before args0 about1) = true := by decide +kernel
theorem w_tables : (allAtoms (Jvm.Cond.code x code maxLocals ret :: tables_1)).before args0 about1 = true := by
  rw [allAtoms_all]
  show words1.all (fun c => c.before args0 about1) = true
  refine all_split ?_ w_codes
  rw [w_t1]
set_option maxRecDepth 65536 in
theorem w_case : (Jvm.Cond.and given_1 narrow_1).before args0 about1 = true := by decide +kernel
theorem w_applies : (headSpec (Jvm.Cond.code x code maxLocals ret :: tables_1) room_1).applies x e0.platform about1 = true :=
  (Spec.applies_iff w_frames).mpr ⟨w_running, w_runnable, w_alone, w_named, w_hears, w_ripe, w_room, w_tables⟩
theorem atStart : AtStart classFile x code maxLocals ret World_1 tables_1 room_1 Calls_1 rest_1 Pre_1 launch0 p0 e0 about1 theMethod args0 below0 :=
  ⟨lists_1, trivial, launch0.admits_env _ _ _, launch0.least_env, fairChoices_fair.cas, fairChoices_fair.clock, w_frames, w_args, w_heap, w_applies, trivial, trivial, w_case⟩
end start1
theorem witness_1 : WitnessClaimed_1 := ⟨start1.p0, start1.e0, start1.about1, start1.theMethod, start1.args0, start1.below0, start1.atStart⟩
end Jvm.Pilot.@@N@@
