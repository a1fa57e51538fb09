import JvmDerived
import JvmDerived.Pilot.@@N@@Statement
import JvmDerived.Pilot.@@N@@Code
set_option linter.unusedVariables false
set_option linter.unusedSimpArgs false
namespace Jvm.Pilot.@@N@@
open Jvm Jvm.ClassFile Sem Op Lib Jvm.Free Jvm.Stand Jvm.LawKit Jvm.RoadKit Bundle Jvm.Pilot.@@N@@.Jvm.D
section OwnKit
variable {p : Program} {l : Launch} {e : Env} {R : Room} {s : State} {m : MethodId} {args : Array Value} {below : List Frame} {meth : Method} {c : Code} {T : State} {locs : List Loc} {cells slots : Nat} {Z : State} {a0 : Array Value} {h h' h0 : Heap} {a b : Addr} {sl : Nat} {v w : Value} {C n d : String}
theorem own_retZ (X : Stand p l e R s m args below meth c T locs cells slots) (hx : p.tables.exec = Jvm.exec) {pc : Nat} {Ls : Array Slot} {z : Int32} {rest : List Value} (hz : nar .boolean z = z) (hret : meth.sig.returnType = some .boolean) (hd : decode c.code pc = .ok (.ireturn, 1)) {fs : List Frame}
    (hl : ∀ (f : JFrame) (acts : List Action), f.method = m → f.locked = none → f.entered = [] → (doReturn e (T.setTop f) acts (some (.int z))).1 = T.setFrames fs) : Steps p.tables e below (T.setTop (mkF m pc Ls (.int z :: rest))) (T.setFrames fs) :=
  retN X hx hret (Or.inl rfl) hd (by rw [hz]; exact hl)
theorem own_retI (X : Stand p l e R s m args below meth c T locs cells slots) (hx : p.tables.exec = Jvm.exec) {pc : Nat} {Ls : Array Slot} {z : Int32} {rest : List Value} (hret : meth.sig.returnType = some .int) (hd : decode c.code pc = .ok (.ireturn, 1)) {fs : List Frame}
    (hl : ∀ (f : JFrame) (acts : List Action), f.method = m → f.locked = none → f.entered = [] → (doReturn e (T.setTop f) acts (some (.int z))).1 = T.setFrames fs) : Steps p.tables e below (T.setTop (mkF m pc Ls (.int z :: rest))) (T.setFrames fs) :=
  retOut X hx hret rfl (Or.inl ⟨rfl, Or.inl rfl, z, rfl⟩) hd hl
theorem own_retJ (X : Stand p l e R s m args below meth c T locs cells slots) (hx : p.tables.exec = Jvm.exec) {pc : Nat} {Ls : Array Slot} {z : Int64} {rest : List Value} (hret : meth.sig.returnType = some .long) (hd : decode c.code pc = .ok (.lreturn, 1)) {fs : List Frame}
    (hl : ∀ (f : JFrame) (acts : List Action), f.method = m → f.locked = none → f.entered = [] → (doReturn e (T.setTop f) acts (some (.long z))).1 = T.setFrames fs) : Steps p.tables e below (T.setTop (mkF m pc Ls (.long z :: rest))) (T.setFrames fs) :=
  retOut X hx hret rfl (Or.inr (Or.inl ⟨rfl, rfl, z, rfl⟩)) hd hl
theorem own_narR {t : FieldType} (ht : t.isReference = true) (hw : w.isRef = true) : narrow t w = w := by
  cases t <;> first | (cases ht; done) | (cases w <;> first | rfl | (cases hw; done))
theorem own_retA (X : Stand p l e R s m args below meth c T locs cells slots) (hx : p.tables.exec = Jvm.exec) {pc : Nat} {Ls : Array Slot} {t : FieldType} {rest : List Value} (ht : t.isReference = true) (hw : w.isRef = true) (hret : meth.sig.returnType = some t) (hd : decode c.code pc = .ok (.areturn, 1)) {fs : List Frame}
    (hl : ∀ (f : JFrame) (acts : List Action), f.method = m → f.locked = none → f.entered = [] → (doReturn e (T.setTop f) acts (some w)).1 = T.setFrames fs) : Steps p.tables e below (T.setTop (mkF m pc Ls (w :: rest))) (T.setFrames fs) :=
  retOut X hx hret (own_narR ht hw) (Or.inr (Or.inr (Or.inr (Or.inr ⟨rfl, ht, hw⟩)))) hd hl
theorem own_join (X : Stand p l e R s m args below meth c T locs cells slots) {h : Heap} {g g' : JFrame} (K : ∃ T', Stand p l e R s m args below meth c T' locs cells slots ∧ T'.heap = h ∧ ∀ target, Steps p.tables e below (T'.setTop g') target → Steps p.tables e below (T.setTop g) target) :
    ∃ T', Stand p l e R s m args below meth c T' locs cells slots ∧ T'.heap = h ∧ ∀ target, Steps p.tables e below (T'.setTop g') target → Steps p.tables e below (T.setTop g) target := K
theorem own_ext_refl (h : Heap) : Ext h h := ⟨Nat.le_refl _, fun _ _ q => q⟩
theorem own_ext_tr (E : Ext h0 h) (E' : Ext h h') : Ext h0 h' := ⟨Nat.le_trans E.1 E'.1, fun x y q => E'.2 x y (E.2 x y q)⟩
theorem own_ext_wr (E : Ext h0 h) (W : Wr h h' a sl v) (g : h0.size ≤ a) : Ext h0 h' := ⟨by rw [W.size]; exact E.1, fun x y q => by
  obtain ⟨cb', h1, -, -, -, h5, -⟩ := wr_at W (E.2 x y q)
  rw [h1, h5 (fun r => by subst r; exact absurd (Array.getElem?_eq_some_iff.mp q).1 (Nat.not_lt.mpr g))]⟩
theorem own_fld_inj (F : Fld Z h a C n d v) (G : Fld Z h a C n d w) : v = w := by
  obtain ⟨cell, cf, k, i, f, h1, h2, h3, h4, h5, h6, h7⟩ := F
  obtain ⟨cell', cf', k', i', f', g1, g2, g3, g4, g5, g6, g7⟩ := G
  cases h1.symm.trans g1
  cases h2.symm.trans g2
  exact Option.some.inj (h7.symm.trans g7)
theorem own_fld_ne (F : Fld Z h a C n d v) (G : Fld Z h b C n d w) (q : v ≠ w) : a ≠ b := fun r => by subst r; exact q (own_fld_inj F G)
theorem own_ref_ne (q : a ≠ b) : ¬ Value.ref a = Value.ref b := fun r => q (Value.ref.inj r)
theorem own_ref_eq (q : a = b) : Value.ref a = Value.ref b := congrArg Value.ref q
/-- the array at a, of class k, holds just xs -/
def OwnLst (Z : State) (h : Heap) (a : Addr) (ty : FieldType) (k : ClassId) (xs : List Value) : Prop := ∃ cl : Cell, Arr Z h a cl ty ∧ cl.cls = k ∧ cl.slots.toList = xs
theorem OwnLst.ext {ty : FieldType} {k : ClassId} {xs : List Value} (F : OwnLst Z h a ty k xs) (E : Ext h h') : OwnLst Z h' a ty k xs := by obtain ⟨cl, A, q, G⟩ := F; exact ⟨cl, A.ext E, q, G⟩
theorem OwnLst.other {ty : FieldType} {k : ClassId} {xs : List Value} (F : OwnLst Z h b ty k xs) (W : Wr h h' a sl v) (q : b ≠ a) : OwnLst Z h' b ty k xs := by obtain ⟨cl, A, q1, G⟩ := F; exact ⟨cl, A.other W q, q1, G⟩
theorem OwnLst.keep {ty : FieldType} {k : ClassId} {xs : List Value} {ws : List Addr} (F : OwnLst Z h a ty k xs) (K : Keep h h' ws) (q : a ∉ ws) : OwnLst Z h' a ty k xs := by obtain ⟨cl, A, q1, G⟩ := F; exact ⟨cl, ⟨K.2.1 _ _ A.1 q, A.2⟩, q1, G⟩
theorem own_lst_set {ty : FieldType} {k : ClassId} {xs : List Value} {cl : Cell} (A : Arr Z h a cl ty) (q : cl.cls = k) (G : cl.slots.toList = xs) (W : Wr h h' a sl v) : OwnLst Z h' a ty k (xs.set sl v) :=
  ⟨cl.setSlot sl v, A.same W, q, by rw [← G]; simp [Cell.setSlot]⟩
theorem own_lst_new {ty : FieldType} {k : ClassId} {z : Int32} (A : Arr Z h a (newA k ty z) ty) : OwnLst Z h a ty k (List.replicate z.toNatClampNeg (defaultValue ty)) := ⟨_, A, rfl, by simp [newA]⟩
theorem own_inb {xs : List Value} {cl : Cell} {j : Int32} (G : cl.slots.toList = xs) (k : Nat) (hk : xs.length = k) (q : ¬ (j < 0 ∨ k ≤ j.toNatClampNeg)) : ¬ (j < 0 ∨ cl.slots.size ≤ j.toNatClampNeg) := by
  have r : cl.slots.size = k := by rw [← hk, ← G]; simp
  rw [r]; exact q
theorem own_get {xs : List Value} {cl : Cell} {i : Nat} (G : cl.slots.toList = xs) (q : xs[i]? = some v) : cl.slots[i]? = some v := by rw [← Array.getElem?_toList, G]; exact q
theorem own_len {xs : List Value} {cl : Cell} {z : Int32} (G : cl.slots.toList = xs) (q : xs.length.toInt32 = z) : cl.slots.size.toInt32 = z := by rw [← q, ← G]; simp
theorem own_fI {t : Term} {k : Int32} (ht : t.eval args s none [] s = some (.ref a)) (q : (Jvm.Cond.eq (Term.field t C n d) (Term.int k)).value args s none s [] = some true) : Fld s s.heap a C n d (.int k) := by
  obtain ⟨x, y, e1, e2, -, e4⟩ := cmp_v (Or.inl q)
  cases (Term.int_eval k).symm.trans e2
  obtain ⟨z, rfl⟩ := e4
  have r := gotT (Cond.eq_ints e1 (Term.int_eval k)) q
  subst r
  rw [fld_at ht] at e1
  exact Fld.start e1
theorem own_fR {t u : Term} (hu : u.eval args s none [] s = some (.ref b)) (ht : t.eval args s none [] s = some (.ref a)) (q : (Jvm.Cond.eq (Term.field t C n d) u).value args s none s [] = some true) : Fld s s.heap a C n d (.ref b) := by
  obtain ⟨x, y, e1, e2, -, e4⟩ := cmp_v (Or.inl q)
  cases hu.symm.trans e2
  have r := gotT (eq_R e1 hu e4.2 rfl) q
  subst r
  rw [fld_at ht] at e1
  exact Fld.start e1
theorem own_fN {t : Term} (ht : t.eval args s none [] s = some (.ref a)) (q : (Jvm.Cond.eq (Term.field t C n d) Term.null).value args s none s [] = some true) : Fld s s.heap a C n d .null := by
  have e1 := null_v q
  rw [fld_at ht] at e1
  exact Fld.start e1
theorem own_arg1 {args : Array Value} (h1 : (Jvm.Cond.count 1).value args s none s [] = some true) : ∃ w0 : Value, args = #[w0] := by
  have hs : args.size = 1 := by simpa [Cond.value] using h1
  obtain ⟨L⟩ := args
  match L, hs with
  | [w0], _ => exact ⟨w0, rfl⟩
theorem own_arg2 {args : Array Value} (h1 : (Jvm.Cond.count 2).value args s none s [] = some true) : ∃ w0 w1 : Value, args = #[w0, w1] := by
  have hs : args.size = 2 := by simpa [Cond.value] using h1
  obtain ⟨L⟩ := args
  match L, hs with
  | [w0, w1], _ => exact ⟨w0, w1, rfl⟩
theorem own_arg3 {args : Array Value} (h1 : (Jvm.Cond.count 3).value args s none s [] = some true) : ∃ w0 w1 w2 : Value, args = #[w0, w1, w2] := by
  have hs : args.size = 3 := by simpa [Cond.value] using h1
  obtain ⟨L⟩ := args
  match L, hs with
  | [w0, w1, w2], _ => exact ⟨w0, w1, w2, rfl⟩
theorem own_narB (q : Prop) [Decidable q] : nar .boolean (if q then (1 : Int32) else (0 : Int32)) = if q then (1 : Int32) else (0 : Int32) := by split <;> rfl
theorem own_mod (x k : Int32) (z : Int) (hk : k.toInt = z) (hz : 0 < z) : 0 ≤ ((x &&& (2147483647 : Int32)) % k).toInt ∧ ((x &&& (2147483647 : Int32)) % k).toInt < z := by
  have h1 := c_and x (2147483647 : Int32) (by decide)
  rw [(c_irem (x &&& (2147483647 : Int32)) k z hk).1 h1.1]
  exact ⟨Int.emod_nonneg _ (by omega), Int.emod_lt_of_pos _ hz⟩
theorem own_and3 (x : Int32) : (x &&& (3 : Int32)) = 0 ∨ (x &&& (3 : Int32)) = 1 ∨ (x &&& (3 : Int32)) = 2 ∨ (x &&& (3 : Int32)) = 3 := by
  have h1 := c_and x (3 : Int32) (by decide)
  have e3 : (3 : Int32).toInt = 3 := by decide
  rw [e3] at h1
  have e : (x &&& (3 : Int32)).toInt = 0 ∨ (x &&& (3 : Int32)).toInt = 1 ∨ (x &&& (3 : Int32)).toInt = 2 ∨ (x &&& (3 : Int32)).toInt = 3 := by omega
  rcases e with e | e | e | e
  · exact Or.inl (Int32.toInt_inj.mp e)
  · exact Or.inr (Or.inl (Int32.toInt_inj.mp e))
  · exact Or.inr (Or.inr (Or.inl (Int32.toInt_inj.mp e)))
  · exact Or.inr (Or.inr (Or.inr (Int32.toInt_inj.mp e)))
end OwnKit
section OwnKit2
variable {args : Array Value} {s : State} {a b : Addr} {cl : Cell}
theorem own_slen {t : Term} {z : Int32} (hz : ¬ z < 0) (q : (Jvm.Cond.eq (Term.length t) (Term.int z)).value args s none s [] = some true) (ht : t.eval args s none [] s = some (.ref a)) (hc : s.heap[a]? = some cl) : cl.slots.size = z.toNatClampNeg := by
  obtain ⟨x, y, e1, e2, -, e4⟩ := cmp_v (Or.inl q)
  cases (Term.int_eval z).symm.trans e2
  obtain ⟨k, rfl⟩ := e4
  have r := gotT (Cond.eq_ints e1 (Term.int_eval z)) q
  subst r
  obtain ⟨a', c', g1, g2, g3⟩ := Term.length_spec e1
  have g6 := SBG.length_lt g1 g2 e1
  cases ht.symm.trans g1
  have g5 : c' = cl := Option.some.inj ((State.arrayAt?_spec g2).1.symm.trans hc)
  subst g5
  have h3 : c'.slots.size.toInt32 = k := (Value.int.inj g3).symm
  have h1 := back32 hz
  have h4 : c'.slots.size.toInt32.toInt = (c'.slots.size : Int) := len_toInt g6
  have h5 : k.toNatClampNeg.toInt32.toInt = (k.toNatClampNeg : Int) := len_toInt h1.2
  rw [h1.1] at h5
  rw [h3] at h4
  omega
theorem own_selem {t u : Term} {j : Int32} (hu : u.eval args s none [] s = some (.ref b)) (ht : t.eval args s none [] s = some (.ref a)) (hc : s.heap[a]? = some cl) (q : (Jvm.Cond.eq (Term.elem t (Term.int j)) u).value args s none s [] = some true) : cl.slots[j.toNatClampNeg]? = some (.ref b) := by
  obtain ⟨x, y, e1, e2, -, e4⟩ := cmp_v (Or.inl q)
  cases hu.symm.trans e2
  have r := gotT (eq_R e1 hu e4.2 rfl) q
  subst r
  exact (elem_in e1 ht (Term.int_eval j) hc).2
theorem own_list6 {A : Array Value} (hs : A.size = 6) {v0 v1 v2 v3 v4 v5 : Value} (h0 : A[0]? = some v0) (h1 : A[1]? = some v1) (h2 : A[2]? = some v2) (h3 : A[3]? = some v3) (h4 : A[4]? = some v4) (h5 : A[5]? = some v5) : A.toList = [v0, v1, v2, v3, v4, v5] := by
  obtain ⟨l⟩ := A
  match l, hs with
  | [a, b, c, d, e, f], _ =>
    simp at h0 h1 h2 h3 h4 h5
    simp [h0, h1, h2, h3, h4, h5]
theorem own_list4 {A : Array Value} (hs : A.size = 4) {v0 v1 v2 v3 : Value} (h0 : A[0]? = some v0) (h1 : A[1]? = some v1) (h2 : A[2]? = some v2) (h3 : A[3]? = some v3) : A.toList = [v0, v1, v2, v3] := by
  obtain ⟨l⟩ := A
  match l, hs with
  | [a, b, c, d], _ =>
    simp at h0 h1 h2 h3
    simp [h0, h1, h2, h3]
end OwnKit2
section OwnKit3
variable {Z : State} {h h' h0 : Heap} {a b : Addr} {v : Value} {ty : FieldType} {k : ClassId} {xs : List Value} {n0 : Nat} {ws : List Addr} {sl : Nat}
theorem OwnLst.lt (F : OwnLst Z h a ty k xs) : a < h.size := by obtain ⟨cl, A, -⟩ := F; exact A.lt
theorem own_old_ext (O : Old Z n0 h) (E : Ext h h') : Old Z n0 h' := ⟨O.1, own_ext_tr O.2 E⟩
theorem own_ne_lt (q : a < h.size) (g : b = h.size) : a ≠ b := fun r => by rw [r, g] at q; exact Nat.lt_irrefl _ q
theorem own_ne_le (q : a < h.size) (g : h.size ≤ b) : a ≠ b := fun r => by rw [r] at q; exact Nat.lt_irrefl _ (Nat.lt_of_lt_of_le q g)
theorem own_lst_eq {xs' : List Value} (F : OwnLst Z h a ty k xs) (q : xs = xs') : OwnLst Z h a ty k xs' := q ▸ F
end OwnKit3
theorem own_d_prog_50_method_4_0 : decode prog_50_method_4_code 0 = .ok (.iload_n 0, 1) := by decide +kernel
theorem own_d_prog_50_method_4_1 : decode prog_50_method_4_code 1 = .ok (.ifCond .eq 19, 3) := by decide +kernel
theorem own_d_prog_50_method_4_4 : decode prog_50_method_4_code 4 = .ok (.iload_n 1, 1) := by decide +kernel
theorem own_d_prog_50_method_4_5 : decode prog_50_method_4_code 5 = .ok (.ifCond .eq 9, 3) := by decide +kernel
theorem own_d_prog_50_method_4_8 : decode prog_50_method_4_code 8 = .ok (.getstatic 13, 3) := by decide +kernel
theorem own_d_prog_50_method_4_11 : decode prog_50_method_4_code 11 = .ok (.goto 22, 3) := by decide +kernel
theorem own_d_prog_50_method_4_14 : decode prog_50_method_4_code 14 = .ok (.getstatic 7, 3) := by decide +kernel
theorem own_d_prog_50_method_4_17 : decode prog_50_method_4_code 17 = .ok (.goto 16, 3) := by decide +kernel
theorem own_d_prog_50_method_4_20 : decode prog_50_method_4_code 20 = .ok (.iload_n 1, 1) := by decide +kernel
theorem own_d_prog_50_method_4_21 : decode prog_50_method_4_code 21 = .ok (.ifCond .eq 9, 3) := by decide +kernel
theorem own_d_prog_50_method_4_24 : decode prog_50_method_4_code 24 = .ok (.getstatic 10, 3) := by decide +kernel
theorem own_d_prog_50_method_4_27 : decode prog_50_method_4_code 27 = .ok (.goto 6, 3) := by decide +kernel
theorem own_d_prog_50_method_4_30 : decode prog_50_method_4_code 30 = .ok (.getstatic 3, 3) := by decide +kernel
theorem own_d_prog_50_method_4_33 : decode prog_50_method_4_code 33 = .ok (.areturn, 1) := by decide +kernel
theorem own_d_prog_50_method_5_0 : decode prog_50_method_5_code 0 = .ok (.aload_n 0, 1) := by decide +kernel
theorem own_d_prog_50_method_5_1 : decode prog_50_method_5_code 1 = .ok (.getfield 35, 3) := by decide +kernel
theorem own_d_prog_50_method_5_4 : decode prog_50_method_5_code 4 = .ok (.ireturn, 1) := by decide +kernel
theorem own_d_prog_50_method_6_0 : decode prog_50_method_6_code 0 = .ok (.aload_n 0, 1) := by decide +kernel
theorem own_d_prog_50_method_6_1 : decode prog_50_method_6_code 1 = .ok (.getfield 39, 3) := by decide +kernel
theorem own_d_prog_50_method_6_4 : decode prog_50_method_6_code 4 = .ok (.ireturn, 1) := by decide +kernel
theorem own_pn0 : plainName "com/example/fieldloom/fieldloom/model/Sign" = true := by first | (simp [plainName, overriddenIn]; done) | decide +kernel
theorem own_pn1 : plainName "com/example/fieldloom/fieldloom/model/SignOfPinLaw" = true := by first | (simp [plainName, overriddenIn]; done) | decide +kernel
theorem own_pd0 : parseMethodDescriptor "(ZZ)Lcom/example/fieldloom/fieldloom/model/Sign;" = some ⟨[.boolean, .boolean], some (.object "com/example/fieldloom/fieldloom/model/Sign")⟩ := by decide +kernel
theorem own_pd1 : parseMethodDescriptor "()Z" = some ⟨[], some .boolean⟩ := by decide +kernel
def own_sel (b_TRAILING b_LEADING b_TRAILING_SEPARATE b_LEADING_SEPARATE : Addr) (l s : Int32) : Addr := if l = (0 : Int32) then (if s = (0 : Int32) then b_TRAILING else b_TRAILING_SEPARATE) else (if s = (0 : Int32) then b_LEADING else b_LEADING_SEPARATE)
theorem rm_of_ef (m : MethodId) (x0 : Int32) (x1 : Int32) : entryFrame m #[(.int x0), (.int x1)] 2 = mkF m 0 #[.val (.int x0), .val (.int x1)] [] := by first | (simp [entryFrame, mkF, argsToLocals, Value.category]; done) | rfl
def rm_of_Q (Z : State) (lv : Int32) (sv : Int32) (b_TRAILING : Addr) (b_LEADING : Addr) (b_TRAILING_SEPARATE : Addr) (b_LEADING_SEPARATE : Addr) (h0 : Heap) (n0 : Nat) (v : Option Value) (h : Heap) (L : List Loc) : Prop := v = some (.ref (own_sel b_TRAILING b_LEADING b_TRAILING_SEPARATE b_LEADING_SEPARATE lv sv)) ∧ Fr n0 L ∧ h = h0
set_option maxRecDepth 65536 in
set_option maxHeartbeats 40000000 in
theorem rm_of (l : Launch) (Z : State) (a0 : Array Value) (hw : ∀ d ∈ tables_1, d.before a0 Z = true) (ws : List Jvm.Cond) (lv : Int32) (sv : Int32) (b_TRAILING : Addr) (b_LEADING : Addr) (b_TRAILING_SEPARATE : Addr) (b_LEADING_SEPARATE : Addr) (h0 : Heap) (n0 : Nat) (Z0 : n0 ≤ h0.size) (S_TRAILING : Sta Z h0 "com/example/fieldloom/fieldloom/model/Sign" "TRAILING" "Lcom/example/fieldloom/fieldloom/model/Sign;" (.ref b_TRAILING)) (S_LEADING : Sta Z h0 "com/example/fieldloom/fieldloom/model/Sign" "LEADING" "Lcom/example/fieldloom/fieldloom/model/Sign;" (.ref b_LEADING)) (S_TRAILING_SEPARATE : Sta Z h0 "com/example/fieldloom/fieldloom/model/Sign" "TRAILING_SEPARATE" "Lcom/example/fieldloom/fieldloom/model/Sign;" (.ref b_TRAILING_SEPARATE)) (S_LEADING_SEPARATE : Sta Z h0 "com/example/fieldloom/fieldloom/model/Sign" "LEADING_SEPARATE" "Lcom/example/fieldloom/fieldloom/model/Sign;" (.ref b_LEADING_SEPARATE)) :
    MetFree l (⟨"com/example/fieldloom/fieldloom/model/Sign", "of", "(ZZ)Lcom/example/fieldloom/fieldloom/model/Sign;"⟩ : MethodName) (head1 (Jvm.Cond.code (⟨"com/example/fieldloom/fieldloom/model/Sign", "of", "(ZZ)Lcom/example/fieldloom/fieldloom/model/Sign;"⟩ : MethodName) prog_50_method_4_code 2 (some (.object "com/example/fieldloom/fieldloom/model/Sign")) :: ws) ({ frames := 0, cells := 0, slots := 0, locals := 0 } : Room)) (fun a₀ U₀ => a₀ = #[(.int lv), (.int sv)] ∧ Z.Warmed39 U₀.vm ∧ U₀.heap = h0) (fun _ _ _ _ _ => True) (fun _ U₀ o₀ U₁ => ∃ v₀ L₀, o₀ = .returned v₀ ∧ rm_of_Q Z lv sv b_TRAILING b_LEADING b_TRAILING_SEPARATE b_LEADING_SEPARATE h0 n0 v₀ U₁.heap L₀ ∧ FrameEnd U₀ o₀ U₁ L₀ ({ frames := 0, cells := 0, slots := 0, locals := 0 } : Room).cells ({ frames := 0, cells := 0, slots := 0, locals := 0 } : Room).slots) := by
  refine MetFree.of_bodySF (plainFor_of_name own_pn0) hisR ?_
  intro p e s m args below meth c s₁ Bd hml0 hP hK
  obtain ⟨rfl, hZ, hh⟩ := hP
  have hx := Bd.exec
  have hby := Bd.bytes
  have hml : c.maxLocals = 2 := hml0
  have hown : s.vm.findClass "com/example/fieldloom/fieldloom/model/Sign" = some m.cls := findClass_of_methodNamed Bd.named
  have hnm := (name_of_methodNamed Bd.named Bd.method).1
  have X0 : Stand p l e ({ frames := 0, cells := 0, slots := 0, locals := 0 } : Room) s m #[(.int lv), (.int sv)] below meth c s₁ [] 0 0 := Stand.of_body Bd
  have e0 : s₁.heap = h0 := by rw [← hh, Bd.state]; rfl
  have N0 := Fr.nil n0
  have pre0 : ∀ t, Steps p.tables e below (s₁.setTop (mkF m 0 #[.val (.int lv), .val (.int sv)] [])) t → Steps p.tables e below (s₁.setTop (entryFrame m #[(.int lv), (.int sv)] 2)) t := fun t kk₀ => castTop (rm_of_ef m lv sv) kk₀
  by_cases q0 : lv = (0 : Int32) <;> by_cases q1 : sv = (0 : Int32)
  · obtain ⟨T4, X4, e4, st4⟩ := getS X0 hx hZ (host := "") hown (hw _ (List.mem_of_getElem? (i := 4) rfl)) Via.refl e0 S_TRAILING (g := (mkF m 30 #[.val (.int lv), .val (.int sv)] [])) rfl (hb hby own_d_prog_50_method_4_30)
    obtain ⟨fs, hr, hrun, hended, hW, hsame⟩ := X4.leave (v := some (.ref b_TRAILING)) (fun h => by rw [Bd.returns] at h; cases h)
    refine ⟨_, _, pre0 _ ?_, hrun, hended, _, _, rfl, ?_, ⟨_, rfl⟩, hW, hsame.mono (by decide) (by decide)⟩
    · show Steps p.tables e below (s₁.setTop (mkF m 0 #[.val (.int lv), .val (.int sv)] [])) _
      refine XS.iloadN X0.here hx rfl (hb hby own_d_prog_50_method_4_0) rfl ?_
      show Steps p.tables e below (s₁.setTop (mkF m 1 #[.val (.int lv), .val (.int sv)] [(.int lv)])) _
      refine XS.ifYes X0.here hx rfl (pc0 := 1) (pc' := 20) rfl (hb hby own_d_prog_50_method_4_1) rfl ((if0 _ _).trans (teq q0).1) (by decide) (by decide) ?_
      show Steps p.tables e below (s₁.setTop (mkF m 20 #[.val (.int lv), .val (.int sv)] [])) _
      refine XS.iloadN X0.here hx rfl (hb hby own_d_prog_50_method_4_20) rfl ?_
      show Steps p.tables e below (s₁.setTop (mkF m 21 #[.val (.int lv), .val (.int sv)] [(.int sv)])) _
      refine XS.ifYes X0.here hx rfl (pc0 := 21) (pc' := 30) rfl (hb hby own_d_prog_50_method_4_21) rfl ((if0 _ _).trans (teq q1).1) (by decide) (by decide) ?_
      show Steps p.tables e below (s₁.setTop (mkF m 30 #[.val (.int lv), .val (.int sv)] [])) _
      refine st4 _ ?_
      show Steps p.tables e below (T4.setTop (mkF m 33 #[.val (.int lv), .val (.int sv)] [(.ref b_TRAILING)])) _
      exact own_retA X4 hx (by first | rfl | decide) rfl Bd.returns (hb hby own_d_prog_50_method_4_33) hr
    · show rm_of_Q Z lv sv b_TRAILING b_LEADING b_TRAILING_SEPARATE b_LEADING_SEPARATE h0 n0 _ T4.heap _
      rw [e4]
      exact ⟨by simp [own_sel, q0, q1], N0, rfl⟩
  · obtain ⟨T3, X3, e3, st3⟩ := getS X0 hx hZ (host := "") hown (hw _ (List.mem_of_getElem? (i := 31) rfl)) Via.refl e0 S_TRAILING_SEPARATE (g := (mkF m 24 #[.val (.int lv), .val (.int sv)] [])) rfl (hb hby own_d_prog_50_method_4_24)
    obtain ⟨fs, hr, hrun, hended, hW, hsame⟩ := X3.leave (v := some (.ref b_TRAILING_SEPARATE)) (fun h => by rw [Bd.returns] at h; cases h)
    refine ⟨_, _, pre0 _ ?_, hrun, hended, _, _, rfl, ?_, ⟨_, rfl⟩, hW, hsame.mono (by decide) (by decide)⟩
    · show Steps p.tables e below (s₁.setTop (mkF m 0 #[.val (.int lv), .val (.int sv)] [])) _
      refine XS.iloadN X0.here hx rfl (hb hby own_d_prog_50_method_4_0) rfl ?_
      show Steps p.tables e below (s₁.setTop (mkF m 1 #[.val (.int lv), .val (.int sv)] [(.int lv)])) _
      refine XS.ifYes X0.here hx rfl (pc0 := 1) (pc' := 20) rfl (hb hby own_d_prog_50_method_4_1) rfl ((if0 _ _).trans (teq q0).1) (by decide) (by decide) ?_
      show Steps p.tables e below (s₁.setTop (mkF m 20 #[.val (.int lv), .val (.int sv)] [])) _
      refine XS.iloadN X0.here hx rfl (hb hby own_d_prog_50_method_4_20) rfl ?_
      show Steps p.tables e below (s₁.setTop (mkF m 21 #[.val (.int lv), .val (.int sv)] [(.int sv)])) _
      refine XS.ifNo X0.here hx rfl (hb hby own_d_prog_50_method_4_21) rfl ((if0 _ _).trans (feq q1).1) ?_
      show Steps p.tables e below (s₁.setTop (mkF m 24 #[.val (.int lv), .val (.int sv)] [])) _
      refine st3 _ ?_
      show Steps p.tables e below (T3.setTop (mkF m 27 #[.val (.int lv), .val (.int sv)] [(.ref b_TRAILING_SEPARATE)])) _
      refine XS.goto X3.here hx rfl (pc0 := 27) (pc' := 33) rfl (hb hby own_d_prog_50_method_4_27) (by decide) (by decide) ?_
      show Steps p.tables e below (T3.setTop (mkF m 33 #[.val (.int lv), .val (.int sv)] [(.ref b_TRAILING_SEPARATE)])) _
      exact own_retA X3 hx (by first | rfl | decide) rfl Bd.returns (hb hby own_d_prog_50_method_4_33) hr
    · show rm_of_Q Z lv sv b_TRAILING b_LEADING b_TRAILING_SEPARATE b_LEADING_SEPARATE h0 n0 _ T3.heap _
      rw [e3]
      exact ⟨by simp [own_sel, q0, q1], N0, rfl⟩
  · obtain ⟨T2, X2, e2, st2⟩ := getS X0 hx hZ (host := "") hown (hw _ (List.mem_of_getElem? (i := 32) rfl)) Via.refl e0 S_LEADING (g := (mkF m 14 #[.val (.int lv), .val (.int sv)] [])) rfl (hb hby own_d_prog_50_method_4_14)
    obtain ⟨fs, hr, hrun, hended, hW, hsame⟩ := X2.leave (v := some (.ref b_LEADING)) (fun h => by rw [Bd.returns] at h; cases h)
    refine ⟨_, _, pre0 _ ?_, hrun, hended, _, _, rfl, ?_, ⟨_, rfl⟩, hW, hsame.mono (by decide) (by decide)⟩
    · show Steps p.tables e below (s₁.setTop (mkF m 0 #[.val (.int lv), .val (.int sv)] [])) _
      refine XS.iloadN X0.here hx rfl (hb hby own_d_prog_50_method_4_0) rfl ?_
      show Steps p.tables e below (s₁.setTop (mkF m 1 #[.val (.int lv), .val (.int sv)] [(.int lv)])) _
      refine XS.ifNo X0.here hx rfl (hb hby own_d_prog_50_method_4_1) rfl ((if0 _ _).trans (feq q0).1) ?_
      show Steps p.tables e below (s₁.setTop (mkF m 4 #[.val (.int lv), .val (.int sv)] [])) _
      refine XS.iloadN X0.here hx rfl (hb hby own_d_prog_50_method_4_4) rfl ?_
      show Steps p.tables e below (s₁.setTop (mkF m 5 #[.val (.int lv), .val (.int sv)] [(.int sv)])) _
      refine XS.ifYes X0.here hx rfl (pc0 := 5) (pc' := 14) rfl (hb hby own_d_prog_50_method_4_5) rfl ((if0 _ _).trans (teq q1).1) (by decide) (by decide) ?_
      show Steps p.tables e below (s₁.setTop (mkF m 14 #[.val (.int lv), .val (.int sv)] [])) _
      refine st2 _ ?_
      show Steps p.tables e below (T2.setTop (mkF m 17 #[.val (.int lv), .val (.int sv)] [(.ref b_LEADING)])) _
      refine XS.goto X2.here hx rfl (pc0 := 17) (pc' := 33) rfl (hb hby own_d_prog_50_method_4_17) (by decide) (by decide) ?_
      show Steps p.tables e below (T2.setTop (mkF m 33 #[.val (.int lv), .val (.int sv)] [(.ref b_LEADING)])) _
      exact own_retA X2 hx (by first | rfl | decide) rfl Bd.returns (hb hby own_d_prog_50_method_4_33) hr
    · show rm_of_Q Z lv sv b_TRAILING b_LEADING b_TRAILING_SEPARATE b_LEADING_SEPARATE h0 n0 _ T2.heap _
      rw [e2]
      exact ⟨by simp [own_sel, q0, q1], N0, rfl⟩
  · obtain ⟨T1, X1, e1, st1⟩ := getS X0 hx hZ (host := "") hown (hw _ (List.mem_of_getElem? (i := 30) rfl)) Via.refl e0 S_LEADING_SEPARATE (g := (mkF m 8 #[.val (.int lv), .val (.int sv)] [])) rfl (hb hby own_d_prog_50_method_4_8)
    obtain ⟨fs, hr, hrun, hended, hW, hsame⟩ := X1.leave (v := some (.ref b_LEADING_SEPARATE)) (fun h => by rw [Bd.returns] at h; cases h)
    refine ⟨_, _, pre0 _ ?_, hrun, hended, _, _, rfl, ?_, ⟨_, rfl⟩, hW, hsame.mono (by decide) (by decide)⟩
    · show Steps p.tables e below (s₁.setTop (mkF m 0 #[.val (.int lv), .val (.int sv)] [])) _
      refine XS.iloadN X0.here hx rfl (hb hby own_d_prog_50_method_4_0) rfl ?_
      show Steps p.tables e below (s₁.setTop (mkF m 1 #[.val (.int lv), .val (.int sv)] [(.int lv)])) _
      refine XS.ifNo X0.here hx rfl (hb hby own_d_prog_50_method_4_1) rfl ((if0 _ _).trans (feq q0).1) ?_
      show Steps p.tables e below (s₁.setTop (mkF m 4 #[.val (.int lv), .val (.int sv)] [])) _
      refine XS.iloadN X0.here hx rfl (hb hby own_d_prog_50_method_4_4) rfl ?_
      show Steps p.tables e below (s₁.setTop (mkF m 5 #[.val (.int lv), .val (.int sv)] [(.int sv)])) _
      refine XS.ifNo X0.here hx rfl (hb hby own_d_prog_50_method_4_5) rfl ((if0 _ _).trans (feq q1).1) ?_
      show Steps p.tables e below (s₁.setTop (mkF m 8 #[.val (.int lv), .val (.int sv)] [])) _
      refine st1 _ ?_
      show Steps p.tables e below (T1.setTop (mkF m 11 #[.val (.int lv), .val (.int sv)] [(.ref b_LEADING_SEPARATE)])) _
      refine XS.goto X1.here hx rfl (pc0 := 11) (pc' := 33) rfl (hb hby own_d_prog_50_method_4_11) (by decide) (by decide) ?_
      show Steps p.tables e below (T1.setTop (mkF m 33 #[.val (.int lv), .val (.int sv)] [(.ref b_LEADING_SEPARATE)])) _
      exact own_retA X1 hx (by first | rfl | decide) rfl Bd.returns (hb hby own_d_prog_50_method_4_33) hr
    · show rm_of_Q Z lv sv b_TRAILING b_LEADING b_TRAILING_SEPARATE b_LEADING_SEPARATE h0 n0 _ T1.heap _
      rw [e1]
      exact ⟨by simp [own_sel, q0, q1], N0, rfl⟩
theorem rm_leading_ef (m : MethodId) (x0 : Addr) : entryFrame m #[(.ref x0)] 1 = mkF m 0 #[.val (.ref x0)] [] := by first | (simp [entryFrame, mkF, argsToLocals, Value.category]; done) | rfl
def rm_leading_Q (Z : State) (a : Addr) (u : Int32) (h0 : Heap) (n0 : Nat) (v : Option Value) (h : Heap) (L : List Loc) : Prop := v = some (.int u) ∧ Fr n0 L ∧ h = h0
set_option maxRecDepth 65536 in
set_option maxHeartbeats 40000000 in
theorem rm_leading (l : Launch) (Z : State) (a0 : Array Value) (hw : ∀ d ∈ tables_1, d.before a0 Z = true) (ws : List Jvm.Cond) (a : Addr) (u : Int32) (h0 : Heap) (n0 : Nat) (Z0 : n0 ≤ h0.size) (Fu : Fld Z h0 a "com/example/fieldloom/fieldloom/model/Sign" "leading" "Z" (.int u)) (hu : nar .boolean u = u) :
    MetFree l (⟨"com/example/fieldloom/fieldloom/model/Sign", "leading", "()Z"⟩ : MethodName) (head1 (Jvm.Cond.code (⟨"com/example/fieldloom/fieldloom/model/Sign", "leading", "()Z"⟩ : MethodName) prog_50_method_5_code 1 (some .boolean) :: ws) ({ frames := 0, cells := 0, slots := 0, locals := 0 } : Room)) (fun a₀ U₀ => a₀ = #[(.ref a)] ∧ Z.Warmed39 U₀.vm ∧ U₀.heap = h0) (fun _ _ _ _ _ => True) (fun _ U₀ o₀ U₁ => ∃ v₀ L₀, o₀ = .returned v₀ ∧ rm_leading_Q Z a u h0 n0 v₀ U₁.heap L₀ ∧ FrameEnd U₀ o₀ U₁ L₀ ({ frames := 0, cells := 0, slots := 0, locals := 0 } : Room).cells ({ frames := 0, cells := 0, slots := 0, locals := 0 } : Room).slots) := by
  refine MetFree.of_bodySF (plainFor_of_name own_pn0) hisR ?_
  intro p e s m args below meth c s₁ Bd hml0 hP hK
  obtain ⟨rfl, hZ, hh⟩ := hP
  have hx := Bd.exec
  have hby := Bd.bytes
  have hml : c.maxLocals = 1 := hml0
  have hown : s.vm.findClass "com/example/fieldloom/fieldloom/model/Sign" = some m.cls := findClass_of_methodNamed Bd.named
  have hnm := (name_of_methodNamed Bd.named Bd.method).1
  have X0 : Stand p l e ({ frames := 0, cells := 0, slots := 0, locals := 0 } : Room) s m #[(.ref a)] below meth c s₁ [] 0 0 := Stand.of_body Bd
  have e0 : s₁.heap = h0 := by rw [← hh, Bd.state]; rfl
  have N0 := Fr.nil n0
  have pre0 : ∀ t, Steps p.tables e below (s₁.setTop (mkF m 0 #[.val (.ref a)] [])) t → Steps p.tables e below (s₁.setTop (entryFrame m #[(.ref a)] 1)) t := fun t kk₀ => castTop (rm_leading_ef m a) kk₀
  obtain ⟨T5, X5, e5, st5⟩ := getF X0 hx hZ hown (host := "") (Or.inl (hw _ (List.mem_of_getElem? (i := 11) rfl))) Via.refl e0 Fu (g := (mkF m 1 #[.val (.ref a)] [(.ref a)])) rfl rfl (hb hby own_d_prog_50_method_5_1)
  obtain ⟨fs, hr, hrun, hended, hW, hsame⟩ := X5.leave (v := some (.int u)) (fun h => by rw [Bd.returns] at h; cases h)
  refine ⟨_, _, pre0 _ ?_, hrun, hended, _, _, rfl, ?_, ⟨_, rfl⟩, hW, hsame.mono (by decide) (by decide)⟩
  · show Steps p.tables e below (s₁.setTop (mkF m 0 #[.val (.ref a)] [])) _
    refine XS.aloadN X0.here hx rfl (hb hby own_d_prog_50_method_5_0) rfl rfl ?_
    show Steps p.tables e below (s₁.setTop (mkF m 1 #[.val (.ref a)] [(.ref a)])) _
    refine st5 _ ?_
    show Steps p.tables e below (T5.setTop (mkF m 4 #[.val (.ref a)] [(.int u)])) _
    exact own_retZ X5 hx hu Bd.returns (hb hby own_d_prog_50_method_5_4) hr
  · show rm_leading_Q Z a u h0 n0 _ T5.heap _
    rw [e5]
    exact ⟨rfl, N0, rfl⟩
theorem rm_separate_ef (m : MethodId) (x0 : Addr) : entryFrame m #[(.ref x0)] 1 = mkF m 0 #[.val (.ref x0)] [] := by first | (simp [entryFrame, mkF, argsToLocals, Value.category]; done) | rfl
def rm_separate_Q (Z : State) (a : Addr) (u : Int32) (h0 : Heap) (n0 : Nat) (v : Option Value) (h : Heap) (L : List Loc) : Prop := v = some (.int u) ∧ Fr n0 L ∧ h = h0
set_option maxRecDepth 65536 in
set_option maxHeartbeats 40000000 in
theorem rm_separate (l : Launch) (Z : State) (a0 : Array Value) (hw : ∀ d ∈ tables_1, d.before a0 Z = true) (ws : List Jvm.Cond) (a : Addr) (u : Int32) (h0 : Heap) (n0 : Nat) (Z0 : n0 ≤ h0.size) (Fu : Fld Z h0 a "com/example/fieldloom/fieldloom/model/Sign" "separate" "Z" (.int u)) (hu : nar .boolean u = u) :
    MetFree l (⟨"com/example/fieldloom/fieldloom/model/Sign", "separate", "()Z"⟩ : MethodName) (head1 (Jvm.Cond.code (⟨"com/example/fieldloom/fieldloom/model/Sign", "separate", "()Z"⟩ : MethodName) prog_50_method_6_code 1 (some .boolean) :: ws) ({ frames := 0, cells := 0, slots := 0, locals := 0 } : Room)) (fun a₀ U₀ => a₀ = #[(.ref a)] ∧ Z.Warmed39 U₀.vm ∧ U₀.heap = h0) (fun _ _ _ _ _ => True) (fun _ U₀ o₀ U₁ => ∃ v₀ L₀, o₀ = .returned v₀ ∧ rm_separate_Q Z a u h0 n0 v₀ U₁.heap L₀ ∧ FrameEnd U₀ o₀ U₁ L₀ ({ frames := 0, cells := 0, slots := 0, locals := 0 } : Room).cells ({ frames := 0, cells := 0, slots := 0, locals := 0 } : Room).slots) := by
  refine MetFree.of_bodySF (plainFor_of_name own_pn0) hisR ?_
  intro p e s m args below meth c s₁ Bd hml0 hP hK
  obtain ⟨rfl, hZ, hh⟩ := hP
  have hx := Bd.exec
  have hby := Bd.bytes
  have hml : c.maxLocals = 1 := hml0
  have hown : s.vm.findClass "com/example/fieldloom/fieldloom/model/Sign" = some m.cls := findClass_of_methodNamed Bd.named
  have hnm := (name_of_methodNamed Bd.named Bd.method).1
  have X0 : Stand p l e ({ frames := 0, cells := 0, slots := 0, locals := 0 } : Room) s m #[(.ref a)] below meth c s₁ [] 0 0 := Stand.of_body Bd
  have e0 : s₁.heap = h0 := by rw [← hh, Bd.state]; rfl
  have N0 := Fr.nil n0
  have pre0 : ∀ t, Steps p.tables e below (s₁.setTop (mkF m 0 #[.val (.ref a)] [])) t → Steps p.tables e below (s₁.setTop (entryFrame m #[(.ref a)] 1)) t := fun t kk₀ => castTop (rm_separate_ef m a) kk₀
  obtain ⟨T6, X6, e6, st6⟩ := getF X0 hx hZ hown (host := "") (Or.inl (hw _ (List.mem_of_getElem? (i := 18) rfl))) Via.refl e0 Fu (g := (mkF m 1 #[.val (.ref a)] [(.ref a)])) rfl rfl (hb hby own_d_prog_50_method_6_1)
  obtain ⟨fs, hr, hrun, hended, hW, hsame⟩ := X6.leave (v := some (.int u)) (fun h => by rw [Bd.returns] at h; cases h)
  refine ⟨_, _, pre0 _ ?_, hrun, hended, _, _, rfl, ?_, ⟨_, rfl⟩, hW, hsame.mono (by decide) (by decide)⟩
  · show Steps p.tables e below (s₁.setTop (mkF m 0 #[.val (.ref a)] [])) _
    refine XS.aloadN X0.here hx rfl (hb hby own_d_prog_50_method_6_0) rfl rfl ?_
    show Steps p.tables e below (s₁.setTop (mkF m 1 #[.val (.ref a)] [(.ref a)])) _
    refine st6 _ ?_
    show Steps p.tables e below (T6.setTop (mkF m 4 #[.val (.ref a)] [(.int u)])) _
    exact own_retZ X6 hx hu Bd.returns (hb hby own_d_prog_50_method_6_4) hr
  · show rm_separate_Q Z a u h0 n0 _ T6.heap _
    rw [e6]
    exact ⟨rfl, N0, rfl⟩
theorem rm_law_ef (m : MethodId) (x0 : Int32) (x1 : Int32) : entryFrame m #[(.int x0), (.int x1)] maxLocals = mkF m 0 #[.val (.int x0), .val (.int x1), .unset, .unset, .unset, .unset, .unset, .unset, .unset] [] := by first | (simp [entryFrame, mkF, argsToLocals, Value.category, maxLocals]; done) | rfl
def rm_law_Q (Z : State) (p0 : Int32) (p1 : Int32) (b_TRAILING : Addr) (b_LEADING : Addr) (b_TRAILING_SEPARATE : Addr) (b_LEADING_SEPARATE : Addr) (h0 : Heap) (n0 : Nat) (v : Option Value) (h : Heap) (L : List Loc) : Prop := v = some (.int (1 : Int32)) ∧ Fr n0 L
set_option maxRecDepth 65536 in
set_option maxHeartbeats 40000000 in
theorem rm_law (l : Launch) (Z : State) (a0 : Array Value) (hw : ∀ d ∈ tables_1, d.before a0 Z = true) (ws : List Jvm.Cond) (p0 : Int32) (p1 : Int32) (b_TRAILING : Addr) (b_LEADING : Addr) (b_TRAILING_SEPARATE : Addr) (b_LEADING_SEPARATE : Addr) (h0 : Heap) (n0 : Nat) (Z0 : n0 ≤ h0.size) (S_TRAILING : Sta Z h0 "com/example/fieldloom/fieldloom/model/Sign" "TRAILING" "Lcom/example/fieldloom/fieldloom/model/Sign;" (.ref b_TRAILING)) (E_TRAILING : Exa Z h0 b_TRAILING "com/example/fieldloom/fieldloom/model/Sign") (S_LEADING : Sta Z h0 "com/example/fieldloom/fieldloom/model/Sign" "LEADING" "Lcom/example/fieldloom/fieldloom/model/Sign;" (.ref b_LEADING)) (E_LEADING : Exa Z h0 b_LEADING "com/example/fieldloom/fieldloom/model/Sign") (S_TRAILING_SEPARATE : Sta Z h0 "com/example/fieldloom/fieldloom/model/Sign" "TRAILING_SEPARATE" "Lcom/example/fieldloom/fieldloom/model/Sign;" (.ref b_TRAILING_SEPARATE)) (E_TRAILING_SEPARATE : Exa Z h0 b_TRAILING_SEPARATE "com/example/fieldloom/fieldloom/model/Sign") (S_LEADING_SEPARATE : Sta Z h0 "com/example/fieldloom/fieldloom/model/Sign" "LEADING_SEPARATE" "Lcom/example/fieldloom/fieldloom/model/Sign;" (.ref b_LEADING_SEPARATE)) (E_LEADING_SEPARATE : Exa Z h0 b_LEADING_SEPARATE "com/example/fieldloom/fieldloom/model/Sign") (F_TRAILING_leading : Fld Z h0 b_TRAILING "com/example/fieldloom/fieldloom/model/Sign" "leading" "Z" (.int (0 : Int32))) (F_TRAILING_separate : Fld Z h0 b_TRAILING "com/example/fieldloom/fieldloom/model/Sign" "separate" "Z" (.int (0 : Int32))) (F_LEADING_SEPARATE_leading : Fld Z h0 b_LEADING_SEPARATE "com/example/fieldloom/fieldloom/model/Sign" "leading" "Z" (.int (1 : Int32))) (F_LEADING_SEPARATE_separate : Fld Z h0 b_LEADING_SEPARATE "com/example/fieldloom/fieldloom/model/Sign" "separate" "Z" (.int (1 : Int32))) (F_TRAILING_SEPARATE_leading : Fld Z h0 b_TRAILING_SEPARATE "com/example/fieldloom/fieldloom/model/Sign" "leading" "Z" (.int (0 : Int32))) (F_TRAILING_SEPARATE_separate : Fld Z h0 b_TRAILING_SEPARATE "com/example/fieldloom/fieldloom/model/Sign" "separate" "Z" (.int (1 : Int32))) (F_LEADING_leading : Fld Z h0 b_LEADING "com/example/fieldloom/fieldloom/model/Sign" "leading" "Z" (.int (1 : Int32))) (F_LEADING_separate : Fld Z h0 b_LEADING "com/example/fieldloom/fieldloom/model/Sign" "separate" "Z" (.int (0 : Int32))) :
    MetFree l x (head1 (Jvm.Cond.code x code maxLocals ret :: ws) room_1) (fun a₀ U₀ => a₀ = #[(.int p0), (.int p1)] ∧ Z.Warmed39 U₀.vm ∧ U₀.heap = h0) (fun _ _ _ _ _ => True) (fun _ U₀ o₀ U₁ => ∃ v₀ L₀, o₀ = .returned v₀ ∧ rm_law_Q Z p0 p1 b_TRAILING b_LEADING b_TRAILING_SEPARATE b_LEADING_SEPARATE h0 n0 v₀ U₁.heap L₀ ∧ FrameEnd U₀ o₀ U₁ L₀ room_1.cells room_1.slots) := by
  refine MetFree.of_bodySF (plainFor_of_name own_pn1) hisR ?_
  intro p e s m args below meth c s₁ Bd hml0 hP hK
  obtain ⟨rfl, hZ, hh⟩ := hP
  have hx := Bd.exec
  have hby := Bd.bytes
  have hml : c.maxLocals = 9 := hml0
  have hown : s.vm.findClass "com/example/fieldloom/fieldloom/model/SignOfPinLaw" = some m.cls := findClass_of_methodNamed Bd.named
  have hnm := (name_of_methodNamed Bd.named Bd.method).1
  have X0 : Stand p l e room_1 s m #[(.int p0), (.int p1)] below meth c s₁ [] 0 0 := Stand.of_body Bd
  have e0 : s₁.heap = h0 := by rw [← hh, Bd.state]; rfl
  have N0 := Fr.nil n0
  have pre0 : ∀ t, Steps p.tables e below (s₁.setTop (mkF m 0 #[.val (.int p0), .val (.int p1), .unset, .unset, .unset, .unset, .unset, .unset, .unset] [])) t → Steps p.tables e below (s₁.setTop (entryFrame m #[(.int p0), (.int p1)] maxLocals)) t := fun t kk₀ => castTop (rm_law_ef m p0 p1) kk₀
  obtain ⟨vL, hvL⟩ : ∃ z, z = (if (p0 &&& (1 : Int32)) = (0 : Int32) then (0 : Int32) else (1 : Int32)) := ⟨_, rfl⟩
  obtain ⟨vS, hvS⟩ : ∃ z, z = (if (p0 &&& (2 : Int32)) = (0 : Int32) then (0 : Int32) else (1 : Int32)) := ⟨_, rfl⟩
  have hL : vL = (0 : Int32) ∨ vL = (1 : Int32) := by rw [hvL]; split <;> simp
  have hS : vS = (0 : Int32) ∨ vS = (1 : Int32) := by rw [hvS]; split <;> simp
  have nL : nar .boolean vL = vL := by rcases hL with q | q <;> rw [q] <;> rfl
  have nS : nar .boolean vS = vS := by rcases hS with q | q <;> rw [q] <;> rfl
  have E_G : Exa Z h0 (own_sel b_TRAILING b_LEADING b_TRAILING_SEPARATE b_LEADING_SEPARATE vL vS) "com/example/fieldloom/fieldloom/model/Sign" := by
    rcases hL with q | q <;> rcases hS with r | r <;> rw [q, r]
    · exact E_TRAILING
    · exact E_TRAILING_SEPARATE
    · exact E_LEADING
    · exact E_LEADING_SEPARATE
  have FL_G : Fld Z h0 (own_sel b_TRAILING b_LEADING b_TRAILING_SEPARATE b_LEADING_SEPARATE vL vS) "com/example/fieldloom/fieldloom/model/Sign" "leading" "Z" (.int vL) := by
    rcases hL with q | q <;> rcases hS with r | r <;> rw [q, r]
    · exact F_TRAILING_leading
    · exact F_TRAILING_SEPARATE_leading
    · exact F_LEADING_leading
    · exact F_LEADING_SEPARATE_leading
  have FS_G : Fld Z h0 (own_sel b_TRAILING b_LEADING b_TRAILING_SEPARATE b_LEADING_SEPARATE vL vS) "com/example/fieldloom/fieldloom/model/Sign" "separate" "Z" (.int vS) := by
    rcases hL with q | q <;> rcases hS with r | r <;> rw [q, r]
    · exact F_TRAILING_separate
    · exact F_TRAILING_SEPARATE_separate
    · exact F_LEADING_separate
    · exact F_LEADING_SEPARATE_separate
  obtain ⟨K, hK⟩ : ∃ K, (p1 &&& (3 : Int32)) = K := ⟨_, rfl⟩
  have hK4 := own_and3 p1
  rw [hK] at hK4
  obtain ⟨M, ml, ms, hM⟩ : ∃ (M : Addr) (ml ms : Int32), (K = (0 : Int32) ∧ b_TRAILING = M ∧ (0 : Int32) = ml ∧ (0 : Int32) = ms) ∨ (K = (1 : Int32) ∧ b_LEADING = M ∧ (1 : Int32) = ml ∧ (0 : Int32) = ms) ∨ (K = (2 : Int32) ∧ b_TRAILING_SEPARATE = M ∧ (0 : Int32) = ml ∧ (1 : Int32) = ms) ∨ (K = (3 : Int32) ∧ b_LEADING_SEPARATE = M ∧ (1 : Int32) = ml ∧ (1 : Int32) = ms) := by
    rcases hK4 with q | q | q | q
    · exact ⟨_, _, _, Or.inl (⟨q, rfl, rfl, rfl⟩)⟩
    · exact ⟨_, _, _, Or.inr (Or.inl (⟨q, rfl, rfl, rfl⟩))⟩
    · exact ⟨_, _, _, Or.inr (Or.inr (Or.inl (⟨q, rfl, rfl, rfl⟩)))⟩
    · exact ⟨_, _, _, Or.inr (Or.inr (Or.inr (⟨q, rfl, rfl, rfl⟩)))⟩
  have E_M : Exa Z h0 M "com/example/fieldloom/fieldloom/model/Sign" := by
    rcases hM with ⟨q, rfl, rfl, rfl⟩ | ⟨q, rfl, rfl, rfl⟩ | ⟨q, rfl, rfl, rfl⟩ | ⟨q, rfl, rfl, rfl⟩
    · exact E_TRAILING
    · exact E_LEADING
    · exact E_TRAILING_SEPARATE
    · exact E_LEADING_SEPARATE
  have FL_M : Fld Z h0 M "com/example/fieldloom/fieldloom/model/Sign" "leading" "Z" (.int ml) := by
    rcases hM with ⟨q, rfl, rfl, rfl⟩ | ⟨q, rfl, rfl, rfl⟩ | ⟨q, rfl, rfl, rfl⟩ | ⟨q, rfl, rfl, rfl⟩
    · exact F_TRAILING_leading
    · exact F_LEADING_leading
    · exact F_TRAILING_SEPARATE_leading
    · exact F_LEADING_SEPARATE_leading
  have FS_M : Fld Z h0 M "com/example/fieldloom/fieldloom/model/Sign" "separate" "Z" (.int ms) := by
    rcases hM with ⟨q, rfl, rfl, rfl⟩ | ⟨q, rfl, rfl, rfl⟩ | ⟨q, rfl, rfl, rfl⟩ | ⟨q, rfl, rfl, rfl⟩
    · exact F_TRAILING_separate
    · exact F_LEADING_separate
    · exact F_TRAILING_SEPARATE_separate
    · exact F_LEADING_SEPARATE_separate
  have nl : nar .boolean ml = ml := by
    rcases hM with ⟨q, rfl, rfl, rfl⟩ | ⟨q, rfl, rfl, rfl⟩ | ⟨q, rfl, rfl, rfl⟩ | ⟨q, rfl, rfl, rfl⟩ <;> rfl
  have ns : nar .boolean ms = ms := by
    rcases hM with ⟨q, rfl, rfl, rfl⟩ | ⟨q, rfl, rfl, rfl⟩ | ⟨q, rfl, rfl, rfl⟩ | ⟨q, rfl, rfl, rfl⟩ <;> rfl
  have hsel : own_sel b_TRAILING b_LEADING b_TRAILING_SEPARATE b_LEADING_SEPARATE ml ms = M := by
    rcases hM with ⟨q, rfl, rfl, rfl⟩ | ⟨q, rfl, rfl, rfl⟩ | ⟨q, rfl, rfl, rfl⟩ | ⟨q, rfl, rfl, rfl⟩ <;> rfl
  obtain ⟨T7, X7, e7, st7⟩ := own_join X0 (h := h0) (g := (mkF m 3 #[.val (.int p0), .val (.int p1), .unset, .unset, .unset, .unset, .unset, .unset, .unset] [(.int (p0 &&& (1 : Int32)))])) (g' := (mkF m 11 #[.val (.int p0), .val (.int p1), .unset, .unset, .unset, .unset, .unset, .unset, .unset] [(.int vL)])) (by
    by_cases q : (p0 &&& (1 : Int32)) = (0 : Int32)
    · refine ⟨s₁, X0, e0, fun target k => ?_⟩
      rw [hvL, if_pos q] at k
      show Steps p.tables e below (s₁.setTop (mkF m 3 #[.val (.int p0), .val (.int p1), .unset, .unset, .unset, .unset, .unset, .unset, .unset] [(.int (p0 &&& (1 : Int32)))])) _
      refine XS.ifYes X0.here hx rfl (pc0 := 3) (pc' := 10) rfl (hb hby at_3) rfl ((if0 _ _).trans (teq q).1) (by decide) (by decide) ?_
      show Steps p.tables e below (s₁.setTop (mkF m 10 #[.val (.int p0), .val (.int p1), .unset, .unset, .unset, .unset, .unset, .unset, .unset] [])) _
      refine XS.iconst X0.here hx rfl (hb hby at_10) ?_
      exact k
    · refine ⟨s₁, X0, e0, fun target k => ?_⟩
      rw [hvL, if_neg q] at k
      show Steps p.tables e below (s₁.setTop (mkF m 3 #[.val (.int p0), .val (.int p1), .unset, .unset, .unset, .unset, .unset, .unset, .unset] [(.int (p0 &&& (1 : Int32)))])) _
      refine XS.ifNo X0.here hx rfl (hb hby at_3) rfl ((if0 _ _).trans (feq q).1) ?_
      show Steps p.tables e below (s₁.setTop (mkF m 6 #[.val (.int p0), .val (.int p1), .unset, .unset, .unset, .unset, .unset, .unset, .unset] [])) _
      refine XS.iconst X0.here hx rfl (hb hby at_6) ?_
      show Steps p.tables e below (s₁.setTop (mkF m 7 #[.val (.int p0), .val (.int p1), .unset, .unset, .unset, .unset, .unset, .unset, .unset] [(.int (1 : Int32))])) _
      refine XS.goto X0.here hx rfl (pc0 := 7) (pc' := 11) rfl (hb hby at_7) (by decide) (by decide) ?_
      exact k)
  obtain ⟨T8, X8, e8, st8⟩ := own_join X7 (h := h0) (g := (mkF m 15 #[.val (.int p0), .val (.int p1), .val (.int vL), .unset, .unset, .unset, .unset, .unset, .unset] [(.int (p0 &&& (2 : Int32)))])) (g' := (mkF m 23 #[.val (.int p0), .val (.int p1), .val (.int vL), .unset, .unset, .unset, .unset, .unset, .unset] [(.int vS)])) (by
    by_cases q : (p0 &&& (2 : Int32)) = (0 : Int32)
    · refine ⟨T7, X7, e7, fun target k => ?_⟩
      rw [hvS, if_pos q] at k
      show Steps p.tables e below (T7.setTop (mkF m 15 #[.val (.int p0), .val (.int p1), .val (.int vL), .unset, .unset, .unset, .unset, .unset, .unset] [(.int (p0 &&& (2 : Int32)))])) _
      refine XS.ifYes X7.here hx rfl (pc0 := 15) (pc' := 22) rfl (hb hby at_15) rfl ((if0 _ _).trans (teq q).1) (by decide) (by decide) ?_
      show Steps p.tables e below (T7.setTop (mkF m 22 #[.val (.int p0), .val (.int p1), .val (.int vL), .unset, .unset, .unset, .unset, .unset, .unset] [])) _
      refine XS.iconst X7.here hx rfl (hb hby at_22) ?_
      exact k
    · refine ⟨T7, X7, e7, fun target k => ?_⟩
      rw [hvS, if_neg q] at k
      show Steps p.tables e below (T7.setTop (mkF m 15 #[.val (.int p0), .val (.int p1), .val (.int vL), .unset, .unset, .unset, .unset, .unset, .unset] [(.int (p0 &&& (2 : Int32)))])) _
      refine XS.ifNo X7.here hx rfl (hb hby at_15) rfl ((if0 _ _).trans (feq q).1) ?_
      show Steps p.tables e below (T7.setTop (mkF m 18 #[.val (.int p0), .val (.int p1), .val (.int vL), .unset, .unset, .unset, .unset, .unset, .unset] [])) _
      refine XS.iconst X7.here hx rfl (hb hby at_18) ?_
      show Steps p.tables e below (T7.setTop (mkF m 19 #[.val (.int p0), .val (.int p1), .val (.int vL), .unset, .unset, .unset, .unset, .unset, .unset] [(.int (1 : Int32))])) _
      refine XS.goto X7.here hx rfl (pc0 := 19) (pc' := 23) rfl (hb hby at_19) (by decide) (by decide) ?_
      exact k)
  obtain ⟨_, _, ⟨T9, L9, k9, n9⟩, -, X9, ⟨Lc9, hQ9, l9, y9, z9⟩, st9⟩ := Jvm.LawKit.callS X8 hx (y := (⟨"com/example/fieldloom/fieldloom/model/Sign", "of", "(ZZ)Lcom/example/fieldloom/fieldloom/model/Sign;"⟩ : MethodName)) hown (mvT hZ (hw _ (List.mem_of_getElem? (i := 0) rfl))) (mvT hZ (hw _ (List.mem_of_getElem? (i := 1) rfl))) (mvT hZ (hw _ (List.mem_of_getElem? (i := 2) rfl))) (mvT hZ (hw _ (List.mem_of_getElem? (i := 3) rfl))) (by decide) (backOf (W := 0) (rm_of l Z a0 hw [] vL vS b_TRAILING b_LEADING b_TRAILING_SEPARATE b_LEADING_SEPARATE h0 n0 Z0 S_TRAILING S_LEADING S_TRAILING_SEPARATE S_LEADING_SEPARATE) hZ (hw _ (List.mem_of_getElem? (i := 3) rfl)) (hw _ (List.mem_of_getElem? (i := 2) rfl)) (by decide) (by decide)) (g := (mkF m 26 #[.val (.int p0), .val (.int p1), .val (.int vL), .val (.int vS), .unset, .unset, .unset, .unset, .unset] [(.int vS), (.int vL)])) rfl (by rw [hml]; rfl) (argsL := [(.int vL), (.int vS)]) (rest := []) (lenOf own_pd0 rfl) rfl (by show 2 * 0 + _ ≤ _; exact Nat.le_of_eq rfl) (hb hby at_26) (fun _ _ => ⟨rfl, e8, (by decide : 0 + 0 ≤ _), (by decide : 0 + 0 ≤ _)⟩)
  dsimp only [Pt.U, Pt.locs, Pt.cells, Pt.slots] at X9 l9 y9 z9 st9 hQ9
  subst l9 y9 z9
  obtain ⟨rfl, Nq9, eh9⟩ := hQ9
  have N9 := Fr.app N0 Nq9
  obtain ⟨cq10, kq10, q10a, q10b, q10c⟩ := isOf hZ eh9 E_G
  obtain ⟨_, _, ⟨T10, L10, k10, n10⟩, -, X10, ⟨Lc10, hQ10, l10, y10, z10⟩, st10⟩ := X9.virtualBack hx (y := (⟨"com/example/fieldloom/fieldloom/model/Sign", "leading", "()Z"⟩ : MethodName)) (z := (⟨"com/example/fieldloom/fieldloom/model/Sign", "leading", "()Z"⟩ : MethodName)) hown (mvT hZ (hw _ (List.mem_of_getElem? (i := 6) rfl))) (mvT hZ (hw _ (List.mem_of_getElem? (i := 7) rfl))) (notFace_of_selects (args := #[]) (mvT hZ (hw _ (List.mem_of_getElem? (i := 9) rfl)))) (mvT hZ (hw _ (List.mem_of_getElem? (i := 9) rfl))) (mvT hZ (hw _ (List.mem_of_getElem? (i := 8) rfl))) (by decide) (backOf (W := 0) (rm_leading l Z a0 hw [] (own_sel b_TRAILING b_LEADING b_TRAILING_SEPARATE b_LEADING_SEPARATE vL vS) vL h0 n0 Z0 FL_G nL) hZ (hw _ (List.mem_of_getElem? (i := 10) rfl)) (hw _ (List.mem_of_getElem? (i := 2) rfl)) (by decide) (by decide)) q10a q10c (g := (mkF m 40 #[.val (.int p0), .val (.int p1), .val (.int vL), .val (.int vS), .val (.ref (own_sel b_TRAILING b_LEADING b_TRAILING_SEPARATE b_LEADING_SEPARATE vL vS)), .unset, .unset, .unset, .unset] [(.ref (own_sel b_TRAILING b_LEADING b_TRAILING_SEPARATE b_LEADING_SEPARATE vL vS))])) rfl (by rw [hml]; rfl) (Steps.refl _) (argsL := []) (rest := []) (lenOf own_pd1 rfl) rfl (by show 2 * 0 + _ ≤ _; exact Nat.le_of_eq rfl) (hb hby at_40) (fun _ _ => ⟨rfl, eh9, (by decide : 0 + 0 ≤ _), (by decide : 0 + 0 ≤ _)⟩)
  dsimp only [Pt.U, Pt.locs, Pt.cells, Pt.slots] at X10 l10 y10 z10 st10 hQ10
  subst l10 y10 z10
  obtain ⟨rfl, Nq10, eh10⟩ := hQ10
  have N10 := Fr.app N9 Nq10
  obtain ⟨cq11, kq11, q11a, q11b, q11c⟩ := isOf hZ eh10 E_G
  obtain ⟨_, _, ⟨T11, L11, k11, n11⟩, -, X11, ⟨Lc11, hQ11, l11, y11, z11⟩, st11⟩ := X10.virtualBack hx (y := (⟨"com/example/fieldloom/fieldloom/model/Sign", "separate", "()Z"⟩ : MethodName)) (z := (⟨"com/example/fieldloom/fieldloom/model/Sign", "separate", "()Z"⟩ : MethodName)) hown (mvT hZ (hw _ (List.mem_of_getElem? (i := 13) rfl))) (mvT hZ (hw _ (List.mem_of_getElem? (i := 14) rfl))) (notFace_of_selects (args := #[]) (mvT hZ (hw _ (List.mem_of_getElem? (i := 16) rfl)))) (mvT hZ (hw _ (List.mem_of_getElem? (i := 16) rfl))) (mvT hZ (hw _ (List.mem_of_getElem? (i := 15) rfl))) (by decide) (backOf (W := 0) (rm_separate l Z a0 hw [] (own_sel b_TRAILING b_LEADING b_TRAILING_SEPARATE b_LEADING_SEPARATE vL vS) vS h0 n0 Z0 FS_G nS) hZ (hw _ (List.mem_of_getElem? (i := 17) rfl)) (hw _ (List.mem_of_getElem? (i := 2) rfl)) (by decide) (by decide)) q11a q11c (g := (mkF m 49 #[.val (.int p0), .val (.int p1), .val (.int vL), .val (.int vS), .val (.ref (own_sel b_TRAILING b_LEADING b_TRAILING_SEPARATE b_LEADING_SEPARATE vL vS)), .unset, .unset, .unset, .unset] [(.ref (own_sel b_TRAILING b_LEADING b_TRAILING_SEPARATE b_LEADING_SEPARATE vL vS))])) rfl (by rw [hml]; rfl) (Steps.refl _) (argsL := []) (rest := []) (lenOf own_pd1 rfl) rfl (by show 2 * 0 + _ ≤ _; exact Nat.le_of_eq rfl) (hb hby at_49) (fun _ _ => ⟨rfl, eh10, (by decide : 0 + 0 ≤ _), (by decide : 0 + 0 ≤ _)⟩)
  dsimp only [Pt.U, Pt.locs, Pt.cells, Pt.slots] at X11 l11 y11 z11 st11 hQ11
  subst l11 y11 z11
  obtain ⟨rfl, Nq11, eh11⟩ := hQ11
  have N11 := Fr.app N10 Nq11
  obtain ⟨T12, h12, k12, X12, e12, E12, A12, O12, st12⟩ := newR X11 hx hZ hown (hw _ (List.mem_of_getElem? (i := 20) rfl)) (hw _ (List.mem_of_getElem? (i := 21) rfl)) eh11 (g := (mkF m 64 #[.val (.int p0), .val (.int p1), .val (.int vL), .val (.int vS), .val (.ref (own_sel b_TRAILING b_LEADING b_TRAILING_SEPARATE b_LEADING_SEPARATE vL vS)), .val (.int (1 : Int32)), .unset, .unset, .unset] [(.int (4 : Int32))])) rfl (hb hby at_64) rfl (by decide) (cap := 4) (by decide) (by decide) (by decide) (by decide)
  obtain ⟨b12, g12⟩ : ∃ z, z = h0.size := ⟨_, rfl⟩
  rw [← g12] at A12 st12
  have sz12 : h0.size ≤ b12 := Nat.le_of_eq g12.symm
  have XE12 : Ext h0 h12 := E12
  have gn12 : n0 ≤ b12 := Nat.le_trans Z0 sz12
  have Zs12 : n0 ≤ h12.size := Nat.le_trans Z0 XE12.1
  have V12_ : OwnLst Z h12 b12 (.object "com/example/fieldloom/fieldloom/model/Sign") k12 [.null, .null, .null, .null] := own_lst_new A12
  obtain ⟨T13, X13, e13, st13⟩ := getS X12 hx hZ (host := "") hown (hw _ (List.mem_of_getElem? (i := 22) rfl)) Via.refl e12 (S_TRAILING.ext XE12) (g := (mkF m 69 #[.val (.int p0), .val (.int p1), .val (.int vL), .val (.int vS), .val (.ref (own_sel b_TRAILING b_LEADING b_TRAILING_SEPARATE b_LEADING_SEPARATE vL vS)), .val (.int (1 : Int32)), .unset, .unset, .unset] [(.int (0 : Int32)), (.ref b12), (.ref b12)])) rfl (hb hby at_69)
  obtain ⟨cl14, Ar14, q14, G14⟩ := V12_
  obtain ⟨T14, h14, X14, e14, W14, st14⟩ := stR X13 hx hZ e13 Ar14 (j := (0 : Int32)) (own_inb G14 4 rfl (by decide)) rfl (Sto.of Ar14 (by rw [q14]; exact O12) (Ins.self (E_TRAILING.ext XE12))) (g := (mkF m 72 #[.val (.int p0), .val (.int p1), .val (.int vL), .val (.int vS), .val (.ref (own_sel b_TRAILING b_LEADING b_TRAILING_SEPARATE b_LEADING_SEPARATE vL vS)), .val (.int (1 : Int32)), .unset, .unset, .unset] [(.ref b_TRAILING), (.int (0 : Int32)), (.ref b12), (.ref b12)])) rfl rfl (hb hby at_72)
  have N14 := Fr.snoc X14 N11 gn12
  have XE14 : Ext h0 h14 := own_ext_wr XE12 W14 sz12
  have V12_0 := own_lst_set Ar14 q14 G14 W14
  have V12_0 : OwnLst Z h14 b12 (.object "com/example/fieldloom/fieldloom/model/Sign") k12 [.ref b_TRAILING, .null, .null, .null] := V12_0
  obtain ⟨T15, X15, e15, st15⟩ := getS X14 hx hZ (host := "") hown (hw _ (List.mem_of_getElem? (i := 24) rfl)) Via.refl e14 (S_LEADING.ext XE14) (g := (mkF m 75 #[.val (.int p0), .val (.int p1), .val (.int vL), .val (.int vS), .val (.ref (own_sel b_TRAILING b_LEADING b_TRAILING_SEPARATE b_LEADING_SEPARATE vL vS)), .val (.int (1 : Int32)), .unset, .unset, .unset] [(.int (1 : Int32)), (.ref b12), (.ref b12)])) rfl (hb hby at_75)
  obtain ⟨cl16, Ar16, q16, G16⟩ := V12_0
  obtain ⟨T16, h16, X16, e16, W16, st16⟩ := stR X15 hx hZ e15 Ar16 (j := (1 : Int32)) (own_inb G16 4 rfl (by decide)) rfl (Sto.of Ar16 (by rw [q16]; exact O12) (Ins.self (E_LEADING.ext XE14))) (g := (mkF m 78 #[.val (.int p0), .val (.int p1), .val (.int vL), .val (.int vS), .val (.ref (own_sel b_TRAILING b_LEADING b_TRAILING_SEPARATE b_LEADING_SEPARATE vL vS)), .val (.int (1 : Int32)), .unset, .unset, .unset] [(.ref b_LEADING), (.int (1 : Int32)), (.ref b12), (.ref b12)])) rfl rfl (hb hby at_78)
  have N16 := Fr.snoc X16 N14 gn12
  have XE16 : Ext h0 h16 := own_ext_wr XE14 W16 sz12
  have V12_1 := own_lst_set Ar16 q16 G16 W16
  have V12_1 : OwnLst Z h16 b12 (.object "com/example/fieldloom/fieldloom/model/Sign") k12 [.ref b_TRAILING, .ref b_LEADING, .null, .null] := V12_1
  obtain ⟨T17, X17, e17, st17⟩ := getS X16 hx hZ (host := "") hown (hw _ (List.mem_of_getElem? (i := 26) rfl)) Via.refl e16 (S_TRAILING_SEPARATE.ext XE16) (g := (mkF m 81 #[.val (.int p0), .val (.int p1), .val (.int vL), .val (.int vS), .val (.ref (own_sel b_TRAILING b_LEADING b_TRAILING_SEPARATE b_LEADING_SEPARATE vL vS)), .val (.int (1 : Int32)), .unset, .unset, .unset] [(.int (2 : Int32)), (.ref b12), (.ref b12)])) rfl (hb hby at_81)
  obtain ⟨cl18, Ar18, q18, G18⟩ := V12_1
  obtain ⟨T18, h18, X18, e18, W18, st18⟩ := stR X17 hx hZ e17 Ar18 (j := (2 : Int32)) (own_inb G18 4 rfl (by decide)) rfl (Sto.of Ar18 (by rw [q18]; exact O12) (Ins.self (E_TRAILING_SEPARATE.ext XE16))) (g := (mkF m 84 #[.val (.int p0), .val (.int p1), .val (.int vL), .val (.int vS), .val (.ref (own_sel b_TRAILING b_LEADING b_TRAILING_SEPARATE b_LEADING_SEPARATE vL vS)), .val (.int (1 : Int32)), .unset, .unset, .unset] [(.ref b_TRAILING_SEPARATE), (.int (2 : Int32)), (.ref b12), (.ref b12)])) rfl rfl (hb hby at_84)
  have N18 := Fr.snoc X18 N16 gn12
  have XE18 : Ext h0 h18 := own_ext_wr XE16 W18 sz12
  have V12_2 := own_lst_set Ar18 q18 G18 W18
  have V12_2 : OwnLst Z h18 b12 (.object "com/example/fieldloom/fieldloom/model/Sign") k12 [.ref b_TRAILING, .ref b_LEADING, .ref b_TRAILING_SEPARATE, .null] := V12_2
  obtain ⟨T19, X19, e19, st19⟩ := getS X18 hx hZ (host := "") hown (hw _ (List.mem_of_getElem? (i := 28) rfl)) Via.refl e18 (S_LEADING_SEPARATE.ext XE18) (g := (mkF m 87 #[.val (.int p0), .val (.int p1), .val (.int vL), .val (.int vS), .val (.ref (own_sel b_TRAILING b_LEADING b_TRAILING_SEPARATE b_LEADING_SEPARATE vL vS)), .val (.int (1 : Int32)), .unset, .unset, .unset] [(.int (3 : Int32)), (.ref b12), (.ref b12)])) rfl (hb hby at_87)
  obtain ⟨cl20, Ar20, q20, G20⟩ := V12_2
  obtain ⟨T20, h20, X20, e20, W20, st20⟩ := stR X19 hx hZ e19 Ar20 (j := (3 : Int32)) (own_inb G20 4 rfl (by decide)) rfl (Sto.of Ar20 (by rw [q20]; exact O12) (Ins.self (E_LEADING_SEPARATE.ext XE18))) (g := (mkF m 90 #[.val (.int p0), .val (.int p1), .val (.int vL), .val (.int vS), .val (.ref (own_sel b_TRAILING b_LEADING b_TRAILING_SEPARATE b_LEADING_SEPARATE vL vS)), .val (.int (1 : Int32)), .unset, .unset, .unset] [(.ref b_LEADING_SEPARATE), (.int (3 : Int32)), (.ref b12), (.ref b12)])) rfl rfl (hb hby at_90)
  have N20 := Fr.snoc X20 N18 gn12
  have XE20 : Ext h0 h20 := own_ext_wr XE18 W20 sz12
  have V12_3 := own_lst_set Ar20 q20 G20 W20
  have V12_3 : OwnLst Z h20 b12 (.object "com/example/fieldloom/fieldloom/model/Sign") k12 [.ref b_TRAILING, .ref b_LEADING, .ref b_TRAILING_SEPARATE, .ref b_LEADING_SEPARATE] := V12_3
  obtain ⟨cl21, Ar21, q21, G21⟩ := V12_3
  obtain ⟨cq22, kq22, q22a, q22b, q22c⟩ := isOf hZ e20 (E_M.ext XE20)
  obtain ⟨_, _, ⟨T22, L22, k22, n22⟩, -, X22, ⟨Lc22, hQ22, l22, y22, z22⟩, st22⟩ := X20.virtualBack hx (y := (⟨"com/example/fieldloom/fieldloom/model/Sign", "leading", "()Z"⟩ : MethodName)) (z := (⟨"com/example/fieldloom/fieldloom/model/Sign", "leading", "()Z"⟩ : MethodName)) hown (mvT hZ (hw _ (List.mem_of_getElem? (i := 6) rfl))) (mvT hZ (hw _ (List.mem_of_getElem? (i := 7) rfl))) (notFace_of_selects (args := #[]) (mvT hZ (hw _ (List.mem_of_getElem? (i := 9) rfl)))) (mvT hZ (hw _ (List.mem_of_getElem? (i := 9) rfl))) (mvT hZ (hw _ (List.mem_of_getElem? (i := 8) rfl))) (by decide) (backOf (W := 0) (rm_leading l Z a0 hw [] M ml h20 n0 (Nat.le_trans Z0 XE20.1) (FL_M.ext XE20) nl) hZ (hw _ (List.mem_of_getElem? (i := 10) rfl)) (hw _ (List.mem_of_getElem? (i := 2) rfl)) (by decide) (by decide)) q22a q22c (g := (mkF m 103 #[.val (.int p0), .val (.int p1), .val (.int vL), .val (.int vS), .val (.ref (own_sel b_TRAILING b_LEADING b_TRAILING_SEPARATE b_LEADING_SEPARATE vL vS)), .val (.int (1 : Int32)), .val (.ref b12), .val (.ref M), .unset] [(.ref M)])) rfl (by rw [hml]; rfl) (Steps.refl _) (argsL := []) (rest := []) (lenOf own_pd1 rfl) rfl (by show 2 * 0 + _ ≤ _; exact Nat.le_of_eq rfl) (hb hby at_103) (fun _ _ => ⟨rfl, e20, (by decide : 1 + 0 ≤ _), (by decide : 4 + 0 ≤ _)⟩)
  dsimp only [Pt.U, Pt.locs, Pt.cells, Pt.slots] at X22 l22 y22 z22 st22 hQ22
  subst l22 y22 z22
  obtain ⟨rfl, Nq22, eh22⟩ := hQ22
  have N22 := Fr.app N20 Nq22
  obtain ⟨cq23, kq23, q23a, q23b, q23c⟩ := isOf hZ eh22 (E_M.ext XE20)
  obtain ⟨_, _, ⟨T23, L23, k23, n23⟩, -, X23, ⟨Lc23, hQ23, l23, y23, z23⟩, st23⟩ := X22.virtualBack hx (y := (⟨"com/example/fieldloom/fieldloom/model/Sign", "separate", "()Z"⟩ : MethodName)) (z := (⟨"com/example/fieldloom/fieldloom/model/Sign", "separate", "()Z"⟩ : MethodName)) hown (mvT hZ (hw _ (List.mem_of_getElem? (i := 13) rfl))) (mvT hZ (hw _ (List.mem_of_getElem? (i := 14) rfl))) (notFace_of_selects (args := #[]) (mvT hZ (hw _ (List.mem_of_getElem? (i := 16) rfl)))) (mvT hZ (hw _ (List.mem_of_getElem? (i := 16) rfl))) (mvT hZ (hw _ (List.mem_of_getElem? (i := 15) rfl))) (by decide) (backOf (W := 1) (rm_separate l Z a0 hw [] M ms h20 n0 (Nat.le_trans Z0 XE20.1) (FS_M.ext XE20) ns) hZ (hw _ (List.mem_of_getElem? (i := 17) rfl)) (hw _ (List.mem_of_getElem? (i := 2) rfl)) (by decide) (by decide)) q23a q23c (g := (mkF m 108 #[.val (.int p0), .val (.int p1), .val (.int vL), .val (.int vS), .val (.ref (own_sel b_TRAILING b_LEADING b_TRAILING_SEPARATE b_LEADING_SEPARATE vL vS)), .val (.int (1 : Int32)), .val (.ref b12), .val (.ref M), .unset] [(.ref M), (.int ml)])) rfl (by rw [hml]; rfl) (Steps.refl _) (argsL := []) (rest := [(.int ml)]) (lenOf own_pd1 rfl) rfl (by show 2 * 0 + _ ≤ _; exact Nat.le_of_eq rfl) (hb hby at_108) (fun _ _ => ⟨rfl, eh22, (by decide : 1 + 0 ≤ _), (by decide : 4 + 0 ≤ _)⟩)
  dsimp only [Pt.U, Pt.locs, Pt.cells, Pt.slots] at X23 l23 y23 z23 st23 hQ23
  subst l23 y23 z23
  obtain ⟨rfl, Nq23, eh23⟩ := hQ23
  have N23 := Fr.app N22 Nq23
  obtain ⟨_, _, ⟨T24, L24, k24, n24⟩, -, X24, ⟨Lc24, hQ24, l24, y24, z24⟩, st24⟩ := Jvm.LawKit.callS X23 hx (y := (⟨"com/example/fieldloom/fieldloom/model/Sign", "of", "(ZZ)Lcom/example/fieldloom/fieldloom/model/Sign;"⟩ : MethodName)) hown (mvT hZ (hw _ (List.mem_of_getElem? (i := 0) rfl))) (mvT hZ (hw _ (List.mem_of_getElem? (i := 1) rfl))) (mvT hZ (hw _ (List.mem_of_getElem? (i := 2) rfl))) (mvT hZ (hw _ (List.mem_of_getElem? (i := 3) rfl))) (by decide) (backOf (W := 0) (rm_of l Z a0 hw [] ml ms b_TRAILING b_LEADING b_TRAILING_SEPARATE b_LEADING_SEPARATE h20 n0 (Nat.le_trans Z0 XE20.1) (S_TRAILING.ext XE20) (S_LEADING.ext XE20) (S_TRAILING_SEPARATE.ext XE20) (S_LEADING_SEPARATE.ext XE20)) hZ (hw _ (List.mem_of_getElem? (i := 3) rfl)) (hw _ (List.mem_of_getElem? (i := 2) rfl)) (by decide) (by decide)) (g := (mkF m 111 #[.val (.int p0), .val (.int p1), .val (.int vL), .val (.int vS), .val (.ref (own_sel b_TRAILING b_LEADING b_TRAILING_SEPARATE b_LEADING_SEPARATE vL vS)), .val (.int (1 : Int32)), .val (.ref b12), .val (.ref M), .unset] [(.int ms), (.int ml)])) rfl (by rw [hml]; rfl) (argsL := [(.int ml), (.int ms)]) (rest := []) (lenOf own_pd0 rfl) rfl (by show 2 * 0 + _ ≤ _; exact Nat.le_of_eq rfl) (hb hby at_111) (fun _ _ => ⟨rfl, eh23, (by decide : 1 + 0 ≤ _), (by decide : 4 + 0 ≤ _)⟩)
  dsimp only [Pt.U, Pt.locs, Pt.cells, Pt.slots] at X24 l24 y24 z24 st24 hQ24
  subst l24 y24 z24
  obtain ⟨rfl, Nq24, eh24⟩ := hQ24
  have N24 := Fr.app N23 Nq24
  obtain ⟨fs, hr, hrun, hended, hW, hsame⟩ := X24.leave (v := some (.int (1 : Int32))) (fun h => by rw [Bd.returns] at h; cases h)
  refine ⟨_, _, pre0 _ ?_, hrun, hended, _, _, rfl, ?_, ⟨_, rfl⟩, hW, hsame.mono (by decide) (by decide)⟩
  · show Steps p.tables e below (s₁.setTop (mkF m 0 #[.val (.int p0), .val (.int p1), .unset, .unset, .unset, .unset, .unset, .unset, .unset] [])) _
    refine XS.iloadN X0.here hx rfl (hb hby at_0) rfl ?_
    show Steps p.tables e below (s₁.setTop (mkF m 1 #[.val (.int p0), .val (.int p1), .unset, .unset, .unset, .unset, .unset, .unset, .unset] [(.int p0)])) _
    refine XS.iconst X0.here hx rfl (hb hby at_1) ?_
    show Steps p.tables e below (s₁.setTop (mkF m 2 #[.val (.int p0), .val (.int p1), .unset, .unset, .unset, .unset, .unset, .unset, .unset] [(.int (1 : Int32)), (.int p0)])) _
    refine XS.iand X0.here hx rfl (hb hby at_2) rfl ?_
    show Steps p.tables e below (s₁.setTop (mkF m 3 #[.val (.int p0), .val (.int p1), .unset, .unset, .unset, .unset, .unset, .unset, .unset] [(.int (p0 &&& (1 : Int32)))])) _
    refine st7 _ ?_
    show Steps p.tables e below (T7.setTop (mkF m 11 #[.val (.int p0), .val (.int p1), .unset, .unset, .unset, .unset, .unset, .unset, .unset] [(.int vL)])) _
    refine XS.istoreN X7.here hx rfl (hb hby at_11) rfl (l' := #[.val (.int p0), .val (.int p1), .val (.int vL), .unset, .unset, .unset, .unset, .unset, .unset]) rfl ?_
    show Steps p.tables e below (T7.setTop (mkF m 12 #[.val (.int p0), .val (.int p1), .val (.int vL), .unset, .unset, .unset, .unset, .unset, .unset] [])) _
    refine XS.iloadN X7.here hx rfl (hb hby at_12) rfl ?_
    show Steps p.tables e below (T7.setTop (mkF m 13 #[.val (.int p0), .val (.int p1), .val (.int vL), .unset, .unset, .unset, .unset, .unset, .unset] [(.int p0)])) _
    refine XS.iconst X7.here hx rfl (hb hby at_13) ?_
    show Steps p.tables e below (T7.setTop (mkF m 14 #[.val (.int p0), .val (.int p1), .val (.int vL), .unset, .unset, .unset, .unset, .unset, .unset] [(.int (2 : Int32)), (.int p0)])) _
    refine XS.iand X7.here hx rfl (hb hby at_14) rfl ?_
    show Steps p.tables e below (T7.setTop (mkF m 15 #[.val (.int p0), .val (.int p1), .val (.int vL), .unset, .unset, .unset, .unset, .unset, .unset] [(.int (p0 &&& (2 : Int32)))])) _
    refine st8 _ ?_
    show Steps p.tables e below (T8.setTop (mkF m 23 #[.val (.int p0), .val (.int p1), .val (.int vL), .unset, .unset, .unset, .unset, .unset, .unset] [(.int vS)])) _
    refine XS.istoreN X8.here hx rfl (hb hby at_23) rfl (l' := #[.val (.int p0), .val (.int p1), .val (.int vL), .val (.int vS), .unset, .unset, .unset, .unset, .unset]) rfl ?_
    show Steps p.tables e below (T8.setTop (mkF m 24 #[.val (.int p0), .val (.int p1), .val (.int vL), .val (.int vS), .unset, .unset, .unset, .unset, .unset] [])) _
    refine XS.iloadN X8.here hx rfl (hb hby at_24) rfl ?_
    show Steps p.tables e below (T8.setTop (mkF m 25 #[.val (.int p0), .val (.int p1), .val (.int vL), .val (.int vS), .unset, .unset, .unset, .unset, .unset] [(.int vL)])) _
    refine XS.iloadN X8.here hx rfl (hb hby at_25) rfl ?_
    show Steps p.tables e below (T8.setTop (mkF m 26 #[.val (.int p0), .val (.int p1), .val (.int vL), .val (.int vS), .unset, .unset, .unset, .unset, .unset] [(.int vS), (.int vL)])) _
    refine st9 _ ?_
    show Steps p.tables e below (T9.setTop (mkF m 29 #[.val (.int p0), .val (.int p1), .val (.int vL), .val (.int vS), .unset, .unset, .unset, .unset, .unset] [(.ref (own_sel b_TRAILING b_LEADING b_TRAILING_SEPARATE b_LEADING_SEPARATE vL vS))])) _
    refine XS.astore X9.here hx rfl (hb hby at_29) rfl rfl (l' := #[.val (.int p0), .val (.int p1), .val (.int vL), .val (.int vS), .val (.ref (own_sel b_TRAILING b_LEADING b_TRAILING_SEPARATE b_LEADING_SEPARATE vL vS)), .unset, .unset, .unset, .unset]) rfl ?_
    show Steps p.tables e below (T9.setTop (mkF m 31 #[.val (.int p0), .val (.int p1), .val (.int vL), .val (.int vS), .val (.ref (own_sel b_TRAILING b_LEADING b_TRAILING_SEPARATE b_LEADING_SEPARATE vL vS)), .unset, .unset, .unset, .unset] [])) _
    refine XS.aload X9.here hx rfl (hb hby at_31) rfl rfl ?_
    show Steps p.tables e below (T9.setTop (mkF m 33 #[.val (.int p0), .val (.int p1), .val (.int vL), .val (.int vS), .val (.ref (own_sel b_TRAILING b_LEADING b_TRAILING_SEPARATE b_LEADING_SEPARATE vL vS)), .unset, .unset, .unset, .unset] [(.ref (own_sel b_TRAILING b_LEADING b_TRAILING_SEPARATE b_LEADING_SEPARATE vL vS))])) _
    refine XS.ifnonnullYes X9.here hx rfl (pc0 := 33) (pc' := 38) rfl (hb hby at_33) rfl (by decide) (by decide) ?_
    show Steps p.tables e below (T9.setTop (mkF m 38 #[.val (.int p0), .val (.int p1), .val (.int vL), .val (.int vS), .val (.ref (own_sel b_TRAILING b_LEADING b_TRAILING_SEPARATE b_LEADING_SEPARATE vL vS)), .unset, .unset, .unset, .unset] [])) _
    refine XS.aload X9.here hx rfl (hb hby at_38) rfl rfl ?_
    show Steps p.tables e below (T9.setTop (mkF m 40 #[.val (.int p0), .val (.int p1), .val (.int vL), .val (.int vS), .val (.ref (own_sel b_TRAILING b_LEADING b_TRAILING_SEPARATE b_LEADING_SEPARATE vL vS)), .unset, .unset, .unset, .unset] [(.ref (own_sel b_TRAILING b_LEADING b_TRAILING_SEPARATE b_LEADING_SEPARATE vL vS))])) _
    refine st10.trans ?_
    show Steps p.tables e below (T10.setTop (mkF m 43 #[.val (.int p0), .val (.int p1), .val (.int vL), .val (.int vS), .val (.ref (own_sel b_TRAILING b_LEADING b_TRAILING_SEPARATE b_LEADING_SEPARATE vL vS)), .unset, .unset, .unset, .unset] [(.int vL)])) _
    refine XS.iloadN X10.here hx rfl (hb hby at_43) rfl ?_
    show Steps p.tables e below (T10.setTop (mkF m 44 #[.val (.int p0), .val (.int p1), .val (.int vL), .val (.int vS), .val (.ref (own_sel b_TRAILING b_LEADING b_TRAILING_SEPARATE b_LEADING_SEPARATE vL vS)), .unset, .unset, .unset, .unset] [(.int vL), (.int vL)])) _
    refine XS.icmpNo X10.here hx rfl (hb hby at_44) rfl (teq (rfl : vL = vL)).2 ?_
    show Steps p.tables e below (T10.setTop (mkF m 47 #[.val (.int p0), .val (.int p1), .val (.int vL), .val (.int vS), .val (.ref (own_sel b_TRAILING b_LEADING b_TRAILING_SEPARATE b_LEADING_SEPARATE vL vS)), .unset, .unset, .unset, .unset] [])) _
    refine XS.aload X10.here hx rfl (hb hby at_47) rfl rfl ?_
    show Steps p.tables e below (T10.setTop (mkF m 49 #[.val (.int p0), .val (.int p1), .val (.int vL), .val (.int vS), .val (.ref (own_sel b_TRAILING b_LEADING b_TRAILING_SEPARATE b_LEADING_SEPARATE vL vS)), .unset, .unset, .unset, .unset] [(.ref (own_sel b_TRAILING b_LEADING b_TRAILING_SEPARATE b_LEADING_SEPARATE vL vS))])) _
    refine st11.trans ?_
    show Steps p.tables e below (T11.setTop (mkF m 52 #[.val (.int p0), .val (.int p1), .val (.int vL), .val (.int vS), .val (.ref (own_sel b_TRAILING b_LEADING b_TRAILING_SEPARATE b_LEADING_SEPARATE vL vS)), .unset, .unset, .unset, .unset] [(.int vS)])) _
    refine XS.iloadN X11.here hx rfl (hb hby at_52) rfl ?_
    show Steps p.tables e below (T11.setTop (mkF m 53 #[.val (.int p0), .val (.int p1), .val (.int vL), .val (.int vS), .val (.ref (own_sel b_TRAILING b_LEADING b_TRAILING_SEPARATE b_LEADING_SEPARATE vL vS)), .unset, .unset, .unset, .unset] [(.int vS), (.int vS)])) _
    refine XS.icmpNo X11.here hx rfl (hb hby at_53) rfl (teq (rfl : vS = vS)).2 ?_
    show Steps p.tables e below (T11.setTop (mkF m 56 #[.val (.int p0), .val (.int p1), .val (.int vL), .val (.int vS), .val (.ref (own_sel b_TRAILING b_LEADING b_TRAILING_SEPARATE b_LEADING_SEPARATE vL vS)), .unset, .unset, .unset, .unset] [])) _
    refine XS.iconst X11.here hx rfl (hb hby at_56) ?_
    show Steps p.tables e below (T11.setTop (mkF m 57 #[.val (.int p0), .val (.int p1), .val (.int vL), .val (.int vS), .val (.ref (own_sel b_TRAILING b_LEADING b_TRAILING_SEPARATE b_LEADING_SEPARATE vL vS)), .unset, .unset, .unset, .unset] [(.int (1 : Int32))])) _
    refine XS.goto X11.here hx rfl (pc0 := 57) (pc' := 61) rfl (hb hby at_57) (by decide) (by decide) ?_
    show Steps p.tables e below (T11.setTop (mkF m 61 #[.val (.int p0), .val (.int p1), .val (.int vL), .val (.int vS), .val (.ref (own_sel b_TRAILING b_LEADING b_TRAILING_SEPARATE b_LEADING_SEPARATE vL vS)), .unset, .unset, .unset, .unset] [(.int (1 : Int32))])) _
    refine XS.istore X11.here hx rfl (hb hby at_61) rfl (l' := #[.val (.int p0), .val (.int p1), .val (.int vL), .val (.int vS), .val (.ref (own_sel b_TRAILING b_LEADING b_TRAILING_SEPARATE b_LEADING_SEPARATE vL vS)), .val (.int (1 : Int32)), .unset, .unset, .unset]) rfl ?_
    show Steps p.tables e below (T11.setTop (mkF m 63 #[.val (.int p0), .val (.int p1), .val (.int vL), .val (.int vS), .val (.ref (own_sel b_TRAILING b_LEADING b_TRAILING_SEPARATE b_LEADING_SEPARATE vL vS)), .val (.int (1 : Int32)), .unset, .unset, .unset] [])) _
    refine XS.iconst X11.here hx rfl (hb hby at_63) ?_
    show Steps p.tables e below (T11.setTop (mkF m 64 #[.val (.int p0), .val (.int p1), .val (.int vL), .val (.int vS), .val (.ref (own_sel b_TRAILING b_LEADING b_TRAILING_SEPARATE b_LEADING_SEPARATE vL vS)), .val (.int (1 : Int32)), .unset, .unset, .unset] [(.int (4 : Int32))])) _
    refine st12 _ ?_
    show Steps p.tables e below (T12.setTop (mkF m 67 #[.val (.int p0), .val (.int p1), .val (.int vL), .val (.int vS), .val (.ref (own_sel b_TRAILING b_LEADING b_TRAILING_SEPARATE b_LEADING_SEPARATE vL vS)), .val (.int (1 : Int32)), .unset, .unset, .unset] [(.ref b12)])) _
    refine XS.dup X12.here hx rfl (hb hby at_67) rfl rfl ?_
    show Steps p.tables e below (T12.setTop (mkF m 68 #[.val (.int p0), .val (.int p1), .val (.int vL), .val (.int vS), .val (.ref (own_sel b_TRAILING b_LEADING b_TRAILING_SEPARATE b_LEADING_SEPARATE vL vS)), .val (.int (1 : Int32)), .unset, .unset, .unset] [(.ref b12), (.ref b12)])) _
    refine XS.iconst X12.here hx rfl (hb hby at_68) ?_
    show Steps p.tables e below (T12.setTop (mkF m 69 #[.val (.int p0), .val (.int p1), .val (.int vL), .val (.int vS), .val (.ref (own_sel b_TRAILING b_LEADING b_TRAILING_SEPARATE b_LEADING_SEPARATE vL vS)), .val (.int (1 : Int32)), .unset, .unset, .unset] [(.int (0 : Int32)), (.ref b12), (.ref b12)])) _
    refine st13 _ ?_
    show Steps p.tables e below (T13.setTop (mkF m 72 #[.val (.int p0), .val (.int p1), .val (.int vL), .val (.int vS), .val (.ref (own_sel b_TRAILING b_LEADING b_TRAILING_SEPARATE b_LEADING_SEPARATE vL vS)), .val (.int (1 : Int32)), .unset, .unset, .unset] [(.ref b_TRAILING), (.int (0 : Int32)), (.ref b12), (.ref b12)])) _
    refine st14 _ ?_
    show Steps p.tables e below (T14.setTop (mkF m 73 #[.val (.int p0), .val (.int p1), .val (.int vL), .val (.int vS), .val (.ref (own_sel b_TRAILING b_LEADING b_TRAILING_SEPARATE b_LEADING_SEPARATE vL vS)), .val (.int (1 : Int32)), .unset, .unset, .unset] [(.ref b12)])) _
    refine XS.dup X14.here hx rfl (hb hby at_73) rfl rfl ?_
    show Steps p.tables e below (T14.setTop (mkF m 74 #[.val (.int p0), .val (.int p1), .val (.int vL), .val (.int vS), .val (.ref (own_sel b_TRAILING b_LEADING b_TRAILING_SEPARATE b_LEADING_SEPARATE vL vS)), .val (.int (1 : Int32)), .unset, .unset, .unset] [(.ref b12), (.ref b12)])) _
    refine XS.iconst X14.here hx rfl (hb hby at_74) ?_
    show Steps p.tables e below (T14.setTop (mkF m 75 #[.val (.int p0), .val (.int p1), .val (.int vL), .val (.int vS), .val (.ref (own_sel b_TRAILING b_LEADING b_TRAILING_SEPARATE b_LEADING_SEPARATE vL vS)), .val (.int (1 : Int32)), .unset, .unset, .unset] [(.int (1 : Int32)), (.ref b12), (.ref b12)])) _
    refine st15 _ ?_
    show Steps p.tables e below (T15.setTop (mkF m 78 #[.val (.int p0), .val (.int p1), .val (.int vL), .val (.int vS), .val (.ref (own_sel b_TRAILING b_LEADING b_TRAILING_SEPARATE b_LEADING_SEPARATE vL vS)), .val (.int (1 : Int32)), .unset, .unset, .unset] [(.ref b_LEADING), (.int (1 : Int32)), (.ref b12), (.ref b12)])) _
    refine st16 _ ?_
    show Steps p.tables e below (T16.setTop (mkF m 79 #[.val (.int p0), .val (.int p1), .val (.int vL), .val (.int vS), .val (.ref (own_sel b_TRAILING b_LEADING b_TRAILING_SEPARATE b_LEADING_SEPARATE vL vS)), .val (.int (1 : Int32)), .unset, .unset, .unset] [(.ref b12)])) _
    refine XS.dup X16.here hx rfl (hb hby at_79) rfl rfl ?_
    show Steps p.tables e below (T16.setTop (mkF m 80 #[.val (.int p0), .val (.int p1), .val (.int vL), .val (.int vS), .val (.ref (own_sel b_TRAILING b_LEADING b_TRAILING_SEPARATE b_LEADING_SEPARATE vL vS)), .val (.int (1 : Int32)), .unset, .unset, .unset] [(.ref b12), (.ref b12)])) _
    refine XS.iconst X16.here hx rfl (hb hby at_80) ?_
    show Steps p.tables e below (T16.setTop (mkF m 81 #[.val (.int p0), .val (.int p1), .val (.int vL), .val (.int vS), .val (.ref (own_sel b_TRAILING b_LEADING b_TRAILING_SEPARATE b_LEADING_SEPARATE vL vS)), .val (.int (1 : Int32)), .unset, .unset, .unset] [(.int (2 : Int32)), (.ref b12), (.ref b12)])) _
    refine st17 _ ?_
    show Steps p.tables e below (T17.setTop (mkF m 84 #[.val (.int p0), .val (.int p1), .val (.int vL), .val (.int vS), .val (.ref (own_sel b_TRAILING b_LEADING b_TRAILING_SEPARATE b_LEADING_SEPARATE vL vS)), .val (.int (1 : Int32)), .unset, .unset, .unset] [(.ref b_TRAILING_SEPARATE), (.int (2 : Int32)), (.ref b12), (.ref b12)])) _
    refine st18 _ ?_
    show Steps p.tables e below (T18.setTop (mkF m 85 #[.val (.int p0), .val (.int p1), .val (.int vL), .val (.int vS), .val (.ref (own_sel b_TRAILING b_LEADING b_TRAILING_SEPARATE b_LEADING_SEPARATE vL vS)), .val (.int (1 : Int32)), .unset, .unset, .unset] [(.ref b12)])) _
    refine XS.dup X18.here hx rfl (hb hby at_85) rfl rfl ?_
    show Steps p.tables e below (T18.setTop (mkF m 86 #[.val (.int p0), .val (.int p1), .val (.int vL), .val (.int vS), .val (.ref (own_sel b_TRAILING b_LEADING b_TRAILING_SEPARATE b_LEADING_SEPARATE vL vS)), .val (.int (1 : Int32)), .unset, .unset, .unset] [(.ref b12), (.ref b12)])) _
    refine XS.iconst X18.here hx rfl (hb hby at_86) ?_
    show Steps p.tables e below (T18.setTop (mkF m 87 #[.val (.int p0), .val (.int p1), .val (.int vL), .val (.int vS), .val (.ref (own_sel b_TRAILING b_LEADING b_TRAILING_SEPARATE b_LEADING_SEPARATE vL vS)), .val (.int (1 : Int32)), .unset, .unset, .unset] [(.int (3 : Int32)), (.ref b12), (.ref b12)])) _
    refine st19 _ ?_
    show Steps p.tables e below (T19.setTop (mkF m 90 #[.val (.int p0), .val (.int p1), .val (.int vL), .val (.int vS), .val (.ref (own_sel b_TRAILING b_LEADING b_TRAILING_SEPARATE b_LEADING_SEPARATE vL vS)), .val (.int (1 : Int32)), .unset, .unset, .unset] [(.ref b_LEADING_SEPARATE), (.int (3 : Int32)), (.ref b12), (.ref b12)])) _
    refine st20 _ ?_
    show Steps p.tables e below (T20.setTop (mkF m 91 #[.val (.int p0), .val (.int p1), .val (.int vL), .val (.int vS), .val (.ref (own_sel b_TRAILING b_LEADING b_TRAILING_SEPARATE b_LEADING_SEPARATE vL vS)), .val (.int (1 : Int32)), .unset, .unset, .unset] [(.ref b12)])) _
    refine XS.astore X20.here hx rfl (hb hby at_91) rfl rfl (l' := #[.val (.int p0), .val (.int p1), .val (.int vL), .val (.int vS), .val (.ref (own_sel b_TRAILING b_LEADING b_TRAILING_SEPARATE b_LEADING_SEPARATE vL vS)), .val (.int (1 : Int32)), .val (.ref b12), .unset, .unset]) rfl ?_
    show Steps p.tables e below (T20.setTop (mkF m 93 #[.val (.int p0), .val (.int p1), .val (.int vL), .val (.int vS), .val (.ref (own_sel b_TRAILING b_LEADING b_TRAILING_SEPARATE b_LEADING_SEPARATE vL vS)), .val (.int (1 : Int32)), .val (.ref b12), .unset, .unset] [])) _
    refine XS.aload X20.here hx rfl (hb hby at_93) rfl rfl ?_
    show Steps p.tables e below (T20.setTop (mkF m 95 #[.val (.int p0), .val (.int p1), .val (.int vL), .val (.int vS), .val (.ref (own_sel b_TRAILING b_LEADING b_TRAILING_SEPARATE b_LEADING_SEPARATE vL vS)), .val (.int (1 : Int32)), .val (.ref b12), .unset, .unset] [(.ref b12)])) _
    refine XS.iloadN X20.here hx rfl (hb hby at_95) rfl ?_
    show Steps p.tables e below (T20.setTop (mkF m 96 #[.val (.int p0), .val (.int p1), .val (.int vL), .val (.int vS), .val (.ref (own_sel b_TRAILING b_LEADING b_TRAILING_SEPARATE b_LEADING_SEPARATE vL vS)), .val (.int (1 : Int32)), .val (.ref b12), .unset, .unset] [(.int p1), (.ref b12)])) _
    refine XS.iconst X20.here hx rfl (hb hby at_96) ?_
    show Steps p.tables e below (T20.setTop (mkF m 97 #[.val (.int p0), .val (.int p1), .val (.int vL), .val (.int vS), .val (.ref (own_sel b_TRAILING b_LEADING b_TRAILING_SEPARATE b_LEADING_SEPARATE vL vS)), .val (.int (1 : Int32)), .val (.ref b12), .unset, .unset] [(.int (3 : Int32)), (.int p1), (.ref b12)])) _
    refine XS.iand X20.here hx rfl (hb hby at_97) rfl ?_
    rw [hK]
    show Steps p.tables e below (T20.setTop (mkF m 98 #[.val (.int p0), .val (.int p1), .val (.int vL), .val (.int vS), .val (.ref (own_sel b_TRAILING b_LEADING b_TRAILING_SEPARATE b_LEADING_SEPARATE vL vS)), .val (.int (1 : Int32)), .val (.ref b12), .unset, .unset] [(.int K), (.ref b12)])) _
    refine X20.aaload hx (j := K) (v := (.ref M)) (by rw [e20]; exact Ar21.1) (State.isArrayOf_alike hZ.alike Ar21.2.1) rfl Ar21.2.2 (own_inb G21 4 rfl (by rcases hK4 with rfl | rfl | rfl | rfl <;> decide)) (own_get G21 (by rcases hM with ⟨rfl, rfl, rfl, rfl⟩ | ⟨rfl, rfl, rfl, rfl⟩ | ⟨rfl, rfl, rfl, rfl⟩ | ⟨rfl, rfl, rfl, rfl⟩ <;> rfl)) (g := (mkF m 98 #[.val (.int p0), .val (.int p1), .val (.int vL), .val (.int vS), .val (.ref (own_sel b_TRAILING b_LEADING b_TRAILING_SEPARATE b_LEADING_SEPARATE vL vS)), .val (.int (1 : Int32)), .val (.ref b12), .unset, .unset] [(.int K), (.ref b12)])) rfl rfl (hb hby at_98) _ ?_
    show Steps p.tables e below (T20.setTop (mkF m 99 #[.val (.int p0), .val (.int p1), .val (.int vL), .val (.int vS), .val (.ref (own_sel b_TRAILING b_LEADING b_TRAILING_SEPARATE b_LEADING_SEPARATE vL vS)), .val (.int (1 : Int32)), .val (.ref b12), .unset, .unset] [(.ref M)])) _
    refine XS.astore X20.here hx rfl (hb hby at_99) rfl rfl (l' := #[.val (.int p0), .val (.int p1), .val (.int vL), .val (.int vS), .val (.ref (own_sel b_TRAILING b_LEADING b_TRAILING_SEPARATE b_LEADING_SEPARATE vL vS)), .val (.int (1 : Int32)), .val (.ref b12), .val (.ref M), .unset]) rfl ?_
    show Steps p.tables e below (T20.setTop (mkF m 101 #[.val (.int p0), .val (.int p1), .val (.int vL), .val (.int vS), .val (.ref (own_sel b_TRAILING b_LEADING b_TRAILING_SEPARATE b_LEADING_SEPARATE vL vS)), .val (.int (1 : Int32)), .val (.ref b12), .val (.ref M), .unset] [])) _
    refine XS.aload X20.here hx rfl (hb hby at_101) rfl rfl ?_
    show Steps p.tables e below (T20.setTop (mkF m 103 #[.val (.int p0), .val (.int p1), .val (.int vL), .val (.int vS), .val (.ref (own_sel b_TRAILING b_LEADING b_TRAILING_SEPARATE b_LEADING_SEPARATE vL vS)), .val (.int (1 : Int32)), .val (.ref b12), .val (.ref M), .unset] [(.ref M)])) _
    refine st22.trans ?_
    show Steps p.tables e below (T22.setTop (mkF m 106 #[.val (.int p0), .val (.int p1), .val (.int vL), .val (.int vS), .val (.ref (own_sel b_TRAILING b_LEADING b_TRAILING_SEPARATE b_LEADING_SEPARATE vL vS)), .val (.int (1 : Int32)), .val (.ref b12), .val (.ref M), .unset] [(.int ml)])) _
    refine XS.aload X22.here hx rfl (hb hby at_106) rfl rfl ?_
    show Steps p.tables e below (T22.setTop (mkF m 108 #[.val (.int p0), .val (.int p1), .val (.int vL), .val (.int vS), .val (.ref (own_sel b_TRAILING b_LEADING b_TRAILING_SEPARATE b_LEADING_SEPARATE vL vS)), .val (.int (1 : Int32)), .val (.ref b12), .val (.ref M), .unset] [(.ref M), (.int ml)])) _
    refine st23.trans ?_
    show Steps p.tables e below (T23.setTop (mkF m 111 #[.val (.int p0), .val (.int p1), .val (.int vL), .val (.int vS), .val (.ref (own_sel b_TRAILING b_LEADING b_TRAILING_SEPARATE b_LEADING_SEPARATE vL vS)), .val (.int (1 : Int32)), .val (.ref b12), .val (.ref M), .unset] [(.int ms), (.int ml)])) _
    refine st24 _ ?_
    show Steps p.tables e below (T24.setTop (mkF m 114 #[.val (.int p0), .val (.int p1), .val (.int vL), .val (.int vS), .val (.ref (own_sel b_TRAILING b_LEADING b_TRAILING_SEPARATE b_LEADING_SEPARATE vL vS)), .val (.int (1 : Int32)), .val (.ref b12), .val (.ref M), .unset] [(.ref (own_sel b_TRAILING b_LEADING b_TRAILING_SEPARATE b_LEADING_SEPARATE ml ms))])) _
    refine XS.astore X24.here hx rfl (hb hby at_114) rfl rfl (l' := #[.val (.int p0), .val (.int p1), .val (.int vL), .val (.int vS), .val (.ref (own_sel b_TRAILING b_LEADING b_TRAILING_SEPARATE b_LEADING_SEPARATE vL vS)), .val (.int (1 : Int32)), .val (.ref b12), .val (.ref M), .val (.ref (own_sel b_TRAILING b_LEADING b_TRAILING_SEPARATE b_LEADING_SEPARATE ml ms))]) rfl ?_
    show Steps p.tables e below (T24.setTop (mkF m 116 #[.val (.int p0), .val (.int p1), .val (.int vL), .val (.int vS), .val (.ref (own_sel b_TRAILING b_LEADING b_TRAILING_SEPARATE b_LEADING_SEPARATE vL vS)), .val (.int (1 : Int32)), .val (.ref b12), .val (.ref M), .val (.ref (own_sel b_TRAILING b_LEADING b_TRAILING_SEPARATE b_LEADING_SEPARATE ml ms))] [])) _
    refine XS.iload X24.here hx rfl (hb hby at_116) rfl ?_
    show Steps p.tables e below (T24.setTop (mkF m 118 #[.val (.int p0), .val (.int p1), .val (.int vL), .val (.int vS), .val (.ref (own_sel b_TRAILING b_LEADING b_TRAILING_SEPARATE b_LEADING_SEPARATE vL vS)), .val (.int (1 : Int32)), .val (.ref b12), .val (.ref M), .val (.ref (own_sel b_TRAILING b_LEADING b_TRAILING_SEPARATE b_LEADING_SEPARATE ml ms))] [(.int (1 : Int32))])) _
    refine XS.ifNo X24.here hx rfl (hb hby at_118) rfl ((if0 _ _).trans (feq (show ¬ (1 : Int32) = (0 : Int32) by decide)).1) ?_
    show Steps p.tables e below (T24.setTop (mkF m 121 #[.val (.int p0), .val (.int p1), .val (.int vL), .val (.int vS), .val (.ref (own_sel b_TRAILING b_LEADING b_TRAILING_SEPARATE b_LEADING_SEPARATE vL vS)), .val (.int (1 : Int32)), .val (.ref b12), .val (.ref M), .val (.ref (own_sel b_TRAILING b_LEADING b_TRAILING_SEPARATE b_LEADING_SEPARATE ml ms))] [])) _
    refine XS.aload X24.here hx rfl (hb hby at_121) rfl rfl ?_
    show Steps p.tables e below (T24.setTop (mkF m 123 #[.val (.int p0), .val (.int p1), .val (.int vL), .val (.int vS), .val (.ref (own_sel b_TRAILING b_LEADING b_TRAILING_SEPARATE b_LEADING_SEPARATE vL vS)), .val (.int (1 : Int32)), .val (.ref b12), .val (.ref M), .val (.ref (own_sel b_TRAILING b_LEADING b_TRAILING_SEPARATE b_LEADING_SEPARATE ml ms))] [(.ref (own_sel b_TRAILING b_LEADING b_TRAILING_SEPARATE b_LEADING_SEPARATE ml ms))])) _
    refine XS.aload X24.here hx rfl (hb hby at_123) rfl rfl ?_
    show Steps p.tables e below (T24.setTop (mkF m 125 #[.val (.int p0), .val (.int p1), .val (.int vL), .val (.int vS), .val (.ref (own_sel b_TRAILING b_LEADING b_TRAILING_SEPARATE b_LEADING_SEPARATE vL vS)), .val (.int (1 : Int32)), .val (.ref b12), .val (.ref M), .val (.ref (own_sel b_TRAILING b_LEADING b_TRAILING_SEPARATE b_LEADING_SEPARATE ml ms))] [(.ref M), (.ref (own_sel b_TRAILING b_LEADING b_TRAILING_SEPARATE b_LEADING_SEPARATE ml ms))])) _
    refine Jvm.RoadKit.acmp (g := (mkF m 125 #[.val (.int p0), .val (.int p1), .val (.int vL), .val (.int vS), .val (.ref (own_sel b_TRAILING b_LEADING b_TRAILING_SEPARATE b_LEADING_SEPARATE vL vS)), .val (.int (1 : Int32)), .val (.ref b12), .val (.ref M), .val (.ref (own_sel b_TRAILING b_LEADING b_TRAILING_SEPARATE b_LEADING_SEPARATE ml ms))] [(.ref M), (.ref (own_sel b_TRAILING b_LEADING b_TRAILING_SEPARATE b_LEADING_SEPARATE ml ms))])) X24 hx rfl rfl rfl (pc0 := 125) (pc' := 128) (same := true) rfl (hb hby at_125) rfl (decide_eq_true (own_ref_eq hsel)) (by decide) (by decide) ?_
    show Steps p.tables e below (T24.setTop (mkF m 128 #[.val (.int p0), .val (.int p1), .val (.int vL), .val (.int vS), .val (.ref (own_sel b_TRAILING b_LEADING b_TRAILING_SEPARATE b_LEADING_SEPARATE vL vS)), .val (.int (1 : Int32)), .val (.ref b12), .val (.ref M), .val (.ref (own_sel b_TRAILING b_LEADING b_TRAILING_SEPARATE b_LEADING_SEPARATE ml ms))] [])) _
    refine XS.iconst X24.here hx rfl (hb hby at_128) ?_
    show Steps p.tables e below (T24.setTop (mkF m 129 #[.val (.int p0), .val (.int p1), .val (.int vL), .val (.int vS), .val (.ref (own_sel b_TRAILING b_LEADING b_TRAILING_SEPARATE b_LEADING_SEPARATE vL vS)), .val (.int (1 : Int32)), .val (.ref b12), .val (.ref M), .val (.ref (own_sel b_TRAILING b_LEADING b_TRAILING_SEPARATE b_LEADING_SEPARATE ml ms))] [(.int (1 : Int32))])) _
    refine XS.goto X24.here hx rfl (pc0 := 129) (pc' := 133) rfl (hb hby at_129) (by decide) (by decide) ?_
    show Steps p.tables e below (T24.setTop (mkF m 133 #[.val (.int p0), .val (.int p1), .val (.int vL), .val (.int vS), .val (.ref (own_sel b_TRAILING b_LEADING b_TRAILING_SEPARATE b_LEADING_SEPARATE vL vS)), .val (.int (1 : Int32)), .val (.ref b12), .val (.ref M), .val (.ref (own_sel b_TRAILING b_LEADING b_TRAILING_SEPARATE b_LEADING_SEPARATE ml ms))] [(.int (1 : Int32))])) _
    exact own_retZ X24 hx rfl Bd.returns (hb hby at_133) hr
  · show rm_law_Q Z p0 p1 b_TRAILING b_LEADING b_TRAILING_SEPARATE b_LEADING_SEPARATE h0 n0 _ T24.heap _
    rw [eh24]
    exact ⟨rfl, N24⟩
set_option maxRecDepth 65536 in
set_option maxHeartbeats 40000000 in
theorem own_comes {Post : Tables → Env → Array Value → State → Outcome → State → Prop} (hpost : ∀ tb e args s v u, (limb_1_1.after args s (.returned v) u = true ∧ limb_1_2.after args s (.returned v) u = true ∧ True) → FrameEnd s (.returned v) u (Jvm.fieldLocs frame_1_writes args s ++ Jvm.arrayLocs frame_1_arrays args s ++ Jvm.staticLocs frame_1_statics s) 16 128 → Post tb e args s (.returned v) u) :
    ArmFor flags0 classFile x code maxLocals ret World_1 tables_1 room_1 Calls_1 rest_1 Pre_1 Post := by
  intro l hfl _ _ p e ha hc hk s m args below hf hA hF happ hP
  obtain ⟨hcalls, hrest, hpre⟩ := hP
  obtain ⟨-, -, -, hnamed, -, -, -, hat⟩ := (Spec.applies_iff hf).mp happ
  obtain ⟨hg, hn⟩ := and_e (Cond.before_iff.mp (show (Jvm.Cond.and given_1 narrow_1).before args s = true from hpre))
  obtain ⟨h1, h2⟩ := and_e hg
  obtain ⟨w0, w1, rfl⟩ := own_arg2 h1
  have hw := fun d (hd : d ∈ tables_1) => atoms_spec (ws := Jvm.Cond.code x code maxLocals ret :: tables_1) hat d (List.mem_cons_of_mem _ hd)
  have hfit : Fit s := fun {y c} hc i hi => by
    obtain ⟨ha, rfl⟩ := Array.getElem?_eq_some_iff.mp hc
    have q := List.all_eq_true.mp ((Array.all_eq_true_iff_forall_mem.mp hF) _ (Array.getElem_mem ha)) i (List.mem_range.mpr hi)
    simpa [Array.getElem?_eq_getElem hi] using q
  obtain ⟨g0, h2⟩ := and_e h2
  obtain ⟨i0, e0⟩ := is_v g0
  obtain rfl : w0 = (.int i0) := Option.some.inj e0
  have g1 := h2
  obtain ⟨i1, e1⟩ := is_v g1
  obtain rfl : w1 = (.int i1) := Option.some.inj e1
  obtain ⟨c0, hn⟩ := and_e hn
  obtain ⟨c1, hn⟩ := and_e hn
  obtain ⟨c2, hn⟩ := and_e hn
  obtain ⟨c3, hn⟩ := and_e hn
  obtain ⟨c4, hn⟩ := and_e hn
  obtain ⟨c5, hn⟩ := and_e hn
  obtain ⟨c6, hn⟩ := and_e hn
  obtain ⟨c7, hn⟩ := and_e hn
  obtain ⟨c8, hn⟩ := and_e hn
  obtain ⟨c9, hn⟩ := and_e hn
  obtain ⟨c10, hn⟩ := and_e hn
  have c11 := hn
  obtain ⟨b_TRAILING, ev_TRAILING⟩ := exa_v c0
  have S_TRAILING := Sta.start ev_TRAILING (Or.inr ⟨(hw _ (List.mem_of_getElem? (i := 2) rfl)), (hw _ (List.mem_of_getElem? (i := 5) rfl))⟩)
  have E_TRAILING := Exa.start ev_TRAILING c0
  obtain ⟨b_LEADING, ev_LEADING⟩ := exa_v c3
  have S_LEADING := Sta.start ev_LEADING (Or.inr ⟨(hw _ (List.mem_of_getElem? (i := 2) rfl)), (hw _ (List.mem_of_getElem? (i := 25) rfl))⟩)
  have E_LEADING := Exa.start ev_LEADING c3
  obtain ⟨b_TRAILING_SEPARATE, ev_TRAILING_SEPARATE⟩ := exa_v c4
  have S_TRAILING_SEPARATE := Sta.start ev_TRAILING_SEPARATE (Or.inr ⟨(hw _ (List.mem_of_getElem? (i := 2) rfl)), (hw _ (List.mem_of_getElem? (i := 27) rfl))⟩)
  have E_TRAILING_SEPARATE := Exa.start ev_TRAILING_SEPARATE c4
  obtain ⟨b_LEADING_SEPARATE, ev_LEADING_SEPARATE⟩ := exa_v c5
  have S_LEADING_SEPARATE := Sta.start ev_LEADING_SEPARATE (Or.inr ⟨(hw _ (List.mem_of_getElem? (i := 2) rfl)), (hw _ (List.mem_of_getElem? (i := 29) rfl))⟩)
  have E_LEADING_SEPARATE := Exa.start ev_LEADING_SEPARATE c5
  have F_TRAILING_leading := own_fI ev_TRAILING c1
  have F_TRAILING_separate := own_fI ev_TRAILING c2
  have F_LEADING_SEPARATE_leading := own_fI ev_LEADING_SEPARATE c6
  have F_LEADING_SEPARATE_separate := own_fI ev_LEADING_SEPARATE c7
  have F_TRAILING_SEPARATE_leading := own_fI ev_TRAILING_SEPARATE c8
  have F_TRAILING_SEPARATE_separate := own_fI ev_TRAILING_SEPARATE c9
  have F_LEADING_leading := own_fI ev_LEADING c10
  have F_LEADING_separate := own_fI ev_LEADING c11
  obtain ⟨n, o, h1, h2, h3, _, L, rfl, ⟨rfl, N⟩, hq⟩ := rm_law l s _ hw tables_1 i0 i1 b_TRAILING b_LEADING b_TRAILING_SEPARATE b_LEADING_SEPARATE s.heap s.heap.size (Nat.le_refl _) S_TRAILING E_TRAILING S_LEADING E_LEADING S_TRAILING_SEPARATE E_TRAILING_SEPARATE S_LEADING_SEPARATE E_LEADING_SEPARATE F_TRAILING_leading F_TRAILING_separate F_LEADING_SEPARATE_leading F_LEADING_SEPARATE_separate F_TRAILING_SEPARATE_leading F_TRAILING_SEPARATE_separate F_LEADING_leading F_LEADING_separate p e ha hc hk s m _ below hf ((Spec.applies_iff_loose hf).mp happ).1 ⟨rfl, State.Warmed39.refl s, rfl⟩ trivial
  exact ⟨n, _, h1, h2, h3, hpost _ _ _ _ _ _ ⟨Cond.after_iff.mpr rfl, Cond.after_iff.mpr (eq_i res_at (Term.int_eval (1)) rfl), trivial⟩ ⟨hq.1, hq.2.1, (hq.2.2.sift fun y hy => Or.inr (N y hy)).mono (by decide) (by decide)⟩⟩
theorem main_1_1 : Claimed_1_1 := own_comes fun _ _ _ _ _ _ h hF => ⟨h.1, hF⟩
theorem main_1_2 : Claimed_1_2 := own_comes fun _ _ _ _ _ _ h hF => ⟨h.2.1, hF⟩
end Jvm.Pilot.@@N@@
namespace Jvm.Pilot.@@N@@
open Jvm Jvm.ClassFile Sem Op Lib Jvm.Free Jvm.Stand Jvm.Pilot.@@N@@.Jvm.D
/-! MADE BY PROGRAM (witnessworld.py) out of the Statement's table words and the real class files: 13 classes; the members and pool entries that the words name. The judged class is class 1, her method 1. -/
namespace start1
open Jvm.ClassFile
def u (s : String) : CpInfo := .utf8 (stringToUtf16 s)
/-- a pool by its gaps: so many unusable entries, then the entry; so many at the end -/
def gap : Nat → List CpInfo → List CpInfo
  | 0, r => r
  | n + 1, r => .unusable :: gap n r
def poolList (es : List (Nat × CpInfo)) (last : Nat) : List CpInfo := es.foldr (fun e r => gap e.1 (e.2 :: r)) (gap last [])
def pool (es : List (Nat × CpInfo)) (last : Nat) : Array CpInfo := ⟨poolList es last⟩
def fileOf (pool : Array CpInfo) (this : Nat) (attrs : Array Attribute := #[]) (ms : Array MethodInfo := #[]) (fl : Nat := 33) (sup : Nat := 0) (ifs : Array Nat := #[]) (fds : Array FieldInfo := #[]) : ClassFile where
  minorVersion := 0
  majorVersion := 65
  constantPool := pool
  accessFlags := fl
  thisClass := this
  superClass := sup
  interfaces := ifs
  fields := fds
  methods := ms
  attributes := attrs
def plain (name : String) (sup : Option ClassId) : Class where
  name := name
  kind := .ordinary
  loader := none
  accessFlags := 33
  super := sup
  interfaces := #[]
  cf := none
  fields := #[]
  methods := #[]
  instanceTypes := #[]
  staticTypes := #[]
  resolved := #[]
  callSites := []
  init := .initialized
  statics := none
  mirror := none

def pool0 : Array CpInfo := pool [(5, u "<init>"), (0, u "()V"), (1, .class_ 10), (1, u "java/lang/Object")] 113

def k0m0 : Method := { name := "<init>", desc := "()V", sig := { parameters := [], returnType := none }, accessFlags := 1, code := none }
/-- java/lang/Object -/
def k0 : Class := { plain "java/lang/Object" none with
  accessFlags := 33
  interfaces := #[]
  cf := some (fileOf pool0 8 #[] #[{ accessFlags := 1, nameIndex := 5, descriptorIndex := 6, attributes := #[] }] 33 0 #[] #[])
  fields := #[]
  methods := #[k0m0]
  instanceTypes := #[]
  staticTypes := #[]
  resolved := Array.replicate 124 none
  statics := none }

def pool1 : Array CpInfo := pool [(2, .class_ 4), (1, u "java/lang/Object"), (0, u "<init>"), (0, u "()V"), (0, .methodref 8 9), (0, .class_ 10), (0, .nameAndType 11 12), (0, u "com/example/fieldloom/fieldloom/model/Sign"), (0, u "of"), (0, u "(ZZ)Lcom/example/fieldloom/fieldloom/model/Sign;"), (0, .methodref 8 14), (0, .nameAndType 15 16), (0, u "leading"), (0, u "()Z"), (0, .methodref 8 18), (0, .nameAndType 19 16), (0, u "separate"), (0, .fieldref 8 21), (0, .nameAndType 22 23), (0, u "TRAILING"), (0, u "Lcom/example/fieldloom/fieldloom/model/Sign;"), (0, .fieldref 8 25), (0, .nameAndType 26 23), (0, u "LEADING"), (0, .fieldref 8 28), (0, .nameAndType 29 23), (0, u "TRAILING_SEPARATE"), (0, .fieldref 8 31), (0, .nameAndType 32 23), (0, u "LEADING_SEPARATE"), (0, .class_ 34), (0, u "com/example/fieldloom/fieldloom/model/SignOfPinLaw"), (2, u "law"), (0, u "(II)Z")] 5

def k1m0 : Method := { name := "<init>", desc := "()V", sig := { parameters := [], returnType := none }, accessFlags := 1, code := none }
def k1c1 : Code := { maxStack := 4, maxLocals := 9, code := code, exceptionTable := #[], attributes := #[] }
def k1m1 : Method := { name := "law", desc := "(II)Z", sig := { parameters := [.int, .int], returnType := some .boolean }, accessFlags := 9, code := some k1c1 }
/-- com/example/fieldloom/fieldloom/model/SignOfPinLaw -/
def k1 : Class := { plain "com/example/fieldloom/fieldloom/model/SignOfPinLaw" (some 0) with
  accessFlags := 49
  interfaces := #[]
  cf := some (fileOf pool1 33 #[] #[{ accessFlags := 1, nameIndex := 5, descriptorIndex := 6, attributes := #[] }, { accessFlags := 9, nameIndex := 37, descriptorIndex := 38, attributes := #[] }] 49 2 #[] #[])
  fields := #[]
  methods := #[k1m0, k1m1]
  instanceTypes := #[]
  staticTypes := #[]
  resolved := Array.replicate 44 none
  statics := none }

def pool2 : Array CpInfo := pool [(1, .class_ 2), (0, u "java/lang/constant/Constable"), (0, .class_ 4), (0, u "java/lang/Object")] 6

/-- java/lang/constant/Constable -/
def k2 : Class := { plain "java/lang/constant/Constable" (some 0) with
  accessFlags := 1537
  interfaces := #[]
  cf := some (fileOf pool2 1 #[] #[] 1537 3 #[] #[])
  fields := #[]
  methods := #[]
  instanceTypes := #[]
  staticTypes := #[]
  resolved := Array.replicate 11 none
  statics := none }

def pool3 : Array CpInfo := pool [(1, .class_ 2), (0, u "java/lang/Comparable"), (0, .class_ 4), (0, u "java/lang/Object")] 7

/-- java/lang/Comparable -/
def k3 : Class := { plain "java/lang/Comparable" (some 0) with
  accessFlags := 1537
  interfaces := #[]
  cf := some (fileOf pool3 1 #[] #[] 1537 3 #[] #[])
  fields := #[]
  methods := #[]
  instanceTypes := #[]
  staticTypes := #[]
  resolved := Array.replicate 12 none
  statics := none }

def pool4 : Array CpInfo := pool [(1, .class_ 2), (0, u "java/io/Serializable"), (0, .class_ 4), (0, u "java/lang/Object")] 2

/-- java/io/Serializable -/
def k4 : Class := { plain "java/io/Serializable" (some 0) with
  accessFlags := 1537
  interfaces := #[]
  cf := some (fileOf pool4 1 #[] #[] 1537 3 #[] #[])
  fields := #[]
  methods := #[]
  instanceTypes := #[]
  staticTypes := #[]
  resolved := Array.replicate 7 none
  statics := none }

def pool5 : Array CpInfo := pool [(2, .class_ 4), (1, u "java/lang/Enum"), (0, u "name"), (0, u "Ljava/lang/String;"), (2, u "ordinal"), (0, u "I"), (1, .class_ 14), (1, u "java/lang/Object"), (4, u "hash"), (86, .class_ 108), (1, u "java/lang/Enum$EnumDesc"), (2, .class_ 112), (0, u "java/lang/constant/Constable"), (0, .class_ 114), (0, u "java/lang/Comparable"), (0, .class_ 116), (0, u "java/io/Serializable")] 87

/-- java/lang/Enum -/
def k5 : Class := { plain "java/lang/Enum" (some 0) with
  accessFlags := 1057
  interfaces := #[2, 3, 4]
  cf := some (fileOf pool5 2 #[.nestMembers #[106]] #[] 1057 12 #[111, 113, 115] #[{ accessFlags := 18, nameIndex := 5, descriptorIndex := 6, attributes := #[] }, { accessFlags := 18, nameIndex := 9, descriptorIndex := 10, attributes := #[] }, { accessFlags := 2, nameIndex := 19, descriptorIndex := 10, attributes := #[] }])
  fields := #[{ name := "name", type := (.object "java/lang/String"), accessFlags := 18, slot := 0, constantValue := 0 }, { name := "ordinal", type := .int, accessFlags := 18, slot := 1, constantValue := 0 }, { name := "hash", type := .int, accessFlags := 2, slot := 2, constantValue := 0 }]
  methods := #[]
  instanceTypes := #[(.object "java/lang/String"), .int, .int]
  staticTypes := #[]
  resolved := Array.replicate 204 none
  statics := none }

def pool6 : Array CpInfo := pool [(1, .class_ 2), (0, u "com/example/fieldloom/fieldloom/model/Sign"), (0, .fieldref 1 4), (0, .nameAndType 5 6), (0, u "TRAILING"), (0, u "Lcom/example/fieldloom/fieldloom/model/Sign;"), (0, .fieldref 1 8), (0, .nameAndType 9 6), (0, u "LEADING"), (0, .fieldref 1 11), (0, .nameAndType 12 6), (0, u "TRAILING_SEPARATE"), (0, .fieldref 1 14), (0, .nameAndType 15 6), (0, u "LEADING_SEPARATE"), (2, u "$VALUES"), (0, u "[Lcom/example/fieldloom/fieldloom/model/Sign;"), (6, .class_ 28), (1, u "java/lang/Enum"), (6, .fieldref 1 36), (0, .nameAndType 37 38), (0, u "leading"), (0, u "Z"), (0, .fieldref 1 40), (0, .nameAndType 41 38), (0, u "separate"), (18, u "of"), (0, u "(ZZ)Lcom/example/fieldloom/fieldloom/model/Sign;"), (1, u "()Z")] 5

def k6c0 : Code := { maxStack := 1, maxLocals := 2, code := prog_50_method_4_code, exceptionTable := #[], attributes := #[] }
def k6m0 : Method := { name := "of", desc := "(ZZ)Lcom/example/fieldloom/fieldloom/model/Sign;", sig := { parameters := [.boolean, .boolean], returnType := some (.object "com/example/fieldloom/fieldloom/model/Sign") }, accessFlags := 9, code := some k6c0 }
def k6c1 : Code := { maxStack := 1, maxLocals := 1, code := prog_50_method_5_code, exceptionTable := #[], attributes := #[] }
def k6m1 : Method := { name := "leading", desc := "()Z", sig := { parameters := [], returnType := some .boolean }, accessFlags := 1, code := some k6c1 }
def k6c2 : Code := { maxStack := 1, maxLocals := 1, code := prog_50_method_6_code, exceptionTable := #[], attributes := #[] }
def k6m2 : Method := { name := "separate", desc := "()Z", sig := { parameters := [], returnType := some .boolean }, accessFlags := 1, code := some k6c2 }
/-- com/example/fieldloom/fieldloom/model/Sign -/
def k6 : Class := { plain "com/example/fieldloom/fieldloom/model/Sign" (some 5) with
  accessFlags := 16433
  interfaces := #[]
  cf := some (fileOf pool6 1 #[] #[{ accessFlags := 9, nameIndex := 60, descriptorIndex := 61, attributes := #[] }, { accessFlags := 1, nameIndex := 37, descriptorIndex := 63, attributes := #[] }, { accessFlags := 1, nameIndex := 41, descriptorIndex := 63, attributes := #[] }] 16433 26 #[] #[{ accessFlags := 16409, nameIndex := 5, descriptorIndex := 6, attributes := #[] }, { accessFlags := 16409, nameIndex := 9, descriptorIndex := 6, attributes := #[] }, { accessFlags := 16409, nameIndex := 12, descriptorIndex := 6, attributes := #[] }, { accessFlags := 16409, nameIndex := 15, descriptorIndex := 6, attributes := #[] }, { accessFlags := 18, nameIndex := 37, descriptorIndex := 38, attributes := #[] }, { accessFlags := 18, nameIndex := 41, descriptorIndex := 38, attributes := #[] }, { accessFlags := 4122, nameIndex := 18, descriptorIndex := 19, attributes := #[] }])
  fields := #[{ name := "TRAILING", type := (.object "com/example/fieldloom/fieldloom/model/Sign"), accessFlags := 16409, slot := 0, constantValue := 0 }, { name := "LEADING", type := (.object "com/example/fieldloom/fieldloom/model/Sign"), accessFlags := 16409, slot := 1, constantValue := 0 }, { name := "TRAILING_SEPARATE", type := (.object "com/example/fieldloom/fieldloom/model/Sign"), accessFlags := 16409, slot := 2, constantValue := 0 }, { name := "LEADING_SEPARATE", type := (.object "com/example/fieldloom/fieldloom/model/Sign"), accessFlags := 16409, slot := 3, constantValue := 0 }, { name := "leading", type := .boolean, accessFlags := 18, slot := 3, constantValue := 0 }, { name := "separate", type := .boolean, accessFlags := 18, slot := 4, constantValue := 0 }, { name := "$VALUES", type := (.array (.object "com/example/fieldloom/fieldloom/model/Sign")), accessFlags := 4122, slot := 4, constantValue := 0 }]
  methods := #[k6m0, k6m1, k6m2]
  instanceTypes := #[(.object "java/lang/String"), .int, .int, .boolean, .boolean]
  staticTypes := #[(.object "com/example/fieldloom/fieldloom/model/Sign"), (.object "com/example/fieldloom/fieldloom/model/Sign"), (.object "com/example/fieldloom/fieldloom/model/Sign"), (.object "com/example/fieldloom/fieldloom/model/Sign"), (.array (.object "com/example/fieldloom/fieldloom/model/Sign"))]
  resolved := Array.replicate 69 none
  statics := some 0 }

def pool7 : Array CpInfo := pool [(1, u "java/lang/Cloneable"), (0, .class_ 1), (0, u "java/lang/Object"), (0, .class_ 3)] 3

/-- java/lang/Cloneable -/
def k7 : Class := { plain "java/lang/Cloneable" (some 0) with
  accessFlags := 1537
  interfaces := #[]
  cf := some (fileOf pool7 2 #[] #[] 1537 4 #[] #[])
  fields := #[]
  methods := #[]
  instanceTypes := #[]
  staticTypes := #[]
  resolved := Array.replicate 8 none
  statics := none }

/-- the primitive byte -/
def k8 : Class := { plain "byte" none with kind := .primitive 'B', accessFlags := 0x411 }
/-- [B -/
def k9 : Class := { plain "[B" (some 0) with kind := .array 8 .byte, interfaces := #[7, 4], accessFlags := 1041 }

/-- the primitive int -/
def k10 : Class := { plain "int" none with kind := .primitive 'I', accessFlags := 0x411 }
/-- [I -/
def k11 : Class := { plain "[I" (some 0) with kind := .array 10 .int, interfaces := #[7, 4], accessFlags := 1041 }

/-- [Lcom/example/fieldloom/fieldloom/model/Sign; -/
def k12 : Class := { plain "[Lcom/example/fieldloom/fieldloom/model/Sign;" (some 0) with kind := .array 6 (.object "com/example/fieldloom/fieldloom/model/Sign"), interfaces := #[7, 4], accessFlags := 1041 }

def heap : Heap := #[{ cls := 6, slots := #[.ref 1, .ref 2, .ref 3, .ref 4, .null], vm := .statics 6 },
  { cls := 6, slots := #[.null, .int 0, .int 0, .int 0, .int 0], vm := .none },
  { cls := 6, slots := #[.null, .int 0, .int 0, .int 1, .int 0], vm := .none },
  { cls := 6, slots := #[.null, .int 0, .int 0, .int 0, .int 1], vm := .none },
  { cls := 6, slots := #[.null, .int 0, .int 0, .int 1, .int 1], vm := .none }]
def classes : Array Class := #[k0, k1, k2, k3, k4, k5, k6, k7, k8, k9, k10, k11, k12]
def interned : List (Array UInt16 × Addr) := []
def slotsUsed : Nat := 25
def theMethod : MethodId := ⟨1, 1⟩
def args0 : Array Value := #[.int 5, .int 5]
def aboutOver (below : List Frame) : State where
  vm := { classes := classes, interned := interned.toArray }
  heap := heap
  slotsUsed := slotsUsed
  threads := #[{ frames := .invoking theMethod args0 :: below }]
def below0 : List Frame := [.native { method := ⟨0, 0⟩, args := #[] }]
def about1 : State := aboutOver below0
def p0 : Program := .bare "" "" ""
def e0 : Env := launch0.env 0 0 0
theorem w_frames : about1.frames = Frame.invoking theMethod args0 :: below0 := rfl
set_option maxRecDepth 65536 in
theorem w_args : argsFit about1.vm theMethod args0 = true := by decide +kernel
set_option maxRecDepth 65536 in
theorem w_heap : heapFits about1 = true := by decide +kernel
set_option maxRecDepth 65536 in
theorem w_runnable : about1.curStatus? = some .runnable := by decide +kernel
set_option maxRecDepth 65536 in
theorem w_alone : about1.alone = true := by decide +kernel
set_option maxRecDepth 65536 in
theorem w_named : about1.methodNamed? x = some theMethod := by decide +kernel
set_option maxRecDepth 65536 in
theorem w_hears : about1.hears theMethod below0 = true := by decide +kernel
set_option maxRecDepth 65536 in
theorem w_ripe : about1.ripe theMethod args0 below0 = true := by decide +kernel
theorem w_running : about1.status = .running := rfl
set_option maxRecDepth 65536 in
theorem w_room : about1.hasRoom e0.platform room_1 = true :=
  launch0.hasRoom_least _ room_1 (by decide +kernel) (by decide +kernel) (by decide +kernel) (by decide +kernel) (by decide +kernel) (by decide +kernel)
theorem allAtoms_all (ts : List Jvm.Cond) (a : Array Jvm.Value) (st : Jvm.State) : (allAtoms ts).before a st = ts.all (fun c => c.before a st) := by
  induction ts with
  | nil => rfl
  | cons c t ih =>
    show (Jvm.Cond.and c (allAtoms t)).before a st = _
    rw [Jvm.Cond.before_and, ih, List.all_cons]
def words1 : List Jvm.Cond := Jvm.Cond.code x code maxLocals ret :: tables_1
/-- a 'code' word, met by the world's own term for the bytes: nothing is compared byte by byte -/
theorem code_word {y : MethodName} {bytes : ByteArray} {mx : Nat} {rt : Option FieldType} {a : Array Value} {s : State} {m : MethodId} {meth : Method} {c : Code} (h1 : s.methodNamed? y = some m) (h2 : s.vm.method? m = some meth) (h3 : meth.code = some c) (h4 : c.code = bytes)
    (h5 : (c.maxLocals == mx && c.exceptionTable.isEmpty && decide (c.maxStack ≤ mostOperands) && decide (meth.sig.returnType = rt) && !meth.locks && decide (parseMethodDescriptor y.desc = some meth.sig)) = true) : (Jvm.Cond.code y bytes mx rt).before a s = true := by
  simp only [Bool.and_eq_true, beq_iff_eq, Bool.not_eq_true', decide_eq_true_eq] at h5
  obtain ⟨⟨⟨⟨⟨g1, g2⟩, g3⟩, g4⟩, g5⟩, g6⟩ := h5
  simp [Cond.before, Cond.holds, Cond.value, h1, h2, h3, h4, g1, g2, g3, g4, g5, g6]
def isCode : Jvm.Cond → Bool
  | .code _ _ _ _ => true
  | _ => false
theorem all_split {L : List Jvm.Cond} {P : Jvm.Cond → Bool} (h1 : L.all (fun c => isCode c || P c) = true) (h2 : ∀ c ∈ L.filter isCode, P c = true) : L.all P = true := by
  refine List.all_eq_true.mpr fun c hc => ?_
  have h := List.all_eq_true.mp h1 c hc
  rcases Bool.eq_false_or_eq_true (isCode c) with hi | hi
  · exact h2 c (List.mem_filter.mpr ⟨hc, hi⟩)
  · simpa [hi] using h
set_option maxRecDepth 65536 in
theorem w_c0 : (Jvm.Cond.code x code maxLocals ret).before args0 about1 = true := code_word (m := ⟨1, 1⟩) (meth := k1m1) (c := k1c1) (by decide +kernel) rfl rfl rfl (by decide +kernel)
set_option maxRecDepth 65536 in
theorem w_c1 : (Jvm.Cond.code ({ cls := "com/example/fieldloom/fieldloom/model/Sign", name := "of", desc := "(ZZ)Lcom/example/fieldloom/fieldloom/model/Sign;" } : Jvm.MethodName) prog_50_method_4_code (2 : Nat) (Option.some (Jvm.ClassFile.FieldType.object "com/example/fieldloom/fieldloom/model/Sign"))).before args0 about1 = true := code_word (m := ⟨6, 0⟩) (meth := k6m0) (c := k6c0) (by decide +kernel) rfl rfl rfl (by decide +kernel)
set_option maxRecDepth 65536 in
theorem w_c2 : (Jvm.Cond.code ({ cls := "com/example/fieldloom/fieldloom/model/Sign", name := "leading", desc := "()Z" } : Jvm.MethodName) prog_50_method_5_code (1 : Nat) (Option.some Jvm.ClassFile.FieldType.boolean)).before args0 about1 = true := code_word (m := ⟨6, 1⟩) (meth := k6m1) (c := k6c1) (by decide +kernel) rfl rfl rfl (by decide +kernel)
set_option maxRecDepth 65536 in
theorem w_c3 : (Jvm.Cond.code ({ cls := "com/example/fieldloom/fieldloom/model/Sign", name := "separate", desc := "()Z" } : Jvm.MethodName) prog_50_method_6_code (1 : Nat) (Option.some Jvm.ClassFile.FieldType.boolean)).before args0 about1 = true := code_word (m := ⟨6, 2⟩) (meth := k6m2) (c := k6c2) (by decide +kernel) rfl rfl rfl (by decide +kernel)
def codes1 : List Jvm.Cond := [Jvm.Cond.code x code maxLocals ret, Jvm.Cond.code ({ cls := "com/example/fieldloom/fieldloom/model/Sign", name := "of", desc := "(ZZ)Lcom/example/fieldloom/fieldloom/model/Sign;" } : Jvm.MethodName) prog_50_method_4_code (2 : Nat) (Option.some (Jvm.ClassFile.FieldType.object "com/example/fieldloom/fieldloom/model/Sign")), Jvm.Cond.code ({ cls := "com/example/fieldloom/fieldloom/model/Sign", name := "leading", desc := "()Z" } : Jvm.MethodName) prog_50_method_5_code (1 : Nat) (Option.some Jvm.ClassFile.FieldType.boolean), Jvm.Cond.code ({ cls := "com/example/fieldloom/fieldloom/model/Sign", name := "separate", desc := "()Z" } : Jvm.MethodName) prog_50_method_6_code (1 : Nat) (Option.some Jvm.ClassFile.FieldType.boolean)]
set_option maxRecDepth 65536 in
theorem codes_eq : words1.filter isCode = codes1 := rfl
theorem w_codes : ∀ c ∈ words1.filter isCode, c.before args0 about1 = true := by
  rw [codes_eq]
  intro c hc
  simp only [codes1, List.mem_cons, List.not_mem_nil, or_false] at hc
  rcases hc with rfl | rfl | rfl | rfl
  · exact w_c0
  · exact w_c1
  · exact w_c2
  · exact w_c3
set_option maxRecDepth 65536 in
theorem w_t1 : (words1.take 24).all (fun c => isCode c || c.before args0 about1) = true := by decide +kernel
set_option maxRecDepth 65536 in
theorem w_t2 : (words1.drop 24).all (fun c => isCode c || c.before args0 about1) = true := by decide +kernel
theorem w_tables : (allAtoms (Jvm.Cond.code x code maxLocals ret :: tables_1)).before args0 about1 = true := by
  rw [allAtoms_all]
  show words1.all (fun c => c.before args0 about1) = true
  refine all_split ?_ w_codes
  rw [← List.take_append_drop 24 words1, List.all_append, w_t1, w_t2]
  rfl
set_option maxRecDepth 65536 in
theorem w_case : (Jvm.Cond.and given_1 narrow_1).before args0 about1 = true := by decide +kernel
theorem w_applies : (headSpec (Jvm.Cond.code x code maxLocals ret :: tables_1) room_1).applies x e0.platform about1 = true :=
  (Spec.applies_iff w_frames).mpr ⟨w_running, w_runnable, w_alone, w_named, w_hears, w_ripe, w_room, w_tables⟩
theorem atStart : AtStart classFile x code maxLocals ret World_1 tables_1 room_1 Calls_1 rest_1 Pre_1 launch0 p0 e0 about1 theMethod args0 below0 :=
  ⟨lists_1, trivial, launch0.admits_env _ _ _, launch0.least_env, fairChoices_fair.cas, fairChoices_fair.clock, w_frames, w_args, w_heap, w_applies, trivial, trivial, w_case⟩
end start1
theorem witness_1 : WitnessClaimed_1 := ⟨start1.p0, start1.e0, start1.about1, start1.theMethod, start1.args0, start1.below0, start1.atStart⟩
end Jvm.Pilot.@@N@@
