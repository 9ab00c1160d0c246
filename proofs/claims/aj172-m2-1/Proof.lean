import JvmDerived
import JvmDerived.Pilot.@@N@@Statement
import JvmDerived.Pilot.@@N@@Code
set_option linter.unusedVariables false
set_option linter.unusedSimpArgs false
@@BLOCK:NumsL.lean.txt@@
@@BLOCK:LamKit.lean.txt@@
namespace Jvm.RoadKit
open Sem ClassFile Op Lib Jvm.Stand Jvm.Free Jvm.LawKit
section New
variable {p : Program} {l : Launch} {e : Env} {R : Room} {s : State} {m : MethodId} {args : Array Value} {below : List Frame} {meth : Method} {c : Code} {T : State} {locs : List Loc} {cells slots : Nat}
theorem retI (X : Stand p l e R s m args below meth c T locs cells slots) (hx : p.tables.exec = Jvm.exec) {pc : Nat} {Ls : Array Slot} {z : Int32} {rest : List Value} (hret : meth.sig.returnType = some .int) (hd : decode c.code pc = .ok (.ireturn, 1)) {fs : List Frame}
    (hl : ∀ (f : JFrame) (acts : List Action), f.method = m → f.locked = none → f.entered = [] → (doReturn e (T.setTop f) acts (some (.int z))).1 = T.setFrames fs) : Steps p.tables e below (T.setTop (mkF m pc Ls (.int z :: rest))) (T.setFrames fs) := by
  have hm' : T.vm.method? m = some meth := X.method'
  have hn : narrow .int (.int z) = .int z := rfl
  show Steps p.tables e below (T.setTop { method := m, pc := pc, locals := Ls, stack := _ :: rest, locked := none }) _
  jvm_step X.here [X.here.top, hx, hd, hm', hret, hn]
  first | (intro acts; rw [hl _ acts rfl rfl rfl]) | rw [hl _ _ rfl rfl rfl]
  exact Steps.refl _
end New
end Jvm.RoadKit
namespace Jvm.Pilot.@@N@@
open Jvm Jvm.ClassFile Sem Op Lib Jvm.Free Jvm.Stand Jvm.LawKit Jvm.RoadKit Bundle Jvm.Pilot.@@N@@.Jvm.D
theorem own_ext {h h' h'' : Heap} (A : Ext h h') (B : Ext h' h'') : Ext h h'' := ⟨Nat.le_trans A.1 B.1, fun a c q => B.2 a c (A.2 a c q)⟩
theorem own_fld {args : Array Value} {s : State} {t : Term} {C n d : String} {w : Addr} {k : Int32} (h : (Jvm.Cond.eq (.field t C n d) (.int k)).value args s none s [] = some true) (ev : t.eval args s none [] s = some (.ref w)) : Fld s s.heap w C n d (.int k) := by
  apply Fld.start
  have e := fld_at (C := C) (n := n) (dd := d) ev
  obtain ⟨x, y, e1, e2, k1, k2⟩ := cmp_v (Or.inl h)
  cases (show y = .int k from (Option.some.inj (e2.symm.trans rfl)))
  obtain ⟨z, rfl⟩ := k2
  have q := gotT (Cond.eq_ints e1 e2) h
  rw [← e, e1, q]
theorem own_fldR {args : Array Value} {s : State} {t u : Term} {C n d : String} {w b : Addr} (h : (Jvm.Cond.eq (.field t C n d) u).value args s none s [] = some true) (ev : t.eval args s none [] s = some (.ref w)) (eu : u.eval args s none [] s = some (.ref b)) : Fld s s.heap w C n d (.ref b) := by
  apply Fld.start
  have e := fld_at (C := C) (n := n) (dd := d) ev
  obtain ⟨x, y, e1, e2, k1, k2⟩ := cmp_v (Or.inl h)
  cases e2.symm.trans eu
  have q := gotT (eq_R e1 eu k2.2 rfl) h
  rw [← e, e1, q]
theorem own_ne {Z : State} {h : Heap} {a b : Addr} {C n d : String} {i j : Int32} (F : Fld Z h a C n d (.int i)) (G : Fld Z h b C n d (.int j)) (hn : ¬ (i = j)) : ¬ (a = b) := fun e => by
  subst e
  obtain ⟨c1, f1, k1, i1, g1, p1, p2, -, -, -, -, p7⟩ := F
  obtain ⟨c2, f2, k2, i2, g2, q1, q2, -, -, -, -, q7⟩ := G
  cases p1.symm.trans q1
  cases p2.symm.trans q2
  exact hn (Value.int.inj (Option.some.inj (p7.symm.trans q7)))
theorem own_n0 {Z : State} {n0 : Nat} {h : Heap} (O : Old Z n0 h) : n0 ≤ h.size := O.1 ▸ O.2.1
theorem own_len {args : Array Value} {s : State} {t : Term} {w : Addr} {n : Int32} {cl : Cell} {ty : FieldType} (h : (Jvm.Cond.eq (.length t) (.int n)).value args s none s [] = some true) (ev : t.eval args s none [] s = some (.ref w)) (A : Arr s s.heap w cl ty) : cl.slots.size.toInt32 = n := by
  obtain ⟨x, y, e1, e2, k1, k2⟩ := cmp_v (Or.inl h)
  cases (show y = .int n from (Option.some.inj (e2.symm.trans rfl)))
  obtain ⟨z, rfl⟩ := k2
  have q := gotT (Cond.eq_ints e1 e2) h
  have ha : s.arrayAt? w = some cl := Arr.fin (Vm.Alike.refl _) A
  simp [Term.eval, ev, ha] at e1
  rw [← q]; exact e1.2
theorem own_elem {args : Array Value} {s : State} {t u : Term} {w : Addr} {j : Int32} {cl : Cell} {ty : FieldType} {v : Value} (h : (Jvm.Cond.eq (.elem t (.int j)) u).value args s none s [] = some true) (ev : t.eval args s none [] s = some (.ref w)) (A : Arr s s.heap w cl ty) (eu : u.eval args s none [] s = some v) (hv : v.isRef = true := by rfl) : ¬ (j < 0 ∨ cl.slots.size ≤ j.toNatClampNeg) ∧ cl.slots[j.toNatClampNeg]? = some v := by
  obtain ⟨x, y, e1, e2, k1, k2⟩ := cmp_v (Or.inl h)
  cases e2.symm.trans eu
  have hx : x.isRef = true := by cases v <;> simp [Value.isRef] at hv <;> exact k2.2
  have q := gotT (eq_R e1 eu hx hv) h
  rw [q] at e1
  exact elem_in e1 ev rfl A.1
theorem own_sz {n : Nat} {z : Int32} (h31 : n < 2 ^ 31) (e : n.toInt32 = z) : (n : Int) = z.toInt := by
  rw [← e]; exact (len_toInt h31).symm
theorem own_small {args : Array Value} {s : State} {t : Term} {w : Addr} {n : Int32} {cl : Cell} {ty : FieldType} (h : (Jvm.Cond.eq (.length t) (.int n)).value args s none s [] = some true) (ev : t.eval args s none [] s = some (.ref w)) (A : Arr s s.heap w cl ty) : cl.slots.size < 2 ^ 31 := by
  obtain ⟨x, y, e1, e2, k1, k2⟩ := cmp_v (Or.inl h)
  have ha : s.arrayAt? w = some cl := Arr.fin (Vm.Alike.refl _) A
  simp [Term.eval, ev, ha] at e1
  exact e1.1
theorem own_place {j : Int32} {n : Nat} (h31 : n < 2 ^ 31) {z : Int32} (e : n.toInt32 = z) (hj : ¬ j < 0 ∧ j < z) : ¬ (j < 0 ∨ n ≤ j.toNatClampNeg) ∧ j.toNatClampNeg < n := by
  have e1 := own_sz h31 e
  have e2 := nat_of hj.1
  have e3 := Int32.lt_iff_toInt_lt.mp hj.2
  have : j.toNatClampNeg < n := by omega
  exact ⟨fun q => q.elim hj.1 (fun q => by omega), this⟩
theorem own_allE {args : Array Value} {s : State} {C0 n0 d0 C : String} {w : Addr} {cl : Cell} {ty : FieldType} {z : Int32} {D : Jvm.Cond} (h : (Jvm.Cond.all (.static C0 n0 d0) (.and (.exactly (.elem (.static C0 n0 d0) (.index 0)) C) D)).value args s none s [] = some true) (ev : (Term.static C0 n0 d0).eval args s none [] s = some (.ref w)) (A : Arr s s.heap w cl ty) (h31 : cl.slots.size < 2 ^ 31) (e : cl.slots.size.toInt32 = z) (j : Int32) (hj : ¬ j < 0 ∧ j < z) :
    ∃ b, ¬ (j < 0 ∨ cl.slots.size ≤ j.toNatClampNeg) ∧ cl.slots[j.toNatClampNeg]? = some (.ref b) ∧ Exa s s.heap b C ∧ (Term.elem (.static C0 n0 d0) (.index 0)).eval args s none [j.toNatClampNeg] s = some (.ref b) ∧ D.value args s none s [j.toNatClampNeg] = some true := by
  have ha : s.arrayAt? w = some cl := Arr.fin (Vm.Alike.refl _) A
  obtain ⟨p1, p2⟩ := own_place h31 e hj
  obtain ⟨c1, c2⟩ := and_e (Cond.all_elim ev ha h _ p2)
  have ev' : (Term.static C0 n0 d0).eval args s none [j.toNatClampNeg] s = some (.ref w) := ev
  have ej : (Term.index 0).eval args s none [j.toNatClampNeg] s = some (.int j) := by
    show some (Value.int j.toNatClampNeg.toInt32) = _
    rw [(back32 hj.1).1]
  have ee := elem_f ev' ej ha hj.1
  obtain ⟨b, eb⟩ := exa_v c1
  obtain ⟨a', c', cell, k, q1, q2, q3, q4, q5, rfl, q7⟩ := Cond.exactly_spec (beq_iff_eq.mpr c1 : (Jvm.Cond.exactly (.elem (.static C0 n0 d0) (.index 0)) C).holds args s none s [j.toNatClampNeg] = true)
  cases eb.symm.trans q1
  exact ⟨b, p1, ee.symm.trans eb, ⟨cell, k, q3, q2, q4, q5, q7⟩, eb, c2⟩
theorem own_inj {x y : Int32} (h : x.toInt = y.toInt) : x = y := Int32.toInt_inj.mp h
theorem own_staI {args : Array Value} {s : State} {t : Term} {k : Int32} (h : (Jvm.Cond.eq t (.int k)).value args s none s [] = some true) : t.eval args s none [] s = some (.int k) := by
  obtain ⟨x, y, e1, e2, k1, k2⟩ := cmp_v (Or.inl h)
  cases (show y = .int k from (Option.some.inj (e2.symm.trans rfl)))
  obtain ⟨z, rfl⟩ := k2
  have q := gotT (Cond.eq_ints e1 e2) h
  rw [e1, q]
theorem own_fldG {args : Array Value} {s : State} {idx : List Nat} {t u : Term} {C n d : String} {w : Addr} {k : Int32} (h : (Jvm.Cond.eq (.field t C n d) u).value args s none s idx = some true) (ev : t.eval args s none idx s = some (.ref w)) (eu : u.eval args s none idx s = some (.int k)) : Fld s s.heap w C n d (.int k) := by
  apply Fld.start
  have e := fld_at (C := C) (n := n) (dd := d) ev
  obtain ⟨x, y, e1, e2, k1, k2⟩ := cmp_v (Or.inl h)
  cases e2.symm.trans eu
  obtain ⟨z, rfl⟩ := k2
  have q := gotT (Cond.eq_ints e1 e2) h
  rw [← e, e1, q]
def Ars (Z : State) (h : Heap) (a : Addr) (k : ClassId) (ty : FieldType) (n : Nat) (f : Nat → Value) : Prop := ∃ c : Cell, Arr Z h a c ty ∧ c.cls = k ∧ c.slots.size = n ∧ n < 2 ^ 31 ∧ ∀ i, i < n → c.slots[i]? = some (f i)
def own_upd {α : Type} (f : Nat → α) (j : Nat) (v : α) : Nat → α := fun i => if i = j then v else f i
theorem own_upd_hit {α : Type} (f : Nat → α) (j : Nat) (v : α) : own_upd f j v j = v := if_pos rfl
theorem own_upd_miss {α : Type} (f : Nat → α) {i j : Nat} (v : α) (h : i ≠ j) : own_upd f j v i = f i := if_neg h
theorem own_at {c : Cell} {n : Nat} {f : Nat → Value} {j : Int32} {v : Value} (H : ∀ i, i < n → c.slots[i]? = some (f i)) (q : ¬ (j < 0 ∨ n ≤ j.toNatClampNeg)) (u : f j.toNatClampNeg = v) : c.slots[j.toNatClampNeg]? = some v := u ▸ H _ (Nat.lt_of_not_le fun y => q (Or.inr y))
section ArsFacts
variable {Z : State} {h h' : Heap} {a b : Addr} {k : ClassId} {ty : FieldType} {n : Nat} {f : Nat → Value}
theorem Ars.lt (F : Ars Z h a k ty n f) : a < h.size := by obtain ⟨c, A, -⟩ := F; exact A.lt
theorem Ars.ext (F : Ars Z h a k ty n f) (E : Ext h h') : Ars Z h' a k ty n f := by obtain ⟨c, A, r⟩ := F; exact ⟨c, A.ext E, r⟩
theorem Ars.other (F : Ars Z h a k ty n f) {sl : Nat} {v : Value} (W : Wr h h' b sl v) (q : a ≠ b) : Ars Z h' a k ty n f := by obtain ⟨c, A, r⟩ := F; exact ⟨c, A.other W q, r⟩
theorem Ars.keep (F : Ars Z h a k ty n f) {ws : List Addr} (K : Keep h h' ws) (q : a ∉ ws) : Ars Z h' a k ty n f := by obtain ⟨c, A, r⟩ := F; exact ⟨c, ⟨K.2.1 a c A.1 q, A.2⟩, r⟩
theorem Ars.set {c : Cell} (A : Arr Z h a c ty) (q1 : c.cls = k) (S : c.slots.size = n) (hn : n < 2 ^ 31) (H : ∀ i, i < n → c.slots[i]? = some (f i)) {j : Nat} {v : Value} (W : Wr h h' a j v) : Ars Z h' a k ty n (own_upd f j v) := by
  refine ⟨_, A.same W, q1, by rw [sz_set]; exact S, hn, fun i hi => ?_⟩
  by_cases e : j = i
  · subst e
    rw [own_upd_hit, Cell.slots_setSlot_self v (by rw [S]; exact hi)]
  · rw [own_upd_miss f v (Ne.symm e), Cell.slots_setSlot_ne v e]; exact H i hi
theorem Ars.congr {g : Nat → Value} (F : Ars Z h a k ty n f) (q : ∀ i, i < n → f i = g i) : Ars Z h a k ty n g := by obtain ⟨c, A, r1, r2, r3, r4⟩ := F; exact ⟨c, A, r1, r2, r3, fun i hi => by rw [← q i hi]; exact r4 i hi⟩
theorem Ars.of_arv {z : Int32} {vs : List Value} {dv : Value} (F : Arv Z h a k ty z vs dv) : Ars Z h a k ty z.toNatClampNeg (fun i => vs.getD i dv) := by
  obtain ⟨c, A, r1, r2, r3, r4, r5⟩ := F
  exact ⟨c, A, r1, r2, (back32 r3).2, fun i hi => r4 i (by rw [r2]; exact hi)⟩
/-- all that lies below lo is as it was -/
def Pres (lo : Nat) (h h' : Heap) : Prop := h.size ≤ h'.size ∧ ∀ (x : Addr) (c : Cell), x < lo → h[x]? = some c → h'[x]? = some c
theorem Pres.refl (lo : Nat) (h : Heap) : Pres lo h h := ⟨Nat.le_refl _, fun _ _ _ q => q⟩
theorem Pres.trans {lo : Nat} {h1 h2 h3 : Heap} (A : Pres lo h1 h2) (B : Pres lo h2 h3) : Pres lo h1 h3 := ⟨Nat.le_trans A.1 B.1, fun x c q r => B.2 x c q (A.2 x c q r)⟩
theorem Pres.of_keep {lo : Nat} {ws : List Addr} (K : Keep h h' ws) (q : ∀ x ∈ ws, lo ≤ x) : Pres lo h h' := ⟨K.1, fun x c r s => K.2.1 x c s fun m => absurd r (Nat.not_lt.mpr (q x m))⟩
theorem Pres.of_ext {lo : Nat} (E : Ext h h') : Pres lo h h' := ⟨E.1, fun x c _ q => E.2 x c q⟩
theorem Pres.old {lo n0 : Nat} (P : Pres lo h h') (q : n0 ≤ lo) (O : Old Z n0 h) : Old Z n0 h' := ⟨O.1, Nat.le_trans O.2.1 P.1, fun x c r => P.2 x c (Nat.lt_of_lt_of_le (O.1 ▸ (Array.getElem?_eq_some_iff.mp r).1) q) (O.2.2 x c r)⟩
theorem Ars.pres {lo : Nat} (F : Ars Z h a k ty n f) (P : Pres lo h h') (q : a < lo) : Ars Z h' a k ty n f := by obtain ⟨c, A, r⟩ := F; exact ⟨c, ⟨P.2 a c q A.1, A.2⟩, r⟩
theorem own_exa_pres {lo : Nat} {C : String} (F : Exa Z h a C) (P : Pres lo h h') (q : a < lo) : Exa Z h' a C := by obtain ⟨c, k, h1, r⟩ := F; exact ⟨c, k, P.2 a c q h1, r⟩
end ArsFacts
def QV (r : Option Value) (h0 : Heap) (n0 : Nat) (v : Option Value) (h : Heap) (L : List Loc) : Prop := v = r ∧ Fr n0 L ∧ h = h0
def QKp (Z : State) (r : Option Value) (ws : List Addr) (h0 : Heap) (n0 : Nat) (v : Option Value) (h : Heap) (L : List Loc) : Prop := v = r ∧ Fr n0 L ∧ Keep h0 h ws ∧ Old Z n0 h
def World (Z : State) (w_cache : Addr) (cl_w_cache : Cell) : Prop := Sta Z Z.heap "java/lang/Integer$IntegerCache" "high" "I" (.int (127 : Int32)) ∧ Sta Z Z.heap "java/lang/Integer$IntegerCache" "cache" "[Ljava/lang/Integer;" (.ref w_cache) ∧ Arr Z Z.heap w_cache cl_w_cache (.object "java/lang/Integer") ∧ cl_w_cache.slots.size.toInt32 = (256 : Int32) ∧ (∀ j : Int32, (¬ j < 0 ∧ j < 256) → ∃ b : Addr, ¬ (j < 0 ∨ cl_w_cache.slots.size ≤ j.toNatClampNeg) ∧ cl_w_cache.slots[j.toNatClampNeg]? = some (.ref b) ∧ Exa Z Z.heap b "java/lang/Integer" ∧ Fld Z Z.heap b "java/lang/Integer" "value" "I" (.int (j - 128))) ∧ True
theorem d1_0 : decode prog_12_method_1_code 0 = .ok (.aload_n 0, 1) := by decide +kernel
theorem d1_1 : decode prog_12_method_1_code 1 = .ok (.invokespecial 1, 3) := by decide +kernel
theorem d1_4 : decode prog_12_method_1_code 4 = .ok (.aload_n 0, 1) := by decide +kernel
theorem d1_5 : decode prog_12_method_1_code 5 = .ok (.sipush 1024, 3) := by decide +kernel
theorem d1_8 : decode prog_12_method_1_code 8 = .ok (.newarray .int, 2) := by decide +kernel
theorem d1_10 : decode prog_12_method_1_code 10 = .ok (.putfield 7, 3) := by decide +kernel
theorem d1_13 : decode prog_12_method_1_code 13 = .ok (.aload_n 0, 1) := by decide +kernel
theorem d1_14 : decode prog_12_method_1_code 14 = .ok (.sipush 1024, 3) := by decide +kernel
theorem d1_17 : decode prog_12_method_1_code 17 = .ok (.newarray .int, 2) := by decide +kernel
theorem d1_19 : decode prog_12_method_1_code 19 = .ok (.putfield 13, 3) := by decide +kernel
theorem d1_22 : decode prog_12_method_1_code 22 = .ok (.aload_n 0, 1) := by decide +kernel
theorem d1_23 : decode prog_12_method_1_code 23 = .ok (.iconst 1, 1) := by decide +kernel
theorem d1_24 : decode prog_12_method_1_code 24 = .ok (.putfield 16, 3) := by decide +kernel
theorem d1_27 : decode prog_12_method_1_code 27 = .ok (.aload_n 0, 1) := by decide +kernel
theorem d1_28 : decode prog_12_method_1_code 28 = .ok (.new 20, 3) := by decide +kernel
theorem d1_31 : decode prog_12_method_1_code 31 = .ok (.dup, 1) := by decide +kernel
theorem d3_0 : decode jdk_69_method_7_code 0 = .ok (.aload_n 0, 1) := by decide +kernel
theorem d4_0 : decode jdk_71_method_1_code 0 = .ok (.aload_n 0, 1) := by decide +kernel
theorem d4_1 : decode jdk_71_method_1_code 1 = .ok (.invokespecial 1, 3) := by decide +kernel
theorem d4_4 : decode jdk_71_method_1_code 4 = .ok (.return_, 1) := by decide +kernel
theorem ef21 (m : MethodId) (x0 : Addr) : entryFrame m #[(.ref x0)] 1 = mkF m 0 #[.val (.ref x0)] [] := by first | (simp [entryFrame, mkF, argsToLocals, Value.category]; done) | rfl
theorem pn22 : plainName "java/util/AbstractMap" = true := by first | (simp [plainName, overriddenIn]; done) | decide +kernel
def Q4_0 (Z : State) (ob0 : Addr) (h0 : Heap) (n0 : Nat) (v : Option Value) (h : Heap) (L : List Loc) : Prop := v = none ∧ Fr n0 L ∧ h = h0
set_option maxRecDepth 65536 in
set_option maxHeartbeats 40000000 in
theorem rm4_0 (l : Launch) (Z : State) (a0 : Array Value) (hw : ∀ d ∈ tables_1, d.before a0 Z = true) (ws : List Jvm.Cond) (ob0 : Addr) (h0 : Heap) (n0 : Nat) (Z0 : n0 ≤ h0.size) (O0 : Old Z n0 h0) (PE_ob0 : Exa Z h0 ob0 "java/util/HashMap") (PF_ob0_loadFactor : Fld Z h0 ob0 "java/util/HashMap" "loadFactor" "F" (.float (0 : UInt32))) (PF_ob0_size : Fld Z h0 ob0 "java/util/HashMap" "size" "I" (.int (0 : Int32))) (PF_ob0_threshold : Fld Z h0 ob0 "java/util/HashMap" "threshold" "I" (.int (0 : Int32))) (PF_ob0_table : Fld Z h0 ob0 "java/util/HashMap" "table" "[Ljava/util/HashMap$Node;" .null) (PF_ob0_modCount : Fld Z h0 ob0 "java/util/HashMap" "modCount" "I" (.int (0 : Int32))) :
    MetFree l (⟨"java/util/AbstractMap", "<init>", "()V"⟩ : MethodName) (head1 (Jvm.Cond.code (⟨"java/util/AbstractMap", "<init>", "()V"⟩ : MethodName) jdk_71_method_1_code 1 none :: ws) ({ frames := 1, cells := 0, slots := 0, locals := 12 } : Room)) (fun a U => a = #[(.ref ob0)] ∧ Z.Warmed39 U.vm ∧ U.heap = h0) (fun _ _ _ _ _ => True) (fun _ U o U' => ∃ v L, o = .returned v ∧ Q4_0 Z  ob0 h0 n0 v U'.heap L ∧ FrameEnd U o U' L ({ frames := 1, cells := 0, slots := 0, locals := 12 } : Room).cells ({ frames := 1, cells := 0, slots := 0, locals := 12 } : Room).slots) := by
  refine MetFree.of_bodySF (plainFor_of_name pn22) hisR ?_
  intro p e s m args below meth c s₁ Bd hml0 hP hK
  obtain ⟨rfl, hZ, hh⟩ := hP
  have hx := Bd.exec
  have hby := Bd.bytes
  have hml : c.maxLocals = 1 := hml0
  have hown : s.vm.findClass "java/util/AbstractMap" = some m.cls := findClass_of_methodNamed Bd.named
  have hnm := (name_of_methodNamed Bd.named Bd.method).1
  have X0 : Stand p l e ({ frames := 1, cells := 0, slots := 0, locals := 12 } : Room) s m #[(.ref ob0)] below meth c s₁ [] 0 0 := Stand.of_body Bd
  have e0 : s₁.heap = h0 := by rw [← hh, Bd.state]; rfl
  have N0 := Fr.nil n0
  have pre0 : ∀ t, Steps p.tables e below (s₁.setTop (mkF m 0 #[.val (.ref ob0)] [])) t → Steps p.tables e below (s₁.setTop (entryFrame m #[(.ref ob0)] 1)) t := fun t k => castTop (ef21 m ob0) k
  obtain ⟨T1, X1, e1, st1⟩ := initO X0 hx hZ hown (hw _ (List.mem_of_getElem? (i := 28) rfl)) (hw _ (List.mem_of_getElem? (i := 7) rfl)) (hw _ (List.mem_of_getElem? (i := 8) rfl)) e0 (g := (mkF m 1 #[.val (.ref ob0)] [(.ref ob0)])) rfl (by rw [hml]; rfl) rfl (hb hby d4_1) (by decide) (W := 0) (by show 2 * 0 + _ ≤ _; exact Nat.le_of_eq rfl) (by decide)
  obtain ⟨fs, hr, hrun, hended, hW, hsame⟩ := X1.leave (v := none) (fun _ => rfl)
  refine ⟨_, _, pre0 _ ?_, hrun, hended, _, _, rfl, ?_, ⟨_, rfl⟩, hW, hsame.mono (by decide) (by decide)⟩
  · show Steps p.tables e below (s₁.setTop (mkF m 0 #[.val (.ref ob0)] [])) _
    refine XS.aloadN X0.here hx rfl (hb hby d4_0) rfl rfl ?_
    show Steps p.tables e below (s₁.setTop (mkF m 1 #[.val (.ref ob0)] [(.ref ob0)])) _
    refine st1 _ ?_
    show Steps p.tables e below (T1.setTop (mkF m 4 #[.val (.ref ob0)] [])) _
    exact X1.returnOut hx Bd.returns (hb hby d4_4) hr
  · exact ⟨rfl, N0, e1⟩
theorem pd23 : parseMethodDescriptor "()V" = some ⟨[], none⟩ := by decide +kernel
theorem d3_1 : decode jdk_69_method_7_code 1 = .ok (.invokespecial 43, 3) := by decide +kernel
theorem d3_4 : decode jdk_69_method_7_code 4 = .ok (.aload_n 0, 1) := by decide +kernel
theorem d3_5 : decode jdk_69_method_7_code 5 = .ok (.ldc 92, 2) := by decide +kernel
theorem d3_7 : decode jdk_69_method_7_code 7 = .ok (.putfield 81, 3) := by decide +kernel
theorem d3_10 : decode jdk_69_method_7_code 10 = .ok (.return_, 1) := by decide +kernel
theorem ef30 (m : MethodId) (x0 : Addr) : entryFrame m #[(.ref x0)] 1 = mkF m 0 #[.val (.ref x0)] [] := by first | (simp [entryFrame, mkF, argsToLocals, Value.category]; done) | rfl
theorem pn31 : plainName "java/util/HashMap" = true := by first | (simp [plainName, overriddenIn]; done) | decide +kernel
def Q3_1 (Z : State) (ob0 : Addr) (h0 : Heap) (n0 : Nat) (v : Option Value) (h : Heap) (L : List Loc) : Prop := v = none ∧ Fr n0 L ∧ Keep h0 h [ob0] ∧ Old Z n0 h ∧ Exa Z h ob0 "java/util/HashMap" ∧ Fld Z h ob0 "java/util/HashMap" "loadFactor" "F" (.float (1061158912 : UInt32)) ∧ Fld Z h ob0 "java/util/HashMap" "size" "I" (.int (0 : Int32)) ∧ Fld Z h ob0 "java/util/HashMap" "threshold" "I" (.int (0 : Int32)) ∧ Fld Z h ob0 "java/util/HashMap" "table" "[Ljava/util/HashMap$Node;" .null ∧ Fld Z h ob0 "java/util/HashMap" "modCount" "I" (.int (0 : Int32)) ∧ True
set_option maxRecDepth 65536 in
set_option maxHeartbeats 40000000 in
theorem rm3_1 (l : Launch) (Z : State) (a0 : Array Value) (hw : ∀ d ∈ tables_1, d.before a0 Z = true) (ws : List Jvm.Cond) (ob0 : Addr) (h0 : Heap) (n0 : Nat) (Z0 : n0 ≤ h0.size) (O0 : Old Z n0 h0) (PE_ob0 : Exa Z h0 ob0 "java/util/HashMap") (PF_ob0_loadFactor : Fld Z h0 ob0 "java/util/HashMap" "loadFactor" "F" (.float (0 : UInt32))) (PF_ob0_size : Fld Z h0 ob0 "java/util/HashMap" "size" "I" (.int (0 : Int32))) (PF_ob0_threshold : Fld Z h0 ob0 "java/util/HashMap" "threshold" "I" (.int (0 : Int32))) (PF_ob0_table : Fld Z h0 ob0 "java/util/HashMap" "table" "[Ljava/util/HashMap$Node;" .null) (PF_ob0_modCount : Fld Z h0 ob0 "java/util/HashMap" "modCount" "I" (.int (0 : Int32))) (g_ob0 : n0 ≤ ob0) :
    MetFree l (⟨"java/util/HashMap", "<init>", "()V"⟩ : MethodName) (head1 (Jvm.Cond.code (⟨"java/util/HashMap", "<init>", "()V"⟩ : MethodName) jdk_69_method_7_code 1 none :: ws) ({ frames := 2, cells := 0, slots := 0, locals := 24 } : Room)) (fun a U => a = #[(.ref ob0)] ∧ Z.Warmed39 U.vm ∧ U.heap = h0) (fun _ _ _ _ _ => True) (fun _ U o U' => ∃ v L, o = .returned v ∧ Q3_1 Z  ob0 h0 n0 v U'.heap L ∧ FrameEnd U o U' L ({ frames := 2, cells := 0, slots := 0, locals := 24 } : Room).cells ({ frames := 2, cells := 0, slots := 0, locals := 24 } : Room).slots) := by
  refine MetFree.of_bodySF (plainFor_of_name pn31) hisR ?_
  intro p e s m args below meth c s₁ Bd hml0 hP hK
  obtain ⟨rfl, hZ, hh⟩ := hP
  have hx := Bd.exec
  have hby := Bd.bytes
  have hml : c.maxLocals = 1 := hml0
  have hown : s.vm.findClass "java/util/HashMap" = some m.cls := findClass_of_methodNamed Bd.named
  have hnm := (name_of_methodNamed Bd.named Bd.method).1
  have X0 : Stand p l e ({ frames := 2, cells := 0, slots := 0, locals := 24 } : Room) s m #[(.ref ob0)] below meth c s₁ [] 0 0 := Stand.of_body Bd
  have e0 : s₁.heap = h0 := by rw [← hh, Bd.state]; rfl
  have N0 := Fr.nil n0
  have pre0 : ∀ t, Steps p.tables e below (s₁.setTop (mkF m 0 #[.val (.ref ob0)] [])) t → Steps p.tables e below (s₁.setTop (entryFrame m #[(.ref ob0)] 1)) t := fun t k => castTop (ef30 m ob0) k
  obtain ⟨_, _, ⟨T1, L1, k1, n1⟩, -, X1, ⟨Lc1, hQ1, l1, y1, z1⟩, st1⟩ := X0.specialBack hx (y := (⟨"java/util/AbstractMap", "<init>", "()V"⟩ : MethodName)) rfl hown (mvT hZ (hw _ (List.mem_of_getElem? (i := 22) rfl))) (mvT hZ (hw _ (List.mem_of_getElem? (i := 23) rfl))) (mvT hZ (hw _ (List.mem_of_getElem? (i := 27) rfl))) (by decide) (backOf (W := 0) (rm4_0 l Z a0 hw []  ob0 h0 n0 (own_n0 O0) O0 PE_ob0 PF_ob0_loadFactor PF_ob0_size PF_ob0_threshold PF_ob0_table PF_ob0_modCount) hZ (hw _ (List.mem_of_getElem? (i := 27) rfl)) (hw _ (List.mem_of_getElem? (i := 26) rfl)) (by decide) (by decide)) (g := (mkF m 1 #[.val (.ref ob0)] [(.ref ob0)])) rfl (by rw [hml]; rfl) (Steps.refl _) (a := ob0) (argsL := []) (rest := []) (lenOf pd23 rfl) rfl (by show 2 * 0 + _ ≤ _; exact Nat.le_of_eq rfl) (hb hby d3_1) (fun _ _ => ⟨rfl, e0, (by decide : 0 + 0 ≤ _), (by decide : 0 + 0 ≤ _)⟩)
  dsimp only [Pt.U, Pt.locs, Pt.cells, Pt.slots] at X1 l1 y1 z1 st1 hQ1
  subst l1 y1 z1
  obtain ⟨rfl, N1q, e1⟩ := hQ1
  have N1 := Fr.app N0 N1q
  obtain ⟨T2, h2, X2, e2, W2, st2⟩ := putF X1 hx hZ hown (host := "") (Or.inl (hw _ (List.mem_of_getElem? (i := 30) rfl))) Via.refl e1 PF_ob0_loadFactor PE_ob0 (Or.inr ⟨(hw _ (List.mem_of_getElem? (i := 31) rfl)), rfl, hnm⟩) (hw _ (List.mem_of_getElem? (i := 17) rfl)) (ty := .float) (by decide) rfl rfl (g := (mkF m 7 #[.val (.ref ob0)] [(.float (1061158912 : UInt32)), (.ref ob0)])) rfl rfl (hb hby d3_7)
  have Fw2 := PF_ob0_loadFactor.same W2
  have N2 := Fr.snoc X2 N1 g_ob0
  have O2 := O0.wr W2 g_ob0
  have KK2 : Keep h0 h2 [ob0] := (Keep.refl h0 [ob0]).wr W2 (Or.inl (List.mem_of_getElem? (i := 0) rfl))
  obtain ⟨fs, hr, hrun, hended, hW, hsame⟩ := X2.leave (v := none) (fun _ => rfl)
  refine ⟨_, _, pre0 _ ?_, hrun, hended, _, _, rfl, ?_, ⟨_, rfl⟩, hW, hsame.mono (by decide) (by decide)⟩
  · show Steps p.tables e below (s₁.setTop (mkF m 0 #[.val (.ref ob0)] [])) _
    refine XS.aloadN X0.here hx rfl (hb hby d3_0) rfl rfl ?_
    show Steps p.tables e below (s₁.setTop (mkF m 1 #[.val (.ref ob0)] [(.ref ob0)])) _
    refine st1.trans ?_
    show Steps p.tables e below (T1.setTop (mkF m 4 #[.val (.ref ob0)] [])) _
    refine XS.aloadN X1.here hx rfl (hb hby d3_4) rfl rfl ?_
    show Steps p.tables e below (T1.setTop (mkF m 5 #[.val (.ref ob0)] [(.ref ob0)])) _
    refine X1.ldcFloatC hx hown (mvT hZ (hw _ (List.mem_of_getElem? (i := 29) rfl))) (g := (mkF m 5 #[.val (.ref ob0)] [(.ref ob0)])) rfl (hb hby d3_5) _ ?_
    show Steps p.tables e below (T1.setTop (mkF m 7 #[.val (.ref ob0)] [(.float (1061158912 : UInt32)), (.ref ob0)])) _
    refine st2 _ ?_
    show Steps p.tables e below (T2.setTop (mkF m 10 #[.val (.ref ob0)] [])) _
    exact X2.returnOut hx Bd.returns (hb hby d3_10) hr
  · have eH : (T2.setFrames fs).heap = h2 := e2; rw [eH]; exact ⟨rfl, N2, KK2, O2, (PE_ob0.wr W2), Fw2, (PF_ob0_size.other W2 (Or.inr (slot_ne (Or.inl (hw _ (List.mem_of_getElem? (i := 105) rfl))) (Or.inr (hw _ (List.mem_of_getElem? (i := 31) rfl))) (by decide) (t := .int) (t' := .float) (by decide) (by decide)))), (PF_ob0_threshold.other W2 (Or.inr (slot_ne (Or.inl (hw _ (List.mem_of_getElem? (i := 107) rfl))) (Or.inr (hw _ (List.mem_of_getElem? (i := 31) rfl))) (by decide) (t := .int) (t' := .float) (by decide) (by decide)))), (PF_ob0_table.other W2 (Or.inr (slot_ne (Or.inl (hw _ (List.mem_of_getElem? (i := 109) rfl))) (Or.inr (hw _ (List.mem_of_getElem? (i := 31) rfl))) (by decide) (t := (.array (.object "java/util/HashMap$Node"))) (t' := .float) (by decide) (by decide)))), (PF_ob0_modCount.other W2 (Or.inr (slot_ne (Or.inl (hw _ (List.mem_of_getElem? (i := 118) rfl))) (Or.inr (hw _ (List.mem_of_getElem? (i := 31) rfl))) (by decide) (t := .int) (t' := .float) (by decide) (by decide)))), trivial⟩
theorem d1_32 : decode prog_12_method_1_code 32 = .ok (.invokespecial 22, 3) := by decide +kernel
theorem d1_35 : decode prog_12_method_1_code 35 = .ok (.putfield 23, 3) := by decide +kernel
theorem d1_38 : decode prog_12_method_1_code 38 = .ok (.return_, 1) := by decide +kernel
theorem ef36 (m : MethodId) (x0 : Addr) : entryFrame m #[(.ref x0)] 1 = mkF m 0 #[.val (.ref x0)] [] := by first | (simp [entryFrame, mkF, argsToLocals, Value.category]; done) | rfl
theorem pn37 : plainName "com/example/minos/minos/analysis/Circuit" = true := by first | (simp [plainName, overriddenIn]; done) | decide +kernel
def Q1_2 (Z : State) (ob0 : Addr) (h0 : Heap) (n0 : Nat) (v : Option Value) (h : Heap) (L : List Loc) : Prop := ∃ b2 : Addr, ∃ b4 : Addr, ∃ b10 : Addr, ∃ kk_b2 : ClassId, ∃ kk_b4 : ClassId, v = none ∧ Fr n0 L ∧ Keep h0 h [ob0] ∧ Old Z n0 h ∧ h0.size ≤ b2 ∧ h0.size ≤ b4 ∧ h0.size ≤ b10 ∧ b2 < b4 ∧ b4 < b10 ∧ Exa Z h ob0 "com/example/minos/minos/analysis/Circuit" ∧ Fld Z h ob0 "com/example/minos/minos/analysis/Circuit" "first" "[I" (.ref b2) ∧ Fld Z h ob0 "com/example/minos/minos/analysis/Circuit" "second" "[I" (.ref b4) ∧ Fld Z h ob0 "com/example/minos/minos/analysis/Circuit" "nodes" "I" (.int (1 : Int32)) ∧ Fld Z h ob0 "com/example/minos/minos/analysis/Circuit" "gates" "Ljava/util/Map;" (.ref b10) ∧ Arv Z h b2 kk_b2 .int (1024 : Int32) [(.int (0 : Int32)), (.int (0 : Int32)), (.int (0 : Int32)), (.int (0 : Int32)), (.int (0 : Int32)), (.int (0 : Int32))] (.int (0 : Int32)) ∧ Exa Z h b2 "[I" ∧ Arv Z h b4 kk_b4 .int (1024 : Int32) [(.int (0 : Int32)), (.int (0 : Int32)), (.int (0 : Int32)), (.int (0 : Int32)), (.int (0 : Int32)), (.int (0 : Int32))] (.int (0 : Int32)) ∧ Exa Z h b4 "[I" ∧ Exa Z h b10 "java/util/HashMap" ∧ Fld Z h b10 "java/util/HashMap" "loadFactor" "F" (.float (1061158912 : UInt32)) ∧ Fld Z h b10 "java/util/HashMap" "size" "I" (.int (0 : Int32)) ∧ Fld Z h b10 "java/util/HashMap" "threshold" "I" (.int (0 : Int32)) ∧ Fld Z h b10 "java/util/HashMap" "table" "[Ljava/util/HashMap$Node;" .null ∧ Fld Z h b10 "java/util/HashMap" "modCount" "I" (.int (0 : Int32)) ∧ True
set_option maxRecDepth 65536 in
set_option maxHeartbeats 40000000 in
theorem rm1_2 (l : Launch) (Z : State) (a0 : Array Value) (hw : ∀ d ∈ tables_1, d.before a0 Z = true) (ws : List Jvm.Cond) (ob0 : Addr) (h0 : Heap) (n0 : Nat) (Z0 : n0 ≤ h0.size) (O0 : Old Z n0 h0) (PE_ob0 : Exa Z h0 ob0 "com/example/minos/minos/analysis/Circuit") (PF_ob0_first : Fld Z h0 ob0 "com/example/minos/minos/analysis/Circuit" "first" "[I" .null) (PF_ob0_second : Fld Z h0 ob0 "com/example/minos/minos/analysis/Circuit" "second" "[I" .null) (PF_ob0_nodes : Fld Z h0 ob0 "com/example/minos/minos/analysis/Circuit" "nodes" "I" (.int (0 : Int32))) (PF_ob0_gates : Fld Z h0 ob0 "com/example/minos/minos/analysis/Circuit" "gates" "Ljava/util/Map;" .null) (g_ob0 : n0 ≤ ob0) :
    MetFree l (⟨"com/example/minos/minos/analysis/Circuit", "<init>", "()V"⟩ : MethodName) (head1 (Jvm.Cond.code (⟨"com/example/minos/minos/analysis/Circuit", "<init>", "()V"⟩ : MethodName) prog_12_method_1_code 1 none :: ws) ({ frames := 3, cells := 3, slots := 2056, locals := 38 } : Room)) (fun a U => a = #[(.ref ob0)] ∧ Z.Warmed39 U.vm ∧ U.heap = h0) (fun _ _ _ _ _ => True) (fun _ U o U' => ∃ v L, o = .returned v ∧ Q1_2 Z  ob0 h0 n0 v U'.heap L ∧ FrameEnd U o U' L ({ frames := 3, cells := 3, slots := 2056, locals := 38 } : Room).cells ({ frames := 3, cells := 3, slots := 2056, locals := 38 } : Room).slots) := by
  refine MetFree.of_bodySF (plainFor_of_name pn37) hisR ?_
  intro p e s m args below meth c s₁ Bd hml0 hP hK
  obtain ⟨rfl, hZ, hh⟩ := hP
  have hx := Bd.exec
  have hby := Bd.bytes
  have hml : c.maxLocals = 1 := hml0
  have hown : s.vm.findClass "com/example/minos/minos/analysis/Circuit" = some m.cls := findClass_of_methodNamed Bd.named
  have hnm := (name_of_methodNamed Bd.named Bd.method).1
  have X0 : Stand p l e ({ frames := 3, cells := 3, slots := 2056, locals := 38 } : Room) s m #[(.ref ob0)] below meth c s₁ [] 0 0 := Stand.of_body Bd
  have e0 : s₁.heap = h0 := by rw [← hh, Bd.state]; rfl
  have N0 := Fr.nil n0
  have pre0 : ∀ t, Steps p.tables e below (s₁.setTop (mkF m 0 #[.val (.ref ob0)] [])) t → Steps p.tables e below (s₁.setTop (entryFrame m #[(.ref ob0)] 1)) t := fun t k => castTop (ef36 m ob0) k
  obtain ⟨T1, X1, e1, st1⟩ := initO X0 hx hZ hown (hw _ (List.mem_of_getElem? (i := 6) rfl)) (hw _ (List.mem_of_getElem? (i := 7) rfl)) (hw _ (List.mem_of_getElem? (i := 8) rfl)) e0 (g := (mkF m 1 #[.val (.ref ob0)] [(.ref ob0)])) rfl (by rw [hml]; rfl) rfl (hb hby d1_1) (by decide) (W := 0) (by show 2 * 0 + _ ≤ _; exact Nat.le_of_eq rfl) (by decide)
  obtain ⟨T2, h2, k2, X2, e2, E2, A2, B2, st2⟩ := newPE X1 hx hZ (hw _ (List.mem_of_getElem? (i := 9) rfl)) e1 (g := (mkF m 8 #[.val (.ref ob0)] [(.int (1024 : Int32)), (.ref ob0)])) rfl (hb hby d1_8) rfl (by decide) (cap := 1024) (by decide) (by decide) (by decide) (by decide) (ad := "[I") (by decide)
  obtain ⟨b2, gg2⟩ : ∃ z, z = h0.size := ⟨_, rfl⟩
  rw [← gg2] at A2 B2 st2
  have bo_b2 : h0.size ≤ b2 := Nat.le_of_eq gg2.symm
  have g_b2 : n0 ≤ b2 := Nat.le_trans (own_n0 O0) bo_b2
  have sz_b2 : h0.size ≤ b2 := Nat.le_trans (Keep.refl h0 [ob0]).1 bo_b2
  have V_b2 : Arv Z h2 b2 k2 .int (1024 : Int32) [(.int (0 : Int32)), (.int (0 : Int32)), (.int (0 : Int32)), (.int (0 : Int32)), (.int (0 : Int32)), (.int (0 : Int32))] (.int (0 : Int32)) := (Arv.new A2 (by decide)).pad (pad_rep [] (.int (0 : Int32)) 6)
  have lb_b2 : b2 < h2.size := A2.lt
  have KK2 : Keep h0 h2 [ob0] := (Keep.refl h0 [ob0]).ext E2
  have O2 := O0.ext E2
  obtain ⟨T3, h3, X3, e3, W3, st3⟩ := putF X2 hx hZ hown (host := "") (Or.inl (hw _ (List.mem_of_getElem? (i := 10) rfl))) Via.refl e2 (PF_ob0_first.ext E2) (PE_ob0.ext E2) (Or.inl (hw _ (List.mem_of_getElem? (i := 11) rfl))) (hw _ (List.mem_of_getElem? (i := 1) rfl)) (ty := (.array .int)) (by decide) rfl rfl (g := (mkF m 10 #[.val (.ref ob0)] [(.ref b2), (.ref ob0)])) rfl rfl (hb hby d1_10)
  have Fw3 := (PF_ob0_first.ext E2).same W3
  have N3 := Fr.snoc X3 N0 g_ob0
  have O3 := O2.wr W3 g_ob0
  have KK3 : Keep h0 h3 [ob0] := KK2.wr W3 (Or.inl (List.mem_of_getElem? (i := 0) rfl))
  obtain ⟨T4, h4, k4, X4, e4, E4, A4, B4, st4⟩ := newPE X3 hx hZ (hw _ (List.mem_of_getElem? (i := 9) rfl)) e3 (g := (mkF m 17 #[.val (.ref ob0)] [(.int (1024 : Int32)), (.ref ob0)])) rfl (hb hby d1_17) rfl (by decide) (cap := 1024) (by decide) (by decide) (by decide) (by decide) (ad := "[I") (by decide)
  obtain ⟨b4, gg4⟩ : ∃ z, z = h3.size := ⟨_, rfl⟩
  rw [← gg4] at A4 B4 st4
  have bo_b4 : h3.size ≤ b4 := Nat.le_of_eq gg4.symm
  have g_b4 : n0 ≤ b4 := Nat.le_trans (own_n0 O3) bo_b4
  have sz_b4 : h0.size ≤ b4 := Nat.le_trans KK3.1 bo_b4
  have V_b4 : Arv Z h4 b4 k4 .int (1024 : Int32) [(.int (0 : Int32)), (.int (0 : Int32)), (.int (0 : Int32)), (.int (0 : Int32)), (.int (0 : Int32)), (.int (0 : Int32))] (.int (0 : Int32)) := (Arv.new A4 (by decide)).pad (pad_rep [] (.int (0 : Int32)) 6)
  have lb_b4 : b4 < h4.size := A4.lt
  have KK4 : Keep h0 h4 [ob0] := KK3.ext E4
  have O4 := O3.ext E4
  have J5 := (((PF_ob0_second.ext E2).other W3 (Or.inr (slot_ne (Or.inl (hw _ (List.mem_of_getElem? (i := 13) rfl))) (Or.inl (hw _ (List.mem_of_getElem? (i := 11) rfl))) (by decide) (t := (.array .int)) (t' := (.array .int)) (by decide) (by decide)))).ext E4)
  have J6 := (((PE_ob0.ext E2).wr W3).ext E4)
  obtain ⟨T7, h7, X7, e7, W7, st7⟩ := putF X4 hx hZ hown (host := "") (Or.inl (hw _ (List.mem_of_getElem? (i := 12) rfl))) Via.refl e4 J5 J6 (Or.inl (hw _ (List.mem_of_getElem? (i := 13) rfl))) (hw _ (List.mem_of_getElem? (i := 1) rfl)) (ty := (.array .int)) (by decide) rfl rfl (g := (mkF m 19 #[.val (.ref ob0)] [(.ref b4), (.ref ob0)])) rfl rfl (hb hby d1_19)
  have Fw7 := J5.same W7
  have N7 := Fr.snoc X7 N3 g_ob0
  have O7 := O4.wr W7 g_ob0
  have KK7 : Keep h0 h7 [ob0] := KK4.wr W7 (Or.inl (List.mem_of_getElem? (i := 0) rfl))
  have J8 := ((((PF_ob0_nodes.ext E2).other W3 (Or.inr (slot_ne (Or.inl (hw _ (List.mem_of_getElem? (i := 15) rfl))) (Or.inl (hw _ (List.mem_of_getElem? (i := 11) rfl))) (by decide) (t := .int) (t' := (.array .int)) (by decide) (by decide)))).ext E4).other W7 (Or.inr (slot_ne (Or.inl (hw _ (List.mem_of_getElem? (i := 15) rfl))) (Or.inl (hw _ (List.mem_of_getElem? (i := 13) rfl))) (by decide) (t := .int) (t' := (.array .int)) (by decide) (by decide))))
  obtain ⟨T9, h9, X9, e9, W9, st9⟩ := putF X7 hx hZ hown (host := "") (Or.inl (hw _ (List.mem_of_getElem? (i := 14) rfl))) Via.refl e7 J8 (J6.wr W7) (Or.inl (hw _ (List.mem_of_getElem? (i := 15) rfl))) (hw _ (List.mem_of_getElem? (i := 1) rfl)) (ty := .int) (by decide) rfl rfl (g := (mkF m 24 #[.val (.ref ob0)] [(.int (1 : Int32)), (.ref ob0)])) rfl rfl (hb hby d1_24)
  have Fw9 := J8.same W9
  have N9 := Fr.snoc X9 N7 g_ob0
  have O9 := O7.wr W9 g_ob0
  have KK9 : Keep h0 h9 [ob0] := KK7.wr W9 (Or.inl (List.mem_of_getElem? (i := 0) rfl))
  obtain ⟨T10, h10, X10, e10, E10, A10, D10, -, st10⟩ := newO X9 hx hZ hown (hw _ (List.mem_of_getElem? (i := 16) rfl)) (hw _ (List.mem_of_getElem? (i := 17) rfl)) (hw _ (List.mem_of_getElem? (i := 18) rfl)) e9 (g := (mkF m 28 #[.val (.ref ob0)] [(.ref ob0)])) rfl (hb hby d1_28) (by decide) (by decide)
  obtain ⟨b10, gg10⟩ : ∃ z, z = h9.size := ⟨_, rfl⟩
  rw [← gg10] at A10 D10 st10
  have bo_b10 : h9.size ≤ b10 := Nat.le_of_eq gg10.symm
  have g_b10 : n0 ≤ b10 := Nat.le_trans (own_n0 O9) bo_b10
  have sz_b10 : h0.size ≤ b10 := Nat.le_trans KK9.1 bo_b10
  have KK10 : Keep h0 h10 [ob0] := KK9.ext E10
  have O10 := O9.ext E10
  have lb_b10 : b10 < h10.size := A10.lt
  have F_loadFactor_b10 : Fld Z h10 b10 "java/util/HashMap" "loadFactor" "F" (.float (0 : UInt32)) := D10 (Or.inr (hw _ (List.mem_of_getElem? (i := 31) rfl))) (ty := .float) (by decide)
  have F_size_b10 : Fld Z h10 b10 "java/util/HashMap" "size" "I" (.int (0 : Int32)) := D10 (Or.inl (hw _ (List.mem_of_getElem? (i := 105) rfl))) (ty := .int) (by decide)
  have F_threshold_b10 : Fld Z h10 b10 "java/util/HashMap" "threshold" "I" (.int (0 : Int32)) := D10 (Or.inl (hw _ (List.mem_of_getElem? (i := 107) rfl))) (ty := .int) (by decide)
  have F_table_b10 : Fld Z h10 b10 "java/util/HashMap" "table" "[Ljava/util/HashMap$Node;" .null := D10 (Or.inl (hw _ (List.mem_of_getElem? (i := 109) rfl))) (ty := (.array (.object "java/util/HashMap$Node"))) (by decide)
  have F_modCount_b10 : Fld Z h10 b10 "java/util/HashMap" "modCount" "I" (.int (0 : Int32)) := D10 (Or.inl (hw _ (List.mem_of_getElem? (i := 118) rfl))) (ty := .int) (by decide)
  obtain ⟨_, _, ⟨T11, L11, k11, n11⟩, -, X11, ⟨Lc11, hQ11, l11, y11, z11⟩, st11⟩ := X10.specialBack hx (y := (⟨"java/util/HashMap", "<init>", "()V"⟩ : MethodName)) rfl hown (mvT hZ (hw _ (List.mem_of_getElem? (i := 19) rfl))) (mvT hZ (hw _ (List.mem_of_getElem? (i := 20) rfl))) (mvT hZ (hw _ (List.mem_of_getElem? (i := 21) rfl))) (by decide) (backOf (W := 2) (rm3_1 l Z a0 hw []  b10 h10 n0 (own_n0 O10) O10 A10 F_loadFactor_b10 F_size_b10 F_threshold_b10 F_table_b10 F_modCount_b10 g_b10) hZ (hw _ (List.mem_of_getElem? (i := 21) rfl)) (hw _ (List.mem_of_getElem? (i := 18) rfl)) (by decide) (by decide)) (g := (mkF m 32 #[.val (.ref ob0)] [(.ref b10), (.ref b10), (.ref ob0)])) rfl (by rw [hml]; rfl) (Steps.refl _) (a := b10) (argsL := []) (rest := [(.ref b10), (.ref ob0)]) (lenOf pd23 rfl) rfl (by show 2 * 0 + _ ≤ _; exact Nat.le_of_eq rfl) (hb hby d1_32) (fun _ _ => ⟨rfl, e10, (by decide : 3 + 0 ≤ _), (by decide : 2056 + 0 ≤ _)⟩)
  dsimp only [Pt.U, Pt.locs, Pt.cells, Pt.slots] at X11 l11 y11 z11 st11 hQ11
  subst l11 y11 z11
  obtain ⟨rfl, N11q, K11, O11, pf11_0, pf11_1, pf11_2, pf11_3, pf11_4, pf11_5, -⟩ := hQ11
  have KK11 : Keep h0 T11.heap [ob0] := KK10.trans K11 (allS (Or.inr sz_b10) all0)
  have N11 := Fr.app N9 N11q
  have J12 := (((((((PF_ob0_gates.ext E2).other W3 (Or.inr (slot_ne (Or.inr (hw _ (List.mem_of_getElem? (i := 33) rfl))) (Or.inl (hw _ (List.mem_of_getElem? (i := 11) rfl))) (by decide) (t := (.object "java/util/Map")) (t' := (.array .int)) (by decide) (by decide)))).ext E4).other W7 (Or.inr (slot_ne (Or.inr (hw _ (List.mem_of_getElem? (i := 33) rfl))) (Or.inl (hw _ (List.mem_of_getElem? (i := 13) rfl))) (by decide) (t := (.object "java/util/Map")) (t' := (.array .int)) (by decide) (by decide)))).other W9 (Or.inr (slot_ne (Or.inr (hw _ (List.mem_of_getElem? (i := 33) rfl))) (Or.inl (hw _ (List.mem_of_getElem? (i := 15) rfl))) (by decide) (t := (.object "java/util/Map")) (t' := .int) (by decide) (by decide)))).ext E10).keep K11 (ninS (Nat.ne_of_lt (Nat.lt_of_lt_of_le (Nat.lt_of_lt_of_le (Nat.lt_of_lt_of_le (Nat.lt_of_lt_of_le (Nat.lt_of_lt_of_le (Nat.lt_of_lt_of_le PE_ob0.lt E2.1) (Keep.of_wr W3).1) E4.1) (Keep.of_wr W7).1) (Keep.of_wr W9).1) bo_b10)) nin0))
  have J13 := ((((J6.wr W7).wr W9).ext E10).keep K11)
  obtain ⟨T14, h14, X14, e14, W14, st14⟩ := putF X11 hx hZ hown (host := "") (Or.inl (hw _ (List.mem_of_getElem? (i := 32) rfl))) Via.refl rfl J12 J13 (Or.inr ⟨(hw _ (List.mem_of_getElem? (i := 33) rfl)), rfl, hnm⟩) (hw _ (List.mem_of_getElem? (i := 1) rfl)) (ty := (.object "java/util/Map")) (by decide) rfl rfl (g := (mkF m 35 #[.val (.ref ob0)] [(.ref b10), (.ref ob0)])) rfl rfl (hb hby d1_35)
  have Fw14 := J12.same W14
  have N14 := Fr.snoc X14 N11 g_ob0
  have O14 := O11.wr W14 g_ob0
  have KK14 : Keep h0 h14 [ob0] := KK11.wr W14 (Or.inl (List.mem_of_getElem? (i := 0) rfl))
  have J15 := ((((((Fw3.ext E4).other W7 (Or.inr (slot_ne (Or.inl (hw _ (List.mem_of_getElem? (i := 11) rfl))) (Or.inl (hw _ (List.mem_of_getElem? (i := 13) rfl))) (by decide) (t := (.array .int)) (t' := (.array .int)) (by decide) (by decide)))).other W9 (Or.inr (slot_ne (Or.inl (hw _ (List.mem_of_getElem? (i := 11) rfl))) (Or.inl (hw _ (List.mem_of_getElem? (i := 15) rfl))) (by decide) (t := (.array .int)) (t' := .int) (by decide) (by decide)))).ext E10).keep K11 (ninS (Nat.ne_of_lt (Nat.lt_of_lt_of_le (Nat.lt_of_lt_of_le (Nat.lt_of_lt_of_le (Nat.lt_of_lt_of_le (Nat.lt_of_lt_of_le (Nat.lt_of_lt_of_le PE_ob0.lt E2.1) (Keep.of_wr W3).1) E4.1) (Keep.of_wr W7).1) (Keep.of_wr W9).1) bo_b10)) nin0)).other W14 (Or.inr (slot_ne (Or.inl (hw _ (List.mem_of_getElem? (i := 11) rfl))) (Or.inr (hw _ (List.mem_of_getElem? (i := 33) rfl))) (by decide) (t := (.array .int)) (t' := (.object "java/util/Map")) (by decide) (by decide))))
  have J16 := ((((Fw7.other W9 (Or.inr (slot_ne (Or.inl (hw _ (List.mem_of_getElem? (i := 13) rfl))) (Or.inl (hw _ (List.mem_of_getElem? (i := 15) rfl))) (by decide) (t := (.array .int)) (t' := .int) (by decide) (by decide)))).ext E10).keep K11 (ninS (Nat.ne_of_lt (Nat.lt_of_lt_of_le (Nat.lt_of_lt_of_le (Nat.lt_of_lt_of_le (Nat.lt_of_lt_of_le (Nat.lt_of_lt_of_le (Nat.lt_of_lt_of_le PE_ob0.lt E2.1) (Keep.of_wr W3).1) E4.1) (Keep.of_wr W7).1) (Keep.of_wr W9).1) bo_b10)) nin0)).other W14 (Or.inr (slot_ne (Or.inl (hw _ (List.mem_of_getElem? (i := 13) rfl))) (Or.inr (hw _ (List.mem_of_getElem? (i := 33) rfl))) (by decide) (t := (.array .int)) (t' := (.object "java/util/Map")) (by decide) (by decide))))
  have J17 := (((Fw9.ext E10).keep K11 (ninS (Nat.ne_of_lt (Nat.lt_of_lt_of_le (Nat.lt_of_lt_of_le (Nat.lt_of_lt_of_le (Nat.lt_of_lt_of_le (Nat.lt_of_lt_of_le (Nat.lt_of_lt_of_le PE_ob0.lt E2.1) (Keep.of_wr W3).1) E4.1) (Keep.of_wr W7).1) (Keep.of_wr W9).1) bo_b10)) nin0)).other W14 (Or.inr (slot_ne (Or.inl (hw _ (List.mem_of_getElem? (i := 15) rfl))) (Or.inr (hw _ (List.mem_of_getElem? (i := 33) rfl))) (by decide) (t := .int) (t' := (.object "java/util/Map")) (by decide) (by decide))))
  have J18 := (((((((V_b2.other W3 (Ne.symm (Nat.ne_of_lt (Nat.lt_of_lt_of_le PE_ob0.lt bo_b2)))).ext E4).other W7 (Ne.symm (Nat.ne_of_lt (Nat.lt_of_lt_of_le PE_ob0.lt bo_b2)))).other W9 (Ne.symm (Nat.ne_of_lt (Nat.lt_of_lt_of_le PE_ob0.lt bo_b2)))).ext E10).keep K11 (ninS (Nat.ne_of_lt (Nat.lt_of_lt_of_le (Nat.lt_of_lt_of_le (Nat.lt_of_lt_of_le (Nat.lt_of_lt_of_le (Nat.lt_of_lt_of_le lb_b2 (Keep.of_wr W3).1) E4.1) (Keep.of_wr W7).1) (Keep.of_wr W9).1) bo_b10)) nin0)).other W14 (Ne.symm (Nat.ne_of_lt (Nat.lt_of_lt_of_le PE_ob0.lt bo_b2))))
  have J19 := (((((((B2.wr W3).ext E4).wr W7).wr W9).ext E10).keep K11).wr W14)
  have J20 := (((((V_b4.other W7 (Ne.symm (Nat.ne_of_lt (Nat.lt_of_lt_of_le (Nat.lt_of_lt_of_le (Nat.lt_of_lt_of_le PE_ob0.lt E2.1) (Keep.of_wr W3).1) bo_b4)))).other W9 (Ne.symm (Nat.ne_of_lt (Nat.lt_of_lt_of_le (Nat.lt_of_lt_of_le (Nat.lt_of_lt_of_le PE_ob0.lt E2.1) (Keep.of_wr W3).1) bo_b4)))).ext E10).keep K11 (ninS (Nat.ne_of_lt (Nat.lt_of_lt_of_le (Nat.lt_of_lt_of_le (Nat.lt_of_lt_of_le lb_b4 (Keep.of_wr W7).1) (Keep.of_wr W9).1) bo_b10)) nin0)).other W14 (Ne.symm (Nat.ne_of_lt (Nat.lt_of_lt_of_le (Nat.lt_of_lt_of_le (Nat.lt_of_lt_of_le PE_ob0.lt E2.1) (Keep.of_wr W3).1) bo_b4))))
  have J21 := (((((B4.wr W7).wr W9).ext E10).keep K11).wr W14)
  obtain ⟨fs, hr, hrun, hended, hW, hsame⟩ := X14.leave (v := none) (fun _ => rfl)
  refine ⟨_, _, pre0 _ ?_, hrun, hended, _, _, rfl, ?_, ⟨_, rfl⟩, hW, hsame.mono (by decide) (by decide)⟩
  · show Steps p.tables e below (s₁.setTop (mkF m 0 #[.val (.ref ob0)] [])) _
    refine XS.aloadN X0.here hx rfl (hb hby d1_0) rfl rfl ?_
    show Steps p.tables e below (s₁.setTop (mkF m 1 #[.val (.ref ob0)] [(.ref ob0)])) _
    refine st1 _ ?_
    show Steps p.tables e below (T1.setTop (mkF m 4 #[.val (.ref ob0)] [])) _
    refine XS.aloadN X1.here hx rfl (hb hby d1_4) rfl rfl ?_
    show Steps p.tables e below (T1.setTop (mkF m 5 #[.val (.ref ob0)] [(.ref ob0)])) _
    refine XS.sipush X1.here hx rfl (hb hby d1_5) ?_
    show Steps p.tables e below (T1.setTop (mkF m 8 #[.val (.ref ob0)] [(.int (1024 : Int32)), (.ref ob0)])) _
    refine st2 _ ?_
    show Steps p.tables e below (T2.setTop (mkF m 10 #[.val (.ref ob0)] [(.ref b2), (.ref ob0)])) _
    refine st3 _ ?_
    show Steps p.tables e below (T3.setTop (mkF m 13 #[.val (.ref ob0)] [])) _
    refine XS.aloadN X3.here hx rfl (hb hby d1_13) rfl rfl ?_
    show Steps p.tables e below (T3.setTop (mkF m 14 #[.val (.ref ob0)] [(.ref ob0)])) _
    refine XS.sipush X3.here hx rfl (hb hby d1_14) ?_
    show Steps p.tables e below (T3.setTop (mkF m 17 #[.val (.ref ob0)] [(.int (1024 : Int32)), (.ref ob0)])) _
    refine st4 _ ?_
    show Steps p.tables e below (T4.setTop (mkF m 19 #[.val (.ref ob0)] [(.ref b4), (.ref ob0)])) _
    refine st7 _ ?_
    show Steps p.tables e below (T7.setTop (mkF m 22 #[.val (.ref ob0)] [])) _
    refine XS.aloadN X7.here hx rfl (hb hby d1_22) rfl rfl ?_
    show Steps p.tables e below (T7.setTop (mkF m 23 #[.val (.ref ob0)] [(.ref ob0)])) _
    refine XS.iconst X7.here hx rfl (hb hby d1_23) ?_
    show Steps p.tables e below (T7.setTop (mkF m 24 #[.val (.ref ob0)] [(.int (1 : Int32)), (.ref ob0)])) _
    refine st9 _ ?_
    show Steps p.tables e below (T9.setTop (mkF m 27 #[.val (.ref ob0)] [])) _
    refine XS.aloadN X9.here hx rfl (hb hby d1_27) rfl rfl ?_
    show Steps p.tables e below (T9.setTop (mkF m 28 #[.val (.ref ob0)] [(.ref ob0)])) _
    refine st10 _ ?_
    show Steps p.tables e below (T10.setTop (mkF m 31 #[.val (.ref ob0)] [(.ref b10), (.ref ob0)])) _
    refine XS.dup X10.here hx rfl (hb hby d1_31) rfl rfl ?_
    show Steps p.tables e below (T10.setTop (mkF m 32 #[.val (.ref ob0)] [(.ref b10), (.ref b10), (.ref ob0)])) _
    refine st11.trans ?_
    show Steps p.tables e below (T11.setTop (mkF m 35 #[.val (.ref ob0)] [(.ref b10), (.ref ob0)])) _
    refine st14 _ ?_
    show Steps p.tables e below (T14.setTop (mkF m 38 #[.val (.ref ob0)] [])) _
    exact X14.returnOut hx Bd.returns (hb hby d1_38) hr
  · have eH : (T14.setFrames fs).heap = h14 := e14; rw [eH]; exact ⟨b2, b4, b10, k2, k4, rfl, N14, KK14, O14, sz_b2, sz_b4, sz_b10, (Nat.lt_of_lt_of_le (Nat.lt_of_lt_of_le lb_b2 (Keep.of_wr W3).1) bo_b4), (Nat.lt_of_lt_of_le (Nat.lt_of_lt_of_le (Nat.lt_of_lt_of_le lb_b4 (Keep.of_wr W7).1) (Keep.of_wr W9).1) bo_b10), (J13.wr W14), J15, J16, J17, Fw14, J18, J19, J20, J21, (pf11_0.wr W14), (pf11_1.other W14 (Or.inl (Ne.symm (Nat.ne_of_lt (Nat.lt_of_lt_of_le (Nat.lt_of_lt_of_le (Nat.lt_of_lt_of_le (Nat.lt_of_lt_of_le (Nat.lt_of_lt_of_le (Nat.lt_of_lt_of_le PE_ob0.lt E2.1) (Keep.of_wr W3).1) E4.1) (Keep.of_wr W7).1) (Keep.of_wr W9).1) bo_b10))))), (pf11_2.other W14 (Or.inl (Ne.symm (Nat.ne_of_lt (Nat.lt_of_lt_of_le (Nat.lt_of_lt_of_le (Nat.lt_of_lt_of_le (Nat.lt_of_lt_of_le (Nat.lt_of_lt_of_le (Nat.lt_of_lt_of_le PE_ob0.lt E2.1) (Keep.of_wr W3).1) E4.1) (Keep.of_wr W7).1) (Keep.of_wr W9).1) bo_b10))))), (pf11_3.other W14 (Or.inl (Ne.symm (Nat.ne_of_lt (Nat.lt_of_lt_of_le (Nat.lt_of_lt_of_le (Nat.lt_of_lt_of_le (Nat.lt_of_lt_of_le (Nat.lt_of_lt_of_le (Nat.lt_of_lt_of_le PE_ob0.lt E2.1) (Keep.of_wr W3).1) E4.1) (Keep.of_wr W7).1) (Keep.of_wr W9).1) bo_b10))))), (pf11_4.other W14 (Or.inl (Ne.symm (Nat.ne_of_lt (Nat.lt_of_lt_of_le (Nat.lt_of_lt_of_le (Nat.lt_of_lt_of_le (Nat.lt_of_lt_of_le (Nat.lt_of_lt_of_le (Nat.lt_of_lt_of_le PE_ob0.lt E2.1) (Keep.of_wr W3).1) E4.1) (Keep.of_wr W7).1) (Keep.of_wr W9).1) bo_b10))))), (pf11_5.other W14 (Or.inl (Ne.symm (Nat.ne_of_lt (Nat.lt_of_lt_of_le (Nat.lt_of_lt_of_le (Nat.lt_of_lt_of_le (Nat.lt_of_lt_of_le (Nat.lt_of_lt_of_le (Nat.lt_of_lt_of_le PE_ob0.lt E2.1) (Keep.of_wr W3).1) E4.1) (Keep.of_wr W7).1) (Keep.of_wr W9).1) bo_b10))))), trivial⟩
theorem d19_0 : decode prog_12_method_15_code 0 = .ok (.iconst 2, 1) := by decide +kernel
theorem d19_1 : decode prog_12_method_15_code 1 = .ok (.aload_n 0, 1) := by decide +kernel
theorem d19_2 : decode prog_12_method_15_code 2 = .ok (.iload_n 1, 1) := by decide +kernel
theorem d19_3 : decode prog_12_method_15_code 3 = .ok (.iload_n 2, 1) := by decide +kernel
theorem d6_0 : decode prog_12_method_14_code 0 = .ok (.aload_n 0, 1) := by decide +kernel
theorem d6_1 : decode prog_12_method_14_code 1 = .ok (.getfield 16, 3) := by decide +kernel
theorem d6_4 : decode prog_12_method_14_code 4 = .ok (.aload_n 0, 1) := by decide +kernel
theorem d6_5 : decode prog_12_method_14_code 5 = .ok (.getfield 7, 3) := by decide +kernel
theorem d6_8 : decode prog_12_method_14_code 8 = .ok (.arraylength, 1) := by decide +kernel
theorem d6_9 : decode prog_12_method_14_code 9 = .ok (.if_icmp .ne 37, 3) := by decide +kernel
theorem d6_46 : decode prog_12_method_14_code 46 = .ok (.aload_n 0, 1) := by decide +kernel
theorem d6_47 : decode prog_12_method_14_code 47 = .ok (.getfield 7, 3) := by decide +kernel
theorem d6_50 : decode prog_12_method_14_code 50 = .ok (.aload_n 0, 1) := by decide +kernel
theorem d6_51 : decode prog_12_method_14_code 51 = .ok (.getfield 16, 3) := by decide +kernel
theorem d6_54 : decode prog_12_method_14_code 54 = .ok (.iload_n 1, 1) := by decide +kernel
theorem d6_55 : decode prog_12_method_14_code 55 = .ok (.iastore, 1) := by decide +kernel
theorem d6_56 : decode prog_12_method_14_code 56 = .ok (.aload_n 0, 1) := by decide +kernel
theorem d6_57 : decode prog_12_method_14_code 57 = .ok (.getfield 13, 3) := by decide +kernel
theorem d6_60 : decode prog_12_method_14_code 60 = .ok (.aload_n 0, 1) := by decide +kernel
theorem d6_61 : decode prog_12_method_14_code 61 = .ok (.getfield 16, 3) := by decide +kernel
theorem d6_64 : decode prog_12_method_14_code 64 = .ok (.iload_n 2, 1) := by decide +kernel
theorem d6_65 : decode prog_12_method_14_code 65 = .ok (.iastore, 1) := by decide +kernel
theorem d6_66 : decode prog_12_method_14_code 66 = .ok (.aload_n 0, 1) := by decide +kernel
theorem d6_67 : decode prog_12_method_14_code 67 = .ok (.dup, 1) := by decide +kernel
theorem d6_68 : decode prog_12_method_14_code 68 = .ok (.getfield 16, 3) := by decide +kernel
theorem d6_71 : decode prog_12_method_14_code 71 = .ok (.dup_x1, 1) := by decide +kernel
theorem d6_72 : decode prog_12_method_14_code 72 = .ok (.iconst 1, 1) := by decide +kernel
theorem d6_73 : decode prog_12_method_14_code 73 = .ok (.iadd, 1) := by decide +kernel
theorem d6_74 : decode prog_12_method_14_code 74 = .ok (.putfield 16, 3) := by decide +kernel
theorem d6_77 : decode prog_12_method_14_code 77 = .ok (.ireturn, 1) := by decide +kernel
theorem ef69 (m : MethodId) (x0 : Addr) (x1 : Int32) (x2 : Int32) : entryFrame m #[(.ref x0), (.int x1), (.int x2)] 3 = mkF m 0 #[.val (.ref x0), .val (.int x1), .val (.int x2)] [] := by first | (simp [entryFrame, mkF, argsToLocals, Value.category]; done) | rfl
def Q6_3 (Z : State) (w_cache : Addr) (cl_w_cache : Cell) (ob0 : Addr) (q0 : Int32) (q1 : Int32) (ob1 : Addr) (ob2 : Addr) (k_ob1 : ClassId) (q2 : Int32) (q3 : Int32) (q4 : Int32) (q5 : Int32) (q6 : Int32) (q7 : Int32) (k_ob2 : ClassId) (q8 : Int32) (q9 : Int32) (q10 : Int32) (q11 : Int32) (q12 : Int32) (q13 : Int32) (h0 : Heap) (n0 : Nat) (v : Option Value) (h : Heap) (L : List Loc) : Prop := v = some (.int (3 : Int32)) ∧ Fr n0 L ∧ Keep h0 h [ob1, ob2, ob0] ∧ Old Z n0 h ∧ Arv Z h ob1 k_ob1 .int (1024 : Int32) [(.int q2), (.int q3), (.int q4), (.int q0), (.int q6), (.int q7)] (.int (0 : Int32)) ∧ Arv Z h ob2 k_ob2 .int (1024 : Int32) [(.int q8), (.int q9), (.int q10), (.int q1), (.int q12), (.int q13)] (.int (0 : Int32)) ∧ Exa Z h ob0 "com/example/minos/minos/analysis/Circuit" ∧ Fld Z h ob0 "com/example/minos/minos/analysis/Circuit" "first" "[I" (.ref ob1) ∧ Fld Z h ob0 "com/example/minos/minos/analysis/Circuit" "second" "[I" (.ref ob2) ∧ Fld Z h ob0 "com/example/minos/minos/analysis/Circuit" "nodes" "I" (.int (4 : Int32)) ∧ True
set_option maxRecDepth 65536 in
set_option maxHeartbeats 40000000 in
theorem rm6_3 (l : Launch) (Z : State) (a0 : Array Value) (hw : ∀ d ∈ tables_1, d.before a0 Z = true) (ws : List Jvm.Cond) (w_cache : Addr) (cl_w_cache : Cell) (ob0 : Addr) (q0 : Int32) (q1 : Int32) (ob1 : Addr) (ob2 : Addr) (k_ob1 : ClassId) (q2 : Int32) (q3 : Int32) (q4 : Int32) (q5 : Int32) (q6 : Int32) (q7 : Int32) (k_ob2 : ClassId) (q8 : Int32) (q9 : Int32) (q10 : Int32) (q11 : Int32) (q12 : Int32) (q13 : Int32) (h0 : Heap) (n0 : Nat) (Z0 : n0 ≤ h0.size) (O0 : Old Z n0 h0) (HW : World Z w_cache cl_w_cache) (PE_ob0 : Exa Z h0 ob0 "com/example/minos/minos/analysis/Circuit") (PF_ob0_first : Fld Z h0 ob0 "com/example/minos/minos/analysis/Circuit" "first" "[I" (.ref ob1)) (PF_ob0_second : Fld Z h0 ob0 "com/example/minos/minos/analysis/Circuit" "second" "[I" (.ref ob2)) (PF_ob0_nodes : Fld Z h0 ob0 "com/example/minos/minos/analysis/Circuit" "nodes" "I" (.int (3 : Int32))) (PV_ob1 : Arv Z h0 ob1 k_ob1 .int (1024 : Int32) [(.int q2), (.int q3), (.int q4), (.int q5), (.int q6), (.int q7)] (.int (0 : Int32))) (PV_ob2 : Arv Z h0 ob2 k_ob2 .int (1024 : Int32) [(.int q8), (.int q9), (.int q10), (.int q11), (.int q12), (.int q13)] (.int (0 : Int32))) (ne_ob0_ob1 : ob0 ≠ ob1) (ne_ob1_ob2 : ob1 ≠ ob2) (ne_ob0_ob2 : ob0 ≠ ob2) (g_ob1 : n0 ≤ ob1) (g_ob2 : n0 ≤ ob2) (g_ob0 : n0 ≤ ob0) :
    MetFree l (⟨"com/example/minos/minos/analysis/Circuit", "add", "(II)I"⟩ : MethodName) (head1 (Jvm.Cond.code (⟨"com/example/minos/minos/analysis/Circuit", "add", "(II)I"⟩ : MethodName) prog_12_method_14_code 3 (some .int) :: ws) ({ frames := 0, cells := 0, slots := 0, locals := 0 } : Room)) (fun a U => a = #[(.ref ob0), (.int q0), (.int q1)] ∧ Z.Warmed39 U.vm ∧ U.heap = h0) (fun _ _ _ _ _ => True) (fun _ U o U' => ∃ v L, o = .returned v ∧ Q6_3 Z w_cache cl_w_cache ob0 q0 q1 ob1 ob2 k_ob1 q2 q3 q4 q5 q6 q7 k_ob2 q8 q9 q10 q11 q12 q13 h0 n0 v U'.heap L ∧ FrameEnd U o U' L ({ frames := 0, cells := 0, slots := 0, locals := 0 } : Room).cells ({ frames := 0, cells := 0, slots := 0, locals := 0 } : Room).slots) := by
  refine MetFree.of_bodySF (plainFor_of_name pn37) hisR ?_
  intro p e s m args below meth c s₁ Bd hml0 hP hK
  obtain ⟨rfl, hZ, hh⟩ := hP
  have hx := Bd.exec
  have hby := Bd.bytes
  have hml : c.maxLocals = 3 := hml0
  have hown : s.vm.findClass "com/example/minos/minos/analysis/Circuit" = some m.cls := findClass_of_methodNamed Bd.named
  have hnm := (name_of_methodNamed Bd.named Bd.method).1
  have X0 : Stand p l e ({ frames := 0, cells := 0, slots := 0, locals := 0 } : Room) s m #[(.ref ob0), (.int q0), (.int q1)] below meth c s₁ [] 0 0 := Stand.of_body Bd
  have e0 : s₁.heap = h0 := by rw [← hh, Bd.state]; rfl
  have N0 := Fr.nil n0
  have pre0 : ∀ t, Steps p.tables e below (s₁.setTop (mkF m 0 #[.val (.ref ob0), .val (.int q0), .val (.int q1)] [])) t → Steps p.tables e below (s₁.setTop (entryFrame m #[(.ref ob0), (.int q0), (.int q1)] 3)) t := fun t k => castTop (ef69 m ob0 q0 q1) k
  obtain ⟨S_high, S_w_cache, Ar_w_cache, Sz_w_cache, AL_w_cache, -⟩ := id HW
  obtain ⟨T1, X1, e1, st1⟩ := getF X0 hx hZ hown (host := "") (Or.inl (hw _ (List.mem_of_getElem? (i := 14) rfl))) Via.refl e0 PF_ob0_nodes (g := (mkF m 1 #[.val (.ref ob0), .val (.int q0), .val (.int q1)] [(.ref ob0)])) rfl rfl (hb hby d6_1)
  obtain ⟨T2, X2, e2, st2⟩ := getF X1 hx hZ hown (host := "") (Or.inl (hw _ (List.mem_of_getElem? (i := 10) rfl))) Via.refl e1 PF_ob0_first (g := (mkF m 5 #[.val (.ref ob0), .val (.int q0), .val (.int q1)] [(.ref ob0), (.int (3 : Int32))])) rfl rfl (hb hby d6_5)
  obtain ⟨ac3, aA3, aq3, aS3, aN3, aH3, aG3⟩ := id PV_ob1
  obtain ⟨T4, X4, e4, st4⟩ := getF X2 hx hZ hown (host := "") (Or.inl (hw _ (List.mem_of_getElem? (i := 10) rfl))) Via.refl e2 PF_ob0_first (g := (mkF m 47 #[.val (.ref ob0), .val (.int q0), .val (.int q1)] [(.ref ob0)])) rfl rfl (hb hby d6_47)
  obtain ⟨T5, X5, e5, st5⟩ := getF X4 hx hZ hown (host := "") (Or.inl (hw _ (List.mem_of_getElem? (i := 14) rfl))) Via.refl e4 PF_ob0_nodes (g := (mkF m 51 #[.val (.ref ob0), .val (.int q0), .val (.int q1)] [(.ref ob0), (.ref ob1)])) rfl rfl (hb hby d6_51)
  obtain ⟨ac6, aA6, aq6, aS6, aN6, aH6, aG6⟩ := id PV_ob1
  obtain ⟨T7, h7, X7, e7, W7, st7⟩ := stI X5 hx hZ e5 aA6 (j := (3 : Int32)) (inb_of aS6 ⟨by decide, by decide⟩) (g := (mkF m 55 #[.val (.ref ob0), .val (.int q0), .val (.int q1)] [(.int q0), (.int (3 : Int32)), (.ref ob1)])) rfl rfl (hb hby d6_55)
  have V_ob1_7 : Arv Z h7 ob1 k_ob1 .int (1024 : Int32) [(.int q2), (.int q3), (.int q4), (.int q0), (.int q6), (.int q7)] (.int (0 : Int32)) := Arv.set aA6 aq6 aS6 aN6 aH6 aG6 rfl W7 3 rfl (Nat.le_of_ble_eq_true rfl)
  have N7 := Fr.snoc X7 N0 g_ob1
  have O7 := O0.wr W7 g_ob1
  have KK7 : Keep h0 h7 [ob1, ob2, ob0] := (Keep.refl h0 [ob1, ob2, ob0]).wr W7 (Or.inl (List.mem_of_getElem? (i := 0) rfl))
  obtain ⟨T8, X8, e8, st8⟩ := getF X7 hx hZ hown (host := "") (Or.inl (hw _ (List.mem_of_getElem? (i := 12) rfl))) Via.refl e7 (PF_ob0_second.other W7 (Or.inl ne_ob0_ob1)) (g := (mkF m 57 #[.val (.ref ob0), .val (.int q0), .val (.int q1)] [(.ref ob0)])) rfl rfl (hb hby d6_57)
  obtain ⟨T9, X9, e9, st9⟩ := getF X8 hx hZ hown (host := "") (Or.inl (hw _ (List.mem_of_getElem? (i := 14) rfl))) Via.refl e8 (PF_ob0_nodes.other W7 (Or.inl ne_ob0_ob1)) (g := (mkF m 61 #[.val (.ref ob0), .val (.int q0), .val (.int q1)] [(.ref ob0), (.ref ob2)])) rfl rfl (hb hby d6_61)
  obtain ⟨ac10, aA10, aq10, aS10, aN10, aH10, aG10⟩ := id (PV_ob2.other W7 (Ne.symm ne_ob1_ob2))
  obtain ⟨T11, h11, X11, e11, W11, st11⟩ := stI X9 hx hZ e9 aA10 (j := (3 : Int32)) (inb_of aS10 ⟨by decide, by decide⟩) (g := (mkF m 65 #[.val (.ref ob0), .val (.int q0), .val (.int q1)] [(.int q1), (.int (3 : Int32)), (.ref ob2)])) rfl rfl (hb hby d6_65)
  have V_ob2_11 : Arv Z h11 ob2 k_ob2 .int (1024 : Int32) [(.int q8), (.int q9), (.int q10), (.int q1), (.int q12), (.int q13)] (.int (0 : Int32)) := Arv.set aA10 aq10 aS10 aN10 aH10 aG10 rfl W11 3 rfl (Nat.le_of_ble_eq_true rfl)
  have N11 := Fr.snoc X11 N7 g_ob2
  have O11 := O7.wr W11 g_ob2
  have KK11 : Keep h0 h11 [ob1, ob2, ob0] := KK7.wr W11 (Or.inl (List.mem_of_getElem? (i := 1) rfl))
  obtain ⟨T12, X12, e12, st12⟩ := getF X11 hx hZ hown (host := "") (Or.inl (hw _ (List.mem_of_getElem? (i := 14) rfl))) Via.refl e11 ((PF_ob0_nodes.other W7 (Or.inl ne_ob0_ob1)).other W11 (Or.inl ne_ob0_ob2)) (g := (mkF m 68 #[.val (.ref ob0), .val (.int q0), .val (.int q1)] [(.ref ob0), (.ref ob0)])) rfl rfl (hb hby d6_68)
  obtain ⟨T13, h13, X13, e13, W13, st13⟩ := putF X12 hx hZ hown (host := "") (Or.inl (hw _ (List.mem_of_getElem? (i := 14) rfl))) Via.refl e12 ((PF_ob0_nodes.other W7 (Or.inl ne_ob0_ob1)).other W11 (Or.inl ne_ob0_ob2)) ((PE_ob0.wr W7).wr W11) (Or.inl (hw _ (List.mem_of_getElem? (i := 15) rfl))) (hw _ (List.mem_of_getElem? (i := 1) rfl)) (ty := .int) (by decide) rfl rfl (g := (mkF m 74 #[.val (.ref ob0), .val (.int q0), .val (.int q1)] [(.int (4 : Int32)), (.ref ob0), (.int (3 : Int32))])) rfl rfl (hb hby d6_74)
  have Fw13 := ((PF_ob0_nodes.other W7 (Or.inl ne_ob0_ob1)).other W11 (Or.inl ne_ob0_ob2)).same W13
  have N13 := Fr.snoc X13 N11 g_ob0
  have O13 := O11.wr W13 g_ob0
  have KK13 : Keep h0 h13 [ob1, ob2, ob0] := KK11.wr W13 (Or.inl (List.mem_of_getElem? (i := 2) rfl))
  have J14 := (((PE_ob0.wr W7).wr W11).wr W13)
  have J15 := (((PF_ob0_first.other W7 (Or.inl ne_ob0_ob1)).other W11 (Or.inl ne_ob0_ob2)).other W13 (Or.inr (slot_ne (Or.inl (hw _ (List.mem_of_getElem? (i := 11) rfl))) (Or.inl (hw _ (List.mem_of_getElem? (i := 15) rfl))) (by decide) (t := (.array .int)) (t' := .int) (by decide) (by decide))))
  have J16 := (((PF_ob0_second.other W7 (Or.inl ne_ob0_ob1)).other W11 (Or.inl ne_ob0_ob2)).other W13 (Or.inr (slot_ne (Or.inl (hw _ (List.mem_of_getElem? (i := 13) rfl))) (Or.inl (hw _ (List.mem_of_getElem? (i := 15) rfl))) (by decide) (t := (.array .int)) (t' := .int) (by decide) (by decide))))
  obtain ⟨fs, hr, hrun, hended, hW, hsame⟩ := X13.leave (v := some (.int (3 : Int32))) (fun h => by rw [Bd.returns] at h; cases h)
  refine ⟨_, _, pre0 _ ?_, hrun, hended, _, _, rfl, ?_, ⟨_, rfl⟩, hW, hsame.mono (by decide) (by decide)⟩
  · show Steps p.tables e below (s₁.setTop (mkF m 0 #[.val (.ref ob0), .val (.int q0), .val (.int q1)] [])) _
    refine XS.aloadN X0.here hx rfl (hb hby d6_0) rfl rfl ?_
    show Steps p.tables e below (s₁.setTop (mkF m 1 #[.val (.ref ob0), .val (.int q0), .val (.int q1)] [(.ref ob0)])) _
    refine st1 _ ?_
    show Steps p.tables e below (T1.setTop (mkF m 4 #[.val (.ref ob0), .val (.int q0), .val (.int q1)] [(.int (3 : Int32))])) _
    refine XS.aloadN X1.here hx rfl (hb hby d6_4) rfl rfl ?_
    show Steps p.tables e below (T1.setTop (mkF m 5 #[.val (.ref ob0), .val (.int q0), .val (.int q1)] [(.ref ob0), (.int (3 : Int32))])) _
    refine st2 _ ?_
    show Steps p.tables e below (T2.setTop (mkF m 8 #[.val (.ref ob0), .val (.int q0), .val (.int q1)] [(.ref ob1), (.int (3 : Int32))])) _
    refine X2.arraylength hx (by rw [e2]; exact aA3.1) (State.isArrayOf_alike hZ.alike aA3.2.1) (g := (mkF m 8 #[.val (.ref ob0), .val (.int q0), .val (.int q1)] [(.ref ob1), (.int (3 : Int32))])) rfl rfl (hb hby d6_8) _ ?_
    rw [len_of aS3 aN3]
    show Steps p.tables e below (T2.setTop (mkF m 9 #[.val (.ref ob0), .val (.int q0), .val (.int q1)] [(.int (1024 : Int32)), (.int (3 : Int32))])) _
    refine XS.icmpYes X2.here hx rfl (pc0 := 9) (pc' := 46) rfl (hb hby d6_9) rfl (feq (by decide : ¬ ((3 : Int32) = (1024 : Int32)))).2 (by decide) (by decide) ?_
    show Steps p.tables e below (T2.setTop (mkF m 46 #[.val (.ref ob0), .val (.int q0), .val (.int q1)] [])) _
    refine XS.aloadN X2.here hx rfl (hb hby d6_46) rfl rfl ?_
    show Steps p.tables e below (T2.setTop (mkF m 47 #[.val (.ref ob0), .val (.int q0), .val (.int q1)] [(.ref ob0)])) _
    refine st4 _ ?_
    show Steps p.tables e below (T4.setTop (mkF m 50 #[.val (.ref ob0), .val (.int q0), .val (.int q1)] [(.ref ob1)])) _
    refine XS.aloadN X4.here hx rfl (hb hby d6_50) rfl rfl ?_
    show Steps p.tables e below (T4.setTop (mkF m 51 #[.val (.ref ob0), .val (.int q0), .val (.int q1)] [(.ref ob0), (.ref ob1)])) _
    refine st5 _ ?_
    show Steps p.tables e below (T5.setTop (mkF m 54 #[.val (.ref ob0), .val (.int q0), .val (.int q1)] [(.int (3 : Int32)), (.ref ob1)])) _
    refine XS.iloadN X5.here hx rfl (hb hby d6_54) rfl ?_
    show Steps p.tables e below (T5.setTop (mkF m 55 #[.val (.ref ob0), .val (.int q0), .val (.int q1)] [(.int q0), (.int (3 : Int32)), (.ref ob1)])) _
    refine st7 _ ?_
    show Steps p.tables e below (T7.setTop (mkF m 56 #[.val (.ref ob0), .val (.int q0), .val (.int q1)] [])) _
    refine XS.aloadN X7.here hx rfl (hb hby d6_56) rfl rfl ?_
    show Steps p.tables e below (T7.setTop (mkF m 57 #[.val (.ref ob0), .val (.int q0), .val (.int q1)] [(.ref ob0)])) _
    refine st8 _ ?_
    show Steps p.tables e below (T8.setTop (mkF m 60 #[.val (.ref ob0), .val (.int q0), .val (.int q1)] [(.ref ob2)])) _
    refine XS.aloadN X8.here hx rfl (hb hby d6_60) rfl rfl ?_
    show Steps p.tables e below (T8.setTop (mkF m 61 #[.val (.ref ob0), .val (.int q0), .val (.int q1)] [(.ref ob0), (.ref ob2)])) _
    refine st9 _ ?_
    show Steps p.tables e below (T9.setTop (mkF m 64 #[.val (.ref ob0), .val (.int q0), .val (.int q1)] [(.int (3 : Int32)), (.ref ob2)])) _
    refine XS.iloadN X9.here hx rfl (hb hby d6_64) rfl ?_
    show Steps p.tables e below (T9.setTop (mkF m 65 #[.val (.ref ob0), .val (.int q0), .val (.int q1)] [(.int q1), (.int (3 : Int32)), (.ref ob2)])) _
    refine st11 _ ?_
    show Steps p.tables e below (T11.setTop (mkF m 66 #[.val (.ref ob0), .val (.int q0), .val (.int q1)] [])) _
    refine XS.aloadN X11.here hx rfl (hb hby d6_66) rfl rfl ?_
    show Steps p.tables e below (T11.setTop (mkF m 67 #[.val (.ref ob0), .val (.int q0), .val (.int q1)] [(.ref ob0)])) _
    refine XS.dup X11.here hx rfl (hb hby d6_67) rfl rfl ?_
    show Steps p.tables e below (T11.setTop (mkF m 68 #[.val (.ref ob0), .val (.int q0), .val (.int q1)] [(.ref ob0), (.ref ob0)])) _
    refine st12 _ ?_
    show Steps p.tables e below (T12.setTop (mkF m 71 #[.val (.ref ob0), .val (.int q0), .val (.int q1)] [(.int (3 : Int32)), (.ref ob0)])) _
    refine XS.dupX1 X12.here hx rfl (hb hby d6_71) rfl rfl rfl ?_
    show Steps p.tables e below (T12.setTop (mkF m 72 #[.val (.ref ob0), .val (.int q0), .val (.int q1)] [(.int (3 : Int32)), (.ref ob0), (.int (3 : Int32))])) _
    refine XS.iconst X12.here hx rfl (hb hby d6_72) ?_
    show Steps p.tables e below (T12.setTop (mkF m 73 #[.val (.ref ob0), .val (.int q0), .val (.int q1)] [(.int (1 : Int32)), (.int (3 : Int32)), (.ref ob0), (.int (3 : Int32))])) _
    refine XS.iadd X12.here hx rfl (hb hby d6_73) rfl ?_
    rw [show ((3 : Int32) + (1 : Int32)) = (4 : Int32) from by decide]
    show Steps p.tables e below (T12.setTop (mkF m 74 #[.val (.ref ob0), .val (.int q0), .val (.int q1)] [(.int (4 : Int32)), (.ref ob0), (.int (3 : Int32))])) _
    refine st13 _ ?_
    show Steps p.tables e below (T13.setTop (mkF m 77 #[.val (.ref ob0), .val (.int q0), .val (.int q1)] [(.int (3 : Int32))])) _
    exact Jvm.RoadKit.retI X13 hx Bd.returns (hb hby d6_77) hr
  · have eH : (T13.setFrames fs).heap = h13 := e13; rw [eH]; exact ⟨rfl, N13, KK13, O13, ((V_ob1_7.other W11 ne_ob1_ob2).other W13 (Ne.symm ne_ob0_ob1)), (V_ob2_11.other W13 (Ne.symm ne_ob0_ob2)), J14, J15, J16, Fw13, trivial⟩
theorem pd70 : parseMethodDescriptor "(II)I" = some ⟨[.int, .int], some .int⟩ := by decide +kernel
theorem d19_4 : decode prog_12_method_15_code 4 = .ok (.invokevirtual 27, 3) := by decide +kernel
theorem own_sel {s : State} {args : Array Value} {y : MethodName} {n : Nat} (h1 : (Jvm.Cond.instanceMethod y).before args s = true) (h2 : (Jvm.Cond.privateMethod y).before args s = true) (h3 : (Jvm.Cond.instantiable y.cls n).before args s = true) (hy : y.cls ≠ "java/lang/invoke/MethodHandle" ∧ y.cls ≠ "java/lang/invoke/VarHandle") : (Jvm.Cond.selects y.cls y y).before args s = true := by
  obtain ⟨mk, meth, hn, hm, -, -⟩ := Cond.instanceMethod_spec h1
  obtain ⟨c, k, e1, e2, -, e4, -, -⟩ := Cond.instantiable_spec h3
  have hc : mk.cls = c := Option.some.inj ((findClass_of_methodNamed hn).symm.trans e1)
  have hf := State.methodFound?_of_named hn hy
  have hs : selectMethod {} s.vm c mk = .method mk := selectMethod_private hm (Cond.privateMethod_at h2 mk meth hn hm)
  have hi : k.isInterface = false := by revert e4; cases k.isInterface <;> simp
  subst hc
  simp [Cond.before, Cond.holds, Cond.value, e1, hf, hn, hs, e2, hi]
theorem d19_7 : decode prog_12_method_15_code 7 = .ok (.imul, 1) := by decide +kernel
theorem d20_0 : decode jdk_33_method_22_code 0 = .ok (.iload_n 0, 1) := by decide +kernel
theorem d20_1 : decode jdk_33_method_22_code 1 = .ok (.bipush (-128), 2) := by decide +kernel
theorem d20_3 : decode jdk_33_method_22_code 3 = .ok (.if_icmp .lt 20, 3) := by decide +kernel
theorem d20_6 : decode jdk_33_method_22_code 6 = .ok (.iload_n 0, 1) := by decide +kernel
theorem d20_7 : decode jdk_33_method_22_code 7 = .ok (.getstatic 191, 3) := by decide +kernel
theorem d20_10 : decode jdk_33_method_22_code 10 = .ok (.if_icmp .gt 13, 3) := by decide +kernel
theorem d20_13 : decode jdk_33_method_22_code 13 = .ok (.getstatic 195, 3) := by decide +kernel
theorem d20_16 : decode jdk_33_method_22_code 16 = .ok (.iload_n 0, 1) := by decide +kernel
theorem d20_17 : decode jdk_33_method_22_code 17 = .ok (.sipush 128, 3) := by decide +kernel
theorem d20_20 : decode jdk_33_method_22_code 20 = .ok (.iadd, 1) := by decide +kernel
theorem d20_21 : decode jdk_33_method_22_code 21 = .ok (.aaload, 1) := by decide +kernel
theorem d20_22 : decode jdk_33_method_22_code 22 = .ok (.areturn, 1) := by decide +kernel
theorem ef87 (m : MethodId) (x0 : Int32) : entryFrame m #[(.int x0)] 1 = mkF m 0 #[.val (.int x0)] [] := by first | (simp [entryFrame, mkF, argsToLocals, Value.category]; done) | rfl
theorem pn88 : plainName "java/lang/Integer" = true := by first | (simp [plainName, overriddenIn]; done) | decide +kernel
def Q20_4 (Z : State) (w_cache : Addr) (cl_w_cache : Cell) (h0 : Heap) (n0 : Nat) (v : Option Value) (h : Heap) (L : List Loc) : Prop := ∃ o3 : Addr, v = some (.ref o3) ∧ Fr n0 L ∧ h = h0 ∧ Exa Z Z.heap o3 "java/lang/Integer" ∧ Fld Z Z.heap o3 "java/lang/Integer" "value" "I" (.int (6 : Int32))
set_option maxRecDepth 65536 in
set_option maxHeartbeats 40000000 in
theorem rm20_4 (l : Launch) (Z : State) (a0 : Array Value) (hw : ∀ d ∈ tables_1, d.before a0 Z = true) (ws : List Jvm.Cond) (w_cache : Addr) (cl_w_cache : Cell) (h0 : Heap) (n0 : Nat) (Z0 : n0 ≤ h0.size) (O0 : Old Z n0 h0) (HW : World Z w_cache cl_w_cache) :
    MetFree l (⟨"java/lang/Integer", "valueOf", "(I)Ljava/lang/Integer;"⟩ : MethodName) (head1 (Jvm.Cond.code (⟨"java/lang/Integer", "valueOf", "(I)Ljava/lang/Integer;"⟩ : MethodName) jdk_33_method_22_code 1 (some (.object "java/lang/Integer")) :: ws) ({ frames := 0, cells := 0, slots := 0, locals := 0 } : Room)) (fun a U => a = #[(.int (6 : Int32))] ∧ Z.Warmed39 U.vm ∧ U.heap = h0) (fun _ _ _ _ _ => True) (fun _ U o U' => ∃ v L, o = .returned v ∧ Q20_4 Z w_cache cl_w_cache h0 n0 v U'.heap L ∧ FrameEnd U o U' L ({ frames := 0, cells := 0, slots := 0, locals := 0 } : Room).cells ({ frames := 0, cells := 0, slots := 0, locals := 0 } : Room).slots) := by
  refine MetFree.of_bodySF (plainFor_of_name pn88) hisR ?_
  intro p e s m args below meth c s₁ Bd hml0 hP hK
  obtain ⟨rfl, hZ, hh⟩ := hP
  have hx := Bd.exec
  have hby := Bd.bytes
  have hml : c.maxLocals = 1 := hml0
  have hown : s.vm.findClass "java/lang/Integer" = some m.cls := findClass_of_methodNamed Bd.named
  have hnm := (name_of_methodNamed Bd.named Bd.method).1
  have X0 : Stand p l e ({ frames := 0, cells := 0, slots := 0, locals := 0 } : Room) s m #[(.int (6 : Int32))] below meth c s₁ [] 0 0 := Stand.of_body Bd
  have e0 : s₁.heap = h0 := by rw [← hh, Bd.state]; rfl
  have N0 := Fr.nil n0
  have pre0 : ∀ t, Steps p.tables e below (s₁.setTop (mkF m 0 #[.val (.int (6 : Int32))] [])) t → Steps p.tables e below (s₁.setTop (entryFrame m #[(.int (6 : Int32))] 1)) t := fun t k => castTop (ef87 m (6 : Int32)) k
  obtain ⟨S_high, S_w_cache, Ar_w_cache, Sz_w_cache, AL_w_cache, -⟩ := id HW
  obtain ⟨T1, X1, e1, st1⟩ := getS2 X0 hx hZ hown (host := "") (Or.inl (hw _ (List.mem_of_getElem? (i := 129) rfl))) Via.refl e0 (S_high.ext O0.2) (g := (mkF m 7 #[.val (.int (6 : Int32))] [(.int (6 : Int32))])) rfl (hb hby d20_7)
  obtain ⟨T2, X2, e2, st2⟩ := getS2 X1 hx hZ hown (host := "") (Or.inl (hw _ (List.mem_of_getElem? (i := 131) rfl))) Via.refl e1 (S_w_cache.ext O0.2) (g := (mkF m 13 #[.val (.int (6 : Int32))] [])) rfl (hb hby d20_13)
  obtain ⟨o3, oI3, oA3, oE3, oF3_0⟩ := AL_w_cache (134 : Int32) ⟨by decide, by decide⟩
  rw [(show ((134 : Int32) - 128) = (6 : Int32) from by decide)] at oF3_0
  obtain ⟨fs, hr, hrun, hended, hW, hsame⟩ := X2.leave (v := some (.ref o3)) (fun h => by rw [Bd.returns] at h; cases h)
  refine ⟨_, _, pre0 _ ?_, hrun, hended, _, _, rfl, ?_, ⟨_, rfl⟩, hW, hsame.mono (by decide) (by decide)⟩
  · show Steps p.tables e below (s₁.setTop (mkF m 0 #[.val (.int (6 : Int32))] [])) _
    refine XS.iloadN X0.here hx rfl (hb hby d20_0) rfl ?_
    show Steps p.tables e below (s₁.setTop (mkF m 1 #[.val (.int (6 : Int32))] [(.int (6 : Int32))])) _
    refine XS.bipush X0.here hx rfl (hb hby d20_1) ?_
    show Steps p.tables e below (s₁.setTop (mkF m 3 #[.val (.int (6 : Int32))] [(.int (-128 : Int32)), (.int (6 : Int32))])) _
    refine XS.icmpNo X0.here hx rfl (hb hby d20_3) rfl (flt (by decide : ¬ ((6 : Int32) < (-128 : Int32)))).1 ?_
    show Steps p.tables e below (s₁.setTop (mkF m 6 #[.val (.int (6 : Int32))] [])) _
    refine XS.iloadN X0.here hx rfl (hb hby d20_6) rfl ?_
    show Steps p.tables e below (s₁.setTop (mkF m 7 #[.val (.int (6 : Int32))] [(.int (6 : Int32))])) _
    refine st1 _ ?_
    show Steps p.tables e below (T1.setTop (mkF m 10 #[.val (.int (6 : Int32))] [(.int (127 : Int32)), (.int (6 : Int32))])) _
    refine XS.icmpNo X1.here hx rfl (hb hby d20_10) rfl (flt (by decide : ¬ ((127 : Int32) < (6 : Int32)))).2.2.1 ?_
    show Steps p.tables e below (T1.setTop (mkF m 13 #[.val (.int (6 : Int32))] [])) _
    refine st2 _ ?_
    show Steps p.tables e below (T2.setTop (mkF m 16 #[.val (.int (6 : Int32))] [(.ref w_cache)])) _
    refine XS.iloadN X2.here hx rfl (hb hby d20_16) rfl ?_
    show Steps p.tables e below (T2.setTop (mkF m 17 #[.val (.int (6 : Int32))] [(.int (6 : Int32)), (.ref w_cache)])) _
    refine XS.sipush X2.here hx rfl (hb hby d20_17) ?_
    show Steps p.tables e below (T2.setTop (mkF m 20 #[.val (.int (6 : Int32))] [(.int (128 : Int32)), (.int (6 : Int32)), (.ref w_cache)])) _
    refine XS.iadd X2.here hx rfl (hb hby d20_20) rfl ?_
    rw [show ((6 : Int32) + (128 : Int32)) = (134 : Int32) from by decide]
    show Steps p.tables e below (T2.setTop (mkF m 21 #[.val (.int (6 : Int32))] [(.int (134 : Int32)), (.ref w_cache)])) _
    refine X2.aaload hx (j := (134 : Int32)) (v := (.ref o3)) (by rw [e2]; exact (Ar_w_cache.ext O0.2).1) (State.isArrayOf_alike hZ.alike Ar_w_cache.2.1) rfl Ar_w_cache.2.2 oI3 oA3 (g := (mkF m 21 #[.val (.int (6 : Int32))] [(.int (134 : Int32)), (.ref w_cache)])) rfl rfl (hb hby d20_21) _ ?_
    show Steps p.tables e below (T2.setTop (mkF m 22 #[.val (.int (6 : Int32))] [(.ref o3)])) _
    jvm_step X2.here [X2.here.top, hx, (hb hby d20_22), X2.method', Bd.returns, Value.isRef, FieldType.isReference]
    first | (intro acts; rw [hr _ acts rfl rfl rfl]) | rw [hr _ _ rfl rfl rfl]
    exact Steps.refl _
  · exact ⟨o3, rfl, N0, e2, oE3, oF3_0⟩
theorem pd89 : parseMethodDescriptor "(I)Ljava/lang/Integer;" = some ⟨[.int], some (.object "java/lang/Integer")⟩ := by decide +kernel
theorem d19_8 : decode prog_12_method_15_code 8 = .ok (.invokestatic 93, 3) := by decide +kernel
theorem d19_11 : decode prog_12_method_15_code 11 = .ok (.areturn, 1) := by decide +kernel
theorem ef93 (m : MethodId) (x0 : Addr) (x1 : Int32) (x2 : Int32) (x3 : Addr) : entryFrame m #[(.ref x0), (.int x1), (.int x2), (.ref x3)] 4 = mkF m 0 #[.val (.ref x0), .val (.int x1), .val (.int x2), .val (.ref x3)] [] := by first | (simp [entryFrame, mkF, argsToLocals, Value.category]; done) | rfl
def Q19_5 (Z : State) (w_cache : Addr) (cl_w_cache : Cell) (ob0 : Addr) (q0 : Int32) (q1 : Int32) (ob1 : Addr) (F : Addr) (S : Addr) (k_F : ClassId) (f0 : Int32) (f1 : Int32) (f2 : Int32) (f3 : Int32) (f4 : Int32) (f5 : Int32) (k_S : ClassId) (s0 : Int32) (s1 : Int32) (s2 : Int32) (s3 : Int32) (s4 : Int32) (s5 : Int32) (h0 : Heap) (n0 : Nat) (v : Option Value) (h : Heap) (L : List Loc) : Prop := ∃ o2_0 : Addr, v = some (.ref o2_0) ∧ Fr n0 L ∧ Keep h0 h [F, S, ob0] ∧ Old Z n0 h ∧ Arv Z h F k_F .int (1024 : Int32) [(.int f0), (.int f1), (.int f2), (.int q0), (.int f4), (.int f5)] (.int (0 : Int32)) ∧ Arv Z h S k_S .int (1024 : Int32) [(.int s0), (.int s1), (.int s2), (.int q1), (.int s4), (.int s5)] (.int (0 : Int32)) ∧ Exa Z h ob0 "com/example/minos/minos/analysis/Circuit" ∧ Fld Z h ob0 "com/example/minos/minos/analysis/Circuit" "first" "[I" (.ref F) ∧ Fld Z h ob0 "com/example/minos/minos/analysis/Circuit" "second" "[I" (.ref S) ∧ Fld Z h ob0 "com/example/minos/minos/analysis/Circuit" "nodes" "I" (.int (4 : Int32)) ∧ Exa Z Z.heap o2_0 "java/lang/Integer" ∧ Fld Z Z.heap o2_0 "java/lang/Integer" "value" "I" (.int (6 : Int32)) ∧ True
set_option maxRecDepth 65536 in
set_option maxHeartbeats 40000000 in
theorem rm19_5 (l : Launch) (Z : State) (a0 : Array Value) (hw : ∀ d ∈ tables_1, d.before a0 Z = true) (ws : List Jvm.Cond) (w_cache : Addr) (cl_w_cache : Cell) (ob0 : Addr) (q0 : Int32) (q1 : Int32) (ob1 : Addr) (F : Addr) (S : Addr) (k_F : ClassId) (f0 : Int32) (f1 : Int32) (f2 : Int32) (f3 : Int32) (f4 : Int32) (f5 : Int32) (k_S : ClassId) (s0 : Int32) (s1 : Int32) (s2 : Int32) (s3 : Int32) (s4 : Int32) (s5 : Int32) (h0 : Heap) (n0 : Nat) (Z0 : n0 ≤ h0.size) (O0 : Old Z n0 h0) (HW : World Z w_cache cl_w_cache) (PE_ob0 : Exa Z h0 ob0 "com/example/minos/minos/analysis/Circuit") (PF_ob0_first : Fld Z h0 ob0 "com/example/minos/minos/analysis/Circuit" "first" "[I" (.ref F)) (PF_ob0_second : Fld Z h0 ob0 "com/example/minos/minos/analysis/Circuit" "second" "[I" (.ref S)) (PF_ob0_nodes : Fld Z h0 ob0 "com/example/minos/minos/analysis/Circuit" "nodes" "I" (.int (3 : Int32))) (PV_F : Arv Z h0 F k_F .int (1024 : Int32) [(.int f0), (.int f1), (.int f2), (.int f3), (.int f4), (.int f5)] (.int (0 : Int32))) (PV_S : Arv Z h0 S k_S .int (1024 : Int32) [(.int s0), (.int s1), (.int s2), (.int s3), (.int s4), (.int s5)] (.int (0 : Int32))) (ne_F_ob0 : F ≠ ob0) (ne_F_S : F ≠ S) (ne_S_ob0 : S ≠ ob0) (g_F : n0 ≤ F) (g_S : n0 ≤ S) (g_ob0 : n0 ≤ ob0) :
    MetFree l (⟨"com/example/minos/minos/analysis/Circuit", "lambda$and$0", "(IILjava/lang/Long;)Ljava/lang/Integer;"⟩ : MethodName) (head1 (Jvm.Cond.code (⟨"com/example/minos/minos/analysis/Circuit", "lambda$and$0", "(IILjava/lang/Long;)Ljava/lang/Integer;"⟩ : MethodName) prog_12_method_15_code 4 (some (.object "java/lang/Integer")) :: ws) ({ frames := 1, cells := 0, slots := 0, locals := 15 } : Room)) (fun a U => a = #[(.ref ob0), (.int q0), (.int q1), (.ref ob1)] ∧ Z.Warmed39 U.vm ∧ U.heap = h0) (fun _ _ _ _ _ => True) (fun _ U o U' => ∃ v L, o = .returned v ∧ Q19_5 Z w_cache cl_w_cache ob0 q0 q1 ob1 F S k_F f0 f1 f2 f3 f4 f5 k_S s0 s1 s2 s3 s4 s5 h0 n0 v U'.heap L ∧ FrameEnd U o U' L ({ frames := 1, cells := 0, slots := 0, locals := 15 } : Room).cells ({ frames := 1, cells := 0, slots := 0, locals := 15 } : Room).slots) := by
  refine MetFree.of_bodySF (plainFor_of_name pn37) hisR ?_
  intro p e s m args below meth c s₁ Bd hml0 hP hK
  obtain ⟨rfl, hZ, hh⟩ := hP
  have hx := Bd.exec
  have hby := Bd.bytes
  have hml : c.maxLocals = 4 := hml0
  have hown : s.vm.findClass "com/example/minos/minos/analysis/Circuit" = some m.cls := findClass_of_methodNamed Bd.named
  have hnm := (name_of_methodNamed Bd.named Bd.method).1
  have X0 : Stand p l e ({ frames := 1, cells := 0, slots := 0, locals := 15 } : Room) s m #[(.ref ob0), (.int q0), (.int q1), (.ref ob1)] below meth c s₁ [] 0 0 := Stand.of_body Bd
  have e0 : s₁.heap = h0 := by rw [← hh, Bd.state]; rfl
  have N0 := Fr.nil n0
  have pre0 : ∀ t, Steps p.tables e below (s₁.setTop (mkF m 0 #[.val (.ref ob0), .val (.int q0), .val (.int q1), .val (.ref ob1)] [])) t → Steps p.tables e below (s₁.setTop (entryFrame m #[(.ref ob0), (.int q0), (.int q1), (.ref ob1)] 4)) t := fun t k => castTop (ef93 m ob0 q0 q1 ob1) k
  obtain ⟨S_high, S_w_cache, Ar_w_cache, Sz_w_cache, AL_w_cache, -⟩ := id HW
  obtain ⟨cq1, q1a, q1b⟩ := Exa.cell PE_ob0
  obtain ⟨_, _, ⟨T1, L1, k1, n1⟩, -, X1, ⟨Lc1, hQ1, l1, y1, z1⟩, st1⟩ := X0.privateBack hx (y := (⟨"com/example/minos/minos/analysis/Circuit", "add", "(II)I"⟩ : MethodName)) hown (mvT hZ (hw _ (List.mem_of_getElem? (i := 39) rfl))) (mvT hZ (hw _ (List.mem_of_getElem? (i := 40) rfl))) (own_sel (mvT hZ (hw _ (List.mem_of_getElem? (i := 40) rfl))) (mvP hZ (hw _ (List.mem_of_getElem? (i := 41) rfl))) (mvT hZ (hw _ (List.mem_of_getElem? (i := 1) rfl))) (by decide)) (Cond.privateMethod_at (mvP hZ (hw _ (List.mem_of_getElem? (i := 41) rfl)) (args := #[]))) (mvT hZ (hw _ (List.mem_of_getElem? (i := 42) rfl))) (by decide) (backOf (W := 1) (rm6_3 l Z a0 hw [] w_cache cl_w_cache ob0 q0 q1 F S k_F f0 f1 f2 f3 f4 f5 k_S s0 s1 s2 s3 s4 s5 h0 n0 (own_n0 O0) O0 HW PE_ob0 PF_ob0_first PF_ob0_second PF_ob0_nodes PV_F PV_S (Ne.symm ne_F_ob0) ne_F_S (Ne.symm ne_S_ob0) g_F g_S g_ob0) hZ (hw _ (List.mem_of_getElem? (i := 42) rfl)) (hw _ (List.mem_of_getElem? (i := 2) rfl)) (by decide) (by decide)) (g := (mkF m 4 #[.val (.ref ob0), .val (.int q0), .val (.int q1), .val (.ref ob1)] [(.int q1), (.int q0), (.ref ob0), (.int (2 : Int32))])) rfl (by rw [hml]; rfl) (Steps.refl _) (a := ob0) (by rw [e0]; exact q1a) q1b (argsL := [(.int q0), (.int q1)]) (rest := [(.int (2 : Int32))]) (lenOf pd70 rfl) rfl (by show 2 * 0 + _ ≤ _; exact Nat.le_of_eq rfl) (hb hby d19_4) (fun _ _ => ⟨rfl, e0, (by decide : 0 + 0 ≤ _), (by decide : 0 + 0 ≤ _)⟩)
  dsimp only [Pt.U, Pt.locs, Pt.cells, Pt.slots] at X1 l1 y1 z1 st1 hQ1
  subst l1 y1 z1
  obtain ⟨rfl, N1q, K1, O1, pf1_0, pf1_1, pf1_2, pf1_3, pf1_4, pf1_5, -⟩ := hQ1
  have KK1 : Keep h0 T1.heap [F, S, ob0] := (Keep.refl h0 [F, S, ob0]).trans K1 (allS (Or.inl (List.mem_of_getElem? (i := 0) rfl)) (allS (Or.inl (List.mem_of_getElem? (i := 1) rfl)) (allS (Or.inl (List.mem_of_getElem? (i := 2) rfl)) all0)))
  have N1 := Fr.app N0 N1q
  obtain ⟨_, _, ⟨T2, L2, k2, n2⟩, -, X2, ⟨Lc2, hQ2, l2, y2, z2⟩, st2⟩ := Jvm.LawKit.callS X1 hx (y := (⟨"java/lang/Integer", "valueOf", "(I)Ljava/lang/Integer;"⟩ : MethodName)) hown (mvT hZ (hw _ (List.mem_of_getElem? (i := 125) rfl))) (mvT hZ (hw _ (List.mem_of_getElem? (i := 126) rfl))) (mvT hZ (hw _ (List.mem_of_getElem? (i := 127) rfl))) (mvT hZ (hw _ (List.mem_of_getElem? (i := 128) rfl))) (by decide) (backOf (W := 0) (rm20_4 l Z a0 hw [] w_cache cl_w_cache T1.heap n0 (own_n0 O1) O1 HW) hZ (hw _ (List.mem_of_getElem? (i := 128) rfl)) (hw _ (List.mem_of_getElem? (i := 127) rfl)) (by decide) (by decide)) (g := (mkF m 8 #[.val (.ref ob0), .val (.int q0), .val (.int q1), .val (.ref ob1)] [(.int (6 : Int32))])) rfl (by rw [hml]; rfl) (argsL := [(.int (6 : Int32))]) (rest := []) (lenOf pd89 rfl) rfl (by show 2 * 0 + _ ≤ _; exact Nat.le_of_eq rfl) (hb hby d19_8) (fun _ _ => ⟨rfl, rfl, (by decide : 0 + 0 ≤ _), (by decide : 0 + 0 ≤ _)⟩)
  dsimp only [Pt.U, Pt.locs, Pt.cells, Pt.slots] at X2 l2 y2 z2 st2 hQ2
  subst l2 y2 z2
  obtain ⟨o2_0, rfl, N2q, e2, of2_0, of2_1⟩ := hQ2
  have N2 := Fr.app N1 N2q
  obtain ⟨fs, hr, hrun, hended, hW, hsame⟩ := X2.leave (v := some (.ref o2_0)) (fun h => by rw [Bd.returns] at h; cases h)
  refine ⟨_, _, pre0 _ ?_, hrun, hended, _, _, rfl, ?_, ⟨_, rfl⟩, hW, hsame.mono (by decide) (by decide)⟩
  · show Steps p.tables e below (s₁.setTop (mkF m 0 #[.val (.ref ob0), .val (.int q0), .val (.int q1), .val (.ref ob1)] [])) _
    refine XS.iconst X0.here hx rfl (hb hby d19_0) ?_
    show Steps p.tables e below (s₁.setTop (mkF m 1 #[.val (.ref ob0), .val (.int q0), .val (.int q1), .val (.ref ob1)] [(.int (2 : Int32))])) _
    refine XS.aloadN X0.here hx rfl (hb hby d19_1) rfl rfl ?_
    show Steps p.tables e below (s₁.setTop (mkF m 2 #[.val (.ref ob0), .val (.int q0), .val (.int q1), .val (.ref ob1)] [(.ref ob0), (.int (2 : Int32))])) _
    refine XS.iloadN X0.here hx rfl (hb hby d19_2) rfl ?_
    show Steps p.tables e below (s₁.setTop (mkF m 3 #[.val (.ref ob0), .val (.int q0), .val (.int q1), .val (.ref ob1)] [(.int q0), (.ref ob0), (.int (2 : Int32))])) _
    refine XS.iloadN X0.here hx rfl (hb hby d19_3) rfl ?_
    show Steps p.tables e below (s₁.setTop (mkF m 4 #[.val (.ref ob0), .val (.int q0), .val (.int q1), .val (.ref ob1)] [(.int q1), (.int q0), (.ref ob0), (.int (2 : Int32))])) _
    refine st1.trans ?_
    show Steps p.tables e below (T1.setTop (mkF m 7 #[.val (.ref ob0), .val (.int q0), .val (.int q1), .val (.ref ob1)] [(.int (3 : Int32)), (.int (2 : Int32))])) _
    refine XS.imul X1.here hx rfl (hb hby d19_7) rfl ?_
    rw [show ((2 : Int32) * (3 : Int32)) = (6 : Int32) from by decide]
    show Steps p.tables e below (T1.setTop (mkF m 8 #[.val (.ref ob0), .val (.int q0), .val (.int q1), .val (.ref ob1)] [(.int (6 : Int32))])) _
    refine st2 _ ?_
    show Steps p.tables e below (T2.setTop (mkF m 11 #[.val (.ref ob0), .val (.int q0), .val (.int q1), .val (.ref ob1)] [(.ref o2_0)])) _
    jvm_step X2.here [X2.here.top, hx, (hb hby d19_11), X2.method', Bd.returns, Value.isRef, FieldType.isReference]
    first | (intro acts; rw [hr _ acts rfl rfl rfl]) | rw [hr _ _ rfl rfl rfl]
    exact Steps.refl _
  · have eH : (T2.setFrames fs).heap = T1.heap := e2; rw [eH]; exact ⟨o2_0, rfl, N2, KK1, O1, pf1_0, pf1_1, pf1_2, pf1_3, pf1_4, pf1_5, of2_0, of2_1, trivial⟩
def Q6_6 (Z : State) (w_cache : Addr) (cl_w_cache : Cell) (ob0 : Addr) (q0 : Int32) (q1 : Int32) (ob1 : Addr) (ob2 : Addr) (k_ob1 : ClassId) (q2 : Int32) (q3 : Int32) (q4 : Int32) (q5 : Int32) (q6 : Int32) (q7 : Int32) (k_ob2 : ClassId) (q8 : Int32) (q9 : Int32) (q10 : Int32) (q11 : Int32) (q12 : Int32) (q13 : Int32) (h0 : Heap) (n0 : Nat) (v : Option Value) (h : Heap) (L : List Loc) : Prop := v = some (.int (4 : Int32)) ∧ Fr n0 L ∧ Keep h0 h [ob1, ob2, ob0] ∧ Old Z n0 h ∧ Arv Z h ob1 k_ob1 .int (1024 : Int32) [(.int q2), (.int q3), (.int q4), (.int q5), (.int q0), (.int q7)] (.int (0 : Int32)) ∧ Arv Z h ob2 k_ob2 .int (1024 : Int32) [(.int q8), (.int q9), (.int q10), (.int q11), (.int q1), (.int q13)] (.int (0 : Int32)) ∧ Exa Z h ob0 "com/example/minos/minos/analysis/Circuit" ∧ Fld Z h ob0 "com/example/minos/minos/analysis/Circuit" "first" "[I" (.ref ob1) ∧ Fld Z h ob0 "com/example/minos/minos/analysis/Circuit" "second" "[I" (.ref ob2) ∧ Fld Z h ob0 "com/example/minos/minos/analysis/Circuit" "nodes" "I" (.int (5 : Int32)) ∧ True
set_option maxRecDepth 65536 in
set_option maxHeartbeats 40000000 in
theorem rm6_6 (l : Launch) (Z : State) (a0 : Array Value) (hw : ∀ d ∈ tables_1, d.before a0 Z = true) (ws : List Jvm.Cond) (w_cache : Addr) (cl_w_cache : Cell) (ob0 : Addr) (q0 : Int32) (q1 : Int32) (ob1 : Addr) (ob2 : Addr) (k_ob1 : ClassId) (q2 : Int32) (q3 : Int32) (q4 : Int32) (q5 : Int32) (q6 : Int32) (q7 : Int32) (k_ob2 : ClassId) (q8 : Int32) (q9 : Int32) (q10 : Int32) (q11 : Int32) (q12 : Int32) (q13 : Int32) (h0 : Heap) (n0 : Nat) (Z0 : n0 ≤ h0.size) (O0 : Old Z n0 h0) (HW : World Z w_cache cl_w_cache) (PE_ob0 : Exa Z h0 ob0 "com/example/minos/minos/analysis/Circuit") (PF_ob0_first : Fld Z h0 ob0 "com/example/minos/minos/analysis/Circuit" "first" "[I" (.ref ob1)) (PF_ob0_second : Fld Z h0 ob0 "com/example/minos/minos/analysis/Circuit" "second" "[I" (.ref ob2)) (PF_ob0_nodes : Fld Z h0 ob0 "com/example/minos/minos/analysis/Circuit" "nodes" "I" (.int (4 : Int32))) (PV_ob1 : Arv Z h0 ob1 k_ob1 .int (1024 : Int32) [(.int q2), (.int q3), (.int q4), (.int q5), (.int q6), (.int q7)] (.int (0 : Int32))) (PV_ob2 : Arv Z h0 ob2 k_ob2 .int (1024 : Int32) [(.int q8), (.int q9), (.int q10), (.int q11), (.int q12), (.int q13)] (.int (0 : Int32))) (ne_ob0_ob1 : ob0 ≠ ob1) (ne_ob1_ob2 : ob1 ≠ ob2) (ne_ob0_ob2 : ob0 ≠ ob2) (g_ob1 : n0 ≤ ob1) (g_ob2 : n0 ≤ ob2) (g_ob0 : n0 ≤ ob0) :
    MetFree l (⟨"com/example/minos/minos/analysis/Circuit", "add", "(II)I"⟩ : MethodName) (head1 (Jvm.Cond.code (⟨"com/example/minos/minos/analysis/Circuit", "add", "(II)I"⟩ : MethodName) prog_12_method_14_code 3 (some .int) :: ws) ({ frames := 0, cells := 0, slots := 0, locals := 0 } : Room)) (fun a U => a = #[(.ref ob0), (.int q0), (.int q1)] ∧ Z.Warmed39 U.vm ∧ U.heap = h0) (fun _ _ _ _ _ => True) (fun _ U o U' => ∃ v L, o = .returned v ∧ Q6_6 Z w_cache cl_w_cache ob0 q0 q1 ob1 ob2 k_ob1 q2 q3 q4 q5 q6 q7 k_ob2 q8 q9 q10 q11 q12 q13 h0 n0 v U'.heap L ∧ FrameEnd U o U' L ({ frames := 0, cells := 0, slots := 0, locals := 0 } : Room).cells ({ frames := 0, cells := 0, slots := 0, locals := 0 } : Room).slots) := by
  refine MetFree.of_bodySF (plainFor_of_name pn37) hisR ?_
  intro p e s m args below meth c s₁ Bd hml0 hP hK
  obtain ⟨rfl, hZ, hh⟩ := hP
  have hx := Bd.exec
  have hby := Bd.bytes
  have hml : c.maxLocals = 3 := hml0
  have hown : s.vm.findClass "com/example/minos/minos/analysis/Circuit" = some m.cls := findClass_of_methodNamed Bd.named
  have hnm := (name_of_methodNamed Bd.named Bd.method).1
  have X0 : Stand p l e ({ frames := 0, cells := 0, slots := 0, locals := 0 } : Room) s m #[(.ref ob0), (.int q0), (.int q1)] below meth c s₁ [] 0 0 := Stand.of_body Bd
  have e0 : s₁.heap = h0 := by rw [← hh, Bd.state]; rfl
  have N0 := Fr.nil n0
  have pre0 : ∀ t, Steps p.tables e below (s₁.setTop (mkF m 0 #[.val (.ref ob0), .val (.int q0), .val (.int q1)] [])) t → Steps p.tables e below (s₁.setTop (entryFrame m #[(.ref ob0), (.int q0), (.int q1)] 3)) t := fun t k => castTop (ef69 m ob0 q0 q1) k
  obtain ⟨S_high, S_w_cache, Ar_w_cache, Sz_w_cache, AL_w_cache, -⟩ := id HW
  obtain ⟨T1, X1, e1, st1⟩ := getF X0 hx hZ hown (host := "") (Or.inl (hw _ (List.mem_of_getElem? (i := 14) rfl))) Via.refl e0 PF_ob0_nodes (g := (mkF m 1 #[.val (.ref ob0), .val (.int q0), .val (.int q1)] [(.ref ob0)])) rfl rfl (hb hby d6_1)
  obtain ⟨T2, X2, e2, st2⟩ := getF X1 hx hZ hown (host := "") (Or.inl (hw _ (List.mem_of_getElem? (i := 10) rfl))) Via.refl e1 PF_ob0_first (g := (mkF m 5 #[.val (.ref ob0), .val (.int q0), .val (.int q1)] [(.ref ob0), (.int (4 : Int32))])) rfl rfl (hb hby d6_5)
  obtain ⟨ac3, aA3, aq3, aS3, aN3, aH3, aG3⟩ := id PV_ob1
  obtain ⟨T4, X4, e4, st4⟩ := getF X2 hx hZ hown (host := "") (Or.inl (hw _ (List.mem_of_getElem? (i := 10) rfl))) Via.refl e2 PF_ob0_first (g := (mkF m 47 #[.val (.ref ob0), .val (.int q0), .val (.int q1)] [(.ref ob0)])) rfl rfl (hb hby d6_47)
  obtain ⟨T5, X5, e5, st5⟩ := getF X4 hx hZ hown (host := "") (Or.inl (hw _ (List.mem_of_getElem? (i := 14) rfl))) Via.refl e4 PF_ob0_nodes (g := (mkF m 51 #[.val (.ref ob0), .val (.int q0), .val (.int q1)] [(.ref ob0), (.ref ob1)])) rfl rfl (hb hby d6_51)
  obtain ⟨ac6, aA6, aq6, aS6, aN6, aH6, aG6⟩ := id PV_ob1
  obtain ⟨T7, h7, X7, e7, W7, st7⟩ := stI X5 hx hZ e5 aA6 (j := (4 : Int32)) (inb_of aS6 ⟨by decide, by decide⟩) (g := (mkF m 55 #[.val (.ref ob0), .val (.int q0), .val (.int q1)] [(.int q0), (.int (4 : Int32)), (.ref ob1)])) rfl rfl (hb hby d6_55)
  have V_ob1_7 : Arv Z h7 ob1 k_ob1 .int (1024 : Int32) [(.int q2), (.int q3), (.int q4), (.int q5), (.int q0), (.int q7)] (.int (0 : Int32)) := Arv.set aA6 aq6 aS6 aN6 aH6 aG6 rfl W7 4 rfl (Nat.le_of_ble_eq_true rfl)
  have N7 := Fr.snoc X7 N0 g_ob1
  have O7 := O0.wr W7 g_ob1
  have KK7 : Keep h0 h7 [ob1, ob2, ob0] := (Keep.refl h0 [ob1, ob2, ob0]).wr W7 (Or.inl (List.mem_of_getElem? (i := 0) rfl))
  obtain ⟨T8, X8, e8, st8⟩ := getF X7 hx hZ hown (host := "") (Or.inl (hw _ (List.mem_of_getElem? (i := 12) rfl))) Via.refl e7 (PF_ob0_second.other W7 (Or.inl ne_ob0_ob1)) (g := (mkF m 57 #[.val (.ref ob0), .val (.int q0), .val (.int q1)] [(.ref ob0)])) rfl rfl (hb hby d6_57)
  obtain ⟨T9, X9, e9, st9⟩ := getF X8 hx hZ hown (host := "") (Or.inl (hw _ (List.mem_of_getElem? (i := 14) rfl))) Via.refl e8 (PF_ob0_nodes.other W7 (Or.inl ne_ob0_ob1)) (g := (mkF m 61 #[.val (.ref ob0), .val (.int q0), .val (.int q1)] [(.ref ob0), (.ref ob2)])) rfl rfl (hb hby d6_61)
  obtain ⟨ac10, aA10, aq10, aS10, aN10, aH10, aG10⟩ := id (PV_ob2.other W7 (Ne.symm ne_ob1_ob2))
  obtain ⟨T11, h11, X11, e11, W11, st11⟩ := stI X9 hx hZ e9 aA10 (j := (4 : Int32)) (inb_of aS10 ⟨by decide, by decide⟩) (g := (mkF m 65 #[.val (.ref ob0), .val (.int q0), .val (.int q1)] [(.int q1), (.int (4 : Int32)), (.ref ob2)])) rfl rfl (hb hby d6_65)
  have V_ob2_11 : Arv Z h11 ob2 k_ob2 .int (1024 : Int32) [(.int q8), (.int q9), (.int q10), (.int q11), (.int q1), (.int q13)] (.int (0 : Int32)) := Arv.set aA10 aq10 aS10 aN10 aH10 aG10 rfl W11 4 rfl (Nat.le_of_ble_eq_true rfl)
  have N11 := Fr.snoc X11 N7 g_ob2
  have O11 := O7.wr W11 g_ob2
  have KK11 : Keep h0 h11 [ob1, ob2, ob0] := KK7.wr W11 (Or.inl (List.mem_of_getElem? (i := 1) rfl))
  obtain ⟨T12, X12, e12, st12⟩ := getF X11 hx hZ hown (host := "") (Or.inl (hw _ (List.mem_of_getElem? (i := 14) rfl))) Via.refl e11 ((PF_ob0_nodes.other W7 (Or.inl ne_ob0_ob1)).other W11 (Or.inl ne_ob0_ob2)) (g := (mkF m 68 #[.val (.ref ob0), .val (.int q0), .val (.int q1)] [(.ref ob0), (.ref ob0)])) rfl rfl (hb hby d6_68)
  obtain ⟨T13, h13, X13, e13, W13, st13⟩ := putF X12 hx hZ hown (host := "") (Or.inl (hw _ (List.mem_of_getElem? (i := 14) rfl))) Via.refl e12 ((PF_ob0_nodes.other W7 (Or.inl ne_ob0_ob1)).other W11 (Or.inl ne_ob0_ob2)) ((PE_ob0.wr W7).wr W11) (Or.inl (hw _ (List.mem_of_getElem? (i := 15) rfl))) (hw _ (List.mem_of_getElem? (i := 1) rfl)) (ty := .int) (by decide) rfl rfl (g := (mkF m 74 #[.val (.ref ob0), .val (.int q0), .val (.int q1)] [(.int (5 : Int32)), (.ref ob0), (.int (4 : Int32))])) rfl rfl (hb hby d6_74)
  have Fw13 := ((PF_ob0_nodes.other W7 (Or.inl ne_ob0_ob1)).other W11 (Or.inl ne_ob0_ob2)).same W13
  have N13 := Fr.snoc X13 N11 g_ob0
  have O13 := O11.wr W13 g_ob0
  have KK13 : Keep h0 h13 [ob1, ob2, ob0] := KK11.wr W13 (Or.inl (List.mem_of_getElem? (i := 2) rfl))
  have J14 := (((PE_ob0.wr W7).wr W11).wr W13)
  have J15 := (((PF_ob0_first.other W7 (Or.inl ne_ob0_ob1)).other W11 (Or.inl ne_ob0_ob2)).other W13 (Or.inr (slot_ne (Or.inl (hw _ (List.mem_of_getElem? (i := 11) rfl))) (Or.inl (hw _ (List.mem_of_getElem? (i := 15) rfl))) (by decide) (t := (.array .int)) (t' := .int) (by decide) (by decide))))
  have J16 := (((PF_ob0_second.other W7 (Or.inl ne_ob0_ob1)).other W11 (Or.inl ne_ob0_ob2)).other W13 (Or.inr (slot_ne (Or.inl (hw _ (List.mem_of_getElem? (i := 13) rfl))) (Or.inl (hw _ (List.mem_of_getElem? (i := 15) rfl))) (by decide) (t := (.array .int)) (t' := .int) (by decide) (by decide))))
  obtain ⟨fs, hr, hrun, hended, hW, hsame⟩ := X13.leave (v := some (.int (4 : Int32))) (fun h => by rw [Bd.returns] at h; cases h)
  refine ⟨_, _, pre0 _ ?_, hrun, hended, _, _, rfl, ?_, ⟨_, rfl⟩, hW, hsame.mono (by decide) (by decide)⟩
  · show Steps p.tables e below (s₁.setTop (mkF m 0 #[.val (.ref ob0), .val (.int q0), .val (.int q1)] [])) _
    refine XS.aloadN X0.here hx rfl (hb hby d6_0) rfl rfl ?_
    show Steps p.tables e below (s₁.setTop (mkF m 1 #[.val (.ref ob0), .val (.int q0), .val (.int q1)] [(.ref ob0)])) _
    refine st1 _ ?_
    show Steps p.tables e below (T1.setTop (mkF m 4 #[.val (.ref ob0), .val (.int q0), .val (.int q1)] [(.int (4 : Int32))])) _
    refine XS.aloadN X1.here hx rfl (hb hby d6_4) rfl rfl ?_
    show Steps p.tables e below (T1.setTop (mkF m 5 #[.val (.ref ob0), .val (.int q0), .val (.int q1)] [(.ref ob0), (.int (4 : Int32))])) _
    refine st2 _ ?_
    show Steps p.tables e below (T2.setTop (mkF m 8 #[.val (.ref ob0), .val (.int q0), .val (.int q1)] [(.ref ob1), (.int (4 : Int32))])) _
    refine X2.arraylength hx (by rw [e2]; exact aA3.1) (State.isArrayOf_alike hZ.alike aA3.2.1) (g := (mkF m 8 #[.val (.ref ob0), .val (.int q0), .val (.int q1)] [(.ref ob1), (.int (4 : Int32))])) rfl rfl (hb hby d6_8) _ ?_
    rw [len_of aS3 aN3]
    show Steps p.tables e below (T2.setTop (mkF m 9 #[.val (.ref ob0), .val (.int q0), .val (.int q1)] [(.int (1024 : Int32)), (.int (4 : Int32))])) _
    refine XS.icmpYes X2.here hx rfl (pc0 := 9) (pc' := 46) rfl (hb hby d6_9) rfl (feq (by decide : ¬ ((4 : Int32) = (1024 : Int32)))).2 (by decide) (by decide) ?_
    show Steps p.tables e below (T2.setTop (mkF m 46 #[.val (.ref ob0), .val (.int q0), .val (.int q1)] [])) _
    refine XS.aloadN X2.here hx rfl (hb hby d6_46) rfl rfl ?_
    show Steps p.tables e below (T2.setTop (mkF m 47 #[.val (.ref ob0), .val (.int q0), .val (.int q1)] [(.ref ob0)])) _
    refine st4 _ ?_
    show Steps p.tables e below (T4.setTop (mkF m 50 #[.val (.ref ob0), .val (.int q0), .val (.int q1)] [(.ref ob1)])) _
    refine XS.aloadN X4.here hx rfl (hb hby d6_50) rfl rfl ?_
    show Steps p.tables e below (T4.setTop (mkF m 51 #[.val (.ref ob0), .val (.int q0), .val (.int q1)] [(.ref ob0), (.ref ob1)])) _
    refine st5 _ ?_
    show Steps p.tables e below (T5.setTop (mkF m 54 #[.val (.ref ob0), .val (.int q0), .val (.int q1)] [(.int (4 : Int32)), (.ref ob1)])) _
    refine XS.iloadN X5.here hx rfl (hb hby d6_54) rfl ?_
    show Steps p.tables e below (T5.setTop (mkF m 55 #[.val (.ref ob0), .val (.int q0), .val (.int q1)] [(.int q0), (.int (4 : Int32)), (.ref ob1)])) _
    refine st7 _ ?_
    show Steps p.tables e below (T7.setTop (mkF m 56 #[.val (.ref ob0), .val (.int q0), .val (.int q1)] [])) _
    refine XS.aloadN X7.here hx rfl (hb hby d6_56) rfl rfl ?_
    show Steps p.tables e below (T7.setTop (mkF m 57 #[.val (.ref ob0), .val (.int q0), .val (.int q1)] [(.ref ob0)])) _
    refine st8 _ ?_
    show Steps p.tables e below (T8.setTop (mkF m 60 #[.val (.ref ob0), .val (.int q0), .val (.int q1)] [(.ref ob2)])) _
    refine XS.aloadN X8.here hx rfl (hb hby d6_60) rfl rfl ?_
    show Steps p.tables e below (T8.setTop (mkF m 61 #[.val (.ref ob0), .val (.int q0), .val (.int q1)] [(.ref ob0), (.ref ob2)])) _
    refine st9 _ ?_
    show Steps p.tables e below (T9.setTop (mkF m 64 #[.val (.ref ob0), .val (.int q0), .val (.int q1)] [(.int (4 : Int32)), (.ref ob2)])) _
    refine XS.iloadN X9.here hx rfl (hb hby d6_64) rfl ?_
    show Steps p.tables e below (T9.setTop (mkF m 65 #[.val (.ref ob0), .val (.int q0), .val (.int q1)] [(.int q1), (.int (4 : Int32)), (.ref ob2)])) _
    refine st11 _ ?_
    show Steps p.tables e below (T11.setTop (mkF m 66 #[.val (.ref ob0), .val (.int q0), .val (.int q1)] [])) _
    refine XS.aloadN X11.here hx rfl (hb hby d6_66) rfl rfl ?_
    show Steps p.tables e below (T11.setTop (mkF m 67 #[.val (.ref ob0), .val (.int q0), .val (.int q1)] [(.ref ob0)])) _
    refine XS.dup X11.here hx rfl (hb hby d6_67) rfl rfl ?_
    show Steps p.tables e below (T11.setTop (mkF m 68 #[.val (.ref ob0), .val (.int q0), .val (.int q1)] [(.ref ob0), (.ref ob0)])) _
    refine st12 _ ?_
    show Steps p.tables e below (T12.setTop (mkF m 71 #[.val (.ref ob0), .val (.int q0), .val (.int q1)] [(.int (4 : Int32)), (.ref ob0)])) _
    refine XS.dupX1 X12.here hx rfl (hb hby d6_71) rfl rfl rfl ?_
    show Steps p.tables e below (T12.setTop (mkF m 72 #[.val (.ref ob0), .val (.int q0), .val (.int q1)] [(.int (4 : Int32)), (.ref ob0), (.int (4 : Int32))])) _
    refine XS.iconst X12.here hx rfl (hb hby d6_72) ?_
    show Steps p.tables e below (T12.setTop (mkF m 73 #[.val (.ref ob0), .val (.int q0), .val (.int q1)] [(.int (1 : Int32)), (.int (4 : Int32)), (.ref ob0), (.int (4 : Int32))])) _
    refine XS.iadd X12.here hx rfl (hb hby d6_73) rfl ?_
    rw [show ((4 : Int32) + (1 : Int32)) = (5 : Int32) from by decide]
    show Steps p.tables e below (T12.setTop (mkF m 74 #[.val (.ref ob0), .val (.int q0), .val (.int q1)] [(.int (5 : Int32)), (.ref ob0), (.int (4 : Int32))])) _
    refine st13 _ ?_
    show Steps p.tables e below (T13.setTop (mkF m 77 #[.val (.ref ob0), .val (.int q0), .val (.int q1)] [(.int (4 : Int32))])) _
    exact Jvm.RoadKit.retI X13 hx Bd.returns (hb hby d6_77) hr
  · have eH : (T13.setFrames fs).heap = h13 := e13; rw [eH]; exact ⟨rfl, N13, KK13, O13, ((V_ob1_7.other W11 ne_ob1_ob2).other W13 (Ne.symm ne_ob0_ob1)), (V_ob2_11.other W13 (Ne.symm ne_ob0_ob2)), J14, J15, J16, Fw13, trivial⟩
def Q20_7 (Z : State) (w_cache : Addr) (cl_w_cache : Cell) (h0 : Heap) (n0 : Nat) (v : Option Value) (h : Heap) (L : List Loc) : Prop := ∃ o3 : Addr, v = some (.ref o3) ∧ Fr n0 L ∧ h = h0 ∧ Exa Z Z.heap o3 "java/lang/Integer" ∧ Fld Z Z.heap o3 "java/lang/Integer" "value" "I" (.int (8 : Int32))
set_option maxRecDepth 65536 in
set_option maxHeartbeats 40000000 in
theorem rm20_7 (l : Launch) (Z : State) (a0 : Array Value) (hw : ∀ d ∈ tables_1, d.before a0 Z = true) (ws : List Jvm.Cond) (w_cache : Addr) (cl_w_cache : Cell) (h0 : Heap) (n0 : Nat) (Z0 : n0 ≤ h0.size) (O0 : Old Z n0 h0) (HW : World Z w_cache cl_w_cache) :
    MetFree l (⟨"java/lang/Integer", "valueOf", "(I)Ljava/lang/Integer;"⟩ : MethodName) (head1 (Jvm.Cond.code (⟨"java/lang/Integer", "valueOf", "(I)Ljava/lang/Integer;"⟩ : MethodName) jdk_33_method_22_code 1 (some (.object "java/lang/Integer")) :: ws) ({ frames := 0, cells := 0, slots := 0, locals := 0 } : Room)) (fun a U => a = #[(.int (8 : Int32))] ∧ Z.Warmed39 U.vm ∧ U.heap = h0) (fun _ _ _ _ _ => True) (fun _ U o U' => ∃ v L, o = .returned v ∧ Q20_7 Z w_cache cl_w_cache h0 n0 v U'.heap L ∧ FrameEnd U o U' L ({ frames := 0, cells := 0, slots := 0, locals := 0 } : Room).cells ({ frames := 0, cells := 0, slots := 0, locals := 0 } : Room).slots) := by
  refine MetFree.of_bodySF (plainFor_of_name pn88) hisR ?_
  intro p e s m args below meth c s₁ Bd hml0 hP hK
  obtain ⟨rfl, hZ, hh⟩ := hP
  have hx := Bd.exec
  have hby := Bd.bytes
  have hml : c.maxLocals = 1 := hml0
  have hown : s.vm.findClass "java/lang/Integer" = some m.cls := findClass_of_methodNamed Bd.named
  have hnm := (name_of_methodNamed Bd.named Bd.method).1
  have X0 : Stand p l e ({ frames := 0, cells := 0, slots := 0, locals := 0 } : Room) s m #[(.int (8 : Int32))] below meth c s₁ [] 0 0 := Stand.of_body Bd
  have e0 : s₁.heap = h0 := by rw [← hh, Bd.state]; rfl
  have N0 := Fr.nil n0
  have pre0 : ∀ t, Steps p.tables e below (s₁.setTop (mkF m 0 #[.val (.int (8 : Int32))] [])) t → Steps p.tables e below (s₁.setTop (entryFrame m #[(.int (8 : Int32))] 1)) t := fun t k => castTop (ef87 m (8 : Int32)) k
  obtain ⟨S_high, S_w_cache, Ar_w_cache, Sz_w_cache, AL_w_cache, -⟩ := id HW
  obtain ⟨T1, X1, e1, st1⟩ := getS2 X0 hx hZ hown (host := "") (Or.inl (hw _ (List.mem_of_getElem? (i := 129) rfl))) Via.refl e0 (S_high.ext O0.2) (g := (mkF m 7 #[.val (.int (8 : Int32))] [(.int (8 : Int32))])) rfl (hb hby d20_7)
  obtain ⟨T2, X2, e2, st2⟩ := getS2 X1 hx hZ hown (host := "") (Or.inl (hw _ (List.mem_of_getElem? (i := 131) rfl))) Via.refl e1 (S_w_cache.ext O0.2) (g := (mkF m 13 #[.val (.int (8 : Int32))] [])) rfl (hb hby d20_13)
  obtain ⟨o3, oI3, oA3, oE3, oF3_0⟩ := AL_w_cache (136 : Int32) ⟨by decide, by decide⟩
  rw [(show ((136 : Int32) - 128) = (8 : Int32) from by decide)] at oF3_0
  obtain ⟨fs, hr, hrun, hended, hW, hsame⟩ := X2.leave (v := some (.ref o3)) (fun h => by rw [Bd.returns] at h; cases h)
  refine ⟨_, _, pre0 _ ?_, hrun, hended, _, _, rfl, ?_, ⟨_, rfl⟩, hW, hsame.mono (by decide) (by decide)⟩
  · show Steps p.tables e below (s₁.setTop (mkF m 0 #[.val (.int (8 : Int32))] [])) _
    refine XS.iloadN X0.here hx rfl (hb hby d20_0) rfl ?_
    show Steps p.tables e below (s₁.setTop (mkF m 1 #[.val (.int (8 : Int32))] [(.int (8 : Int32))])) _
    refine XS.bipush X0.here hx rfl (hb hby d20_1) ?_
    show Steps p.tables e below (s₁.setTop (mkF m 3 #[.val (.int (8 : Int32))] [(.int (-128 : Int32)), (.int (8 : Int32))])) _
    refine XS.icmpNo X0.here hx rfl (hb hby d20_3) rfl (flt (by decide : ¬ ((8 : Int32) < (-128 : Int32)))).1 ?_
    show Steps p.tables e below (s₁.setTop (mkF m 6 #[.val (.int (8 : Int32))] [])) _
    refine XS.iloadN X0.here hx rfl (hb hby d20_6) rfl ?_
    show Steps p.tables e below (s₁.setTop (mkF m 7 #[.val (.int (8 : Int32))] [(.int (8 : Int32))])) _
    refine st1 _ ?_
    show Steps p.tables e below (T1.setTop (mkF m 10 #[.val (.int (8 : Int32))] [(.int (127 : Int32)), (.int (8 : Int32))])) _
    refine XS.icmpNo X1.here hx rfl (hb hby d20_10) rfl (flt (by decide : ¬ ((127 : Int32) < (8 : Int32)))).2.2.1 ?_
    show Steps p.tables e below (T1.setTop (mkF m 13 #[.val (.int (8 : Int32))] [])) _
    refine st2 _ ?_
    show Steps p.tables e below (T2.setTop (mkF m 16 #[.val (.int (8 : Int32))] [(.ref w_cache)])) _
    refine XS.iloadN X2.here hx rfl (hb hby d20_16) rfl ?_
    show Steps p.tables e below (T2.setTop (mkF m 17 #[.val (.int (8 : Int32))] [(.int (8 : Int32)), (.ref w_cache)])) _
    refine XS.sipush X2.here hx rfl (hb hby d20_17) ?_
    show Steps p.tables e below (T2.setTop (mkF m 20 #[.val (.int (8 : Int32))] [(.int (128 : Int32)), (.int (8 : Int32)), (.ref w_cache)])) _
    refine XS.iadd X2.here hx rfl (hb hby d20_20) rfl ?_
    rw [show ((8 : Int32) + (128 : Int32)) = (136 : Int32) from by decide]
    show Steps p.tables e below (T2.setTop (mkF m 21 #[.val (.int (8 : Int32))] [(.int (136 : Int32)), (.ref w_cache)])) _
    refine X2.aaload hx (j := (136 : Int32)) (v := (.ref o3)) (by rw [e2]; exact (Ar_w_cache.ext O0.2).1) (State.isArrayOf_alike hZ.alike Ar_w_cache.2.1) rfl Ar_w_cache.2.2 oI3 oA3 (g := (mkF m 21 #[.val (.int (8 : Int32))] [(.int (136 : Int32)), (.ref w_cache)])) rfl rfl (hb hby d20_21) _ ?_
    show Steps p.tables e below (T2.setTop (mkF m 22 #[.val (.int (8 : Int32))] [(.ref o3)])) _
    jvm_step X2.here [X2.here.top, hx, (hb hby d20_22), X2.method', Bd.returns, Value.isRef, FieldType.isReference]
    first | (intro acts; rw [hr _ acts rfl rfl rfl]) | rw [hr _ _ rfl rfl rfl]
    exact Steps.refl _
  · exact ⟨o3, rfl, N0, e2, oE3, oF3_0⟩
def Q19_8 (Z : State) (w_cache : Addr) (cl_w_cache : Cell) (ob0 : Addr) (q0 : Int32) (q1 : Int32) (ob1 : Addr) (F : Addr) (S : Addr) (k_F : ClassId) (f0 : Int32) (f1 : Int32) (f2 : Int32) (f3 : Int32) (f4 : Int32) (f5 : Int32) (k_S : ClassId) (s0 : Int32) (s1 : Int32) (s2 : Int32) (s3 : Int32) (s4 : Int32) (s5 : Int32) (h0 : Heap) (n0 : Nat) (v : Option Value) (h : Heap) (L : List Loc) : Prop := ∃ o2_0 : Addr, v = some (.ref o2_0) ∧ Fr n0 L ∧ Keep h0 h [F, S, ob0] ∧ Old Z n0 h ∧ Arv Z h F k_F .int (1024 : Int32) [(.int f0), (.int f1), (.int f2), (.int f3), (.int q0), (.int f5)] (.int (0 : Int32)) ∧ Arv Z h S k_S .int (1024 : Int32) [(.int s0), (.int s1), (.int s2), (.int s3), (.int q1), (.int s5)] (.int (0 : Int32)) ∧ Exa Z h ob0 "com/example/minos/minos/analysis/Circuit" ∧ Fld Z h ob0 "com/example/minos/minos/analysis/Circuit" "first" "[I" (.ref F) ∧ Fld Z h ob0 "com/example/minos/minos/analysis/Circuit" "second" "[I" (.ref S) ∧ Fld Z h ob0 "com/example/minos/minos/analysis/Circuit" "nodes" "I" (.int (5 : Int32)) ∧ Exa Z Z.heap o2_0 "java/lang/Integer" ∧ Fld Z Z.heap o2_0 "java/lang/Integer" "value" "I" (.int (8 : Int32)) ∧ True
set_option maxRecDepth 65536 in
set_option maxHeartbeats 40000000 in
theorem rm19_8 (l : Launch) (Z : State) (a0 : Array Value) (hw : ∀ d ∈ tables_1, d.before a0 Z = true) (ws : List Jvm.Cond) (w_cache : Addr) (cl_w_cache : Cell) (ob0 : Addr) (q0 : Int32) (q1 : Int32) (ob1 : Addr) (F : Addr) (S : Addr) (k_F : ClassId) (f0 : Int32) (f1 : Int32) (f2 : Int32) (f3 : Int32) (f4 : Int32) (f5 : Int32) (k_S : ClassId) (s0 : Int32) (s1 : Int32) (s2 : Int32) (s3 : Int32) (s4 : Int32) (s5 : Int32) (h0 : Heap) (n0 : Nat) (Z0 : n0 ≤ h0.size) (O0 : Old Z n0 h0) (HW : World Z w_cache cl_w_cache) (PE_ob0 : Exa Z h0 ob0 "com/example/minos/minos/analysis/Circuit") (PF_ob0_first : Fld Z h0 ob0 "com/example/minos/minos/analysis/Circuit" "first" "[I" (.ref F)) (PF_ob0_second : Fld Z h0 ob0 "com/example/minos/minos/analysis/Circuit" "second" "[I" (.ref S)) (PF_ob0_nodes : Fld Z h0 ob0 "com/example/minos/minos/analysis/Circuit" "nodes" "I" (.int (4 : Int32))) (PV_F : Arv Z h0 F k_F .int (1024 : Int32) [(.int f0), (.int f1), (.int f2), (.int f3), (.int f4), (.int f5)] (.int (0 : Int32))) (PV_S : Arv Z h0 S k_S .int (1024 : Int32) [(.int s0), (.int s1), (.int s2), (.int s3), (.int s4), (.int s5)] (.int (0 : Int32))) (ne_F_ob0 : F ≠ ob0) (ne_F_S : F ≠ S) (ne_S_ob0 : S ≠ ob0) (g_F : n0 ≤ F) (g_S : n0 ≤ S) (g_ob0 : n0 ≤ ob0) :
    MetFree l (⟨"com/example/minos/minos/analysis/Circuit", "lambda$and$0", "(IILjava/lang/Long;)Ljava/lang/Integer;"⟩ : MethodName) (head1 (Jvm.Cond.code (⟨"com/example/minos/minos/analysis/Circuit", "lambda$and$0", "(IILjava/lang/Long;)Ljava/lang/Integer;"⟩ : MethodName) prog_12_method_15_code 4 (some (.object "java/lang/Integer")) :: ws) ({ frames := 1, cells := 0, slots := 0, locals := 15 } : Room)) (fun a U => a = #[(.ref ob0), (.int q0), (.int q1), (.ref ob1)] ∧ Z.Warmed39 U.vm ∧ U.heap = h0) (fun _ _ _ _ _ => True) (fun _ U o U' => ∃ v L, o = .returned v ∧ Q19_8 Z w_cache cl_w_cache ob0 q0 q1 ob1 F S k_F f0 f1 f2 f3 f4 f5 k_S s0 s1 s2 s3 s4 s5 h0 n0 v U'.heap L ∧ FrameEnd U o U' L ({ frames := 1, cells := 0, slots := 0, locals := 15 } : Room).cells ({ frames := 1, cells := 0, slots := 0, locals := 15 } : Room).slots) := by
  refine MetFree.of_bodySF (plainFor_of_name pn37) hisR ?_
  intro p e s m args below meth c s₁ Bd hml0 hP hK
  obtain ⟨rfl, hZ, hh⟩ := hP
  have hx := Bd.exec
  have hby := Bd.bytes
  have hml : c.maxLocals = 4 := hml0
  have hown : s.vm.findClass "com/example/minos/minos/analysis/Circuit" = some m.cls := findClass_of_methodNamed Bd.named
  have hnm := (name_of_methodNamed Bd.named Bd.method).1
  have X0 : Stand p l e ({ frames := 1, cells := 0, slots := 0, locals := 15 } : Room) s m #[(.ref ob0), (.int q0), (.int q1), (.ref ob1)] below meth c s₁ [] 0 0 := Stand.of_body Bd
  have e0 : s₁.heap = h0 := by rw [← hh, Bd.state]; rfl
  have N0 := Fr.nil n0
  have pre0 : ∀ t, Steps p.tables e below (s₁.setTop (mkF m 0 #[.val (.ref ob0), .val (.int q0), .val (.int q1), .val (.ref ob1)] [])) t → Steps p.tables e below (s₁.setTop (entryFrame m #[(.ref ob0), (.int q0), (.int q1), (.ref ob1)] 4)) t := fun t k => castTop (ef93 m ob0 q0 q1 ob1) k
  obtain ⟨S_high, S_w_cache, Ar_w_cache, Sz_w_cache, AL_w_cache, -⟩ := id HW
  obtain ⟨cq1, q1a, q1b⟩ := Exa.cell PE_ob0
  obtain ⟨_, _, ⟨T1, L1, k1, n1⟩, -, X1, ⟨Lc1, hQ1, l1, y1, z1⟩, st1⟩ := X0.privateBack hx (y := (⟨"com/example/minos/minos/analysis/Circuit", "add", "(II)I"⟩ : MethodName)) hown (mvT hZ (hw _ (List.mem_of_getElem? (i := 39) rfl))) (mvT hZ (hw _ (List.mem_of_getElem? (i := 40) rfl))) (own_sel (mvT hZ (hw _ (List.mem_of_getElem? (i := 40) rfl))) (mvP hZ (hw _ (List.mem_of_getElem? (i := 41) rfl))) (mvT hZ (hw _ (List.mem_of_getElem? (i := 1) rfl))) (by decide)) (Cond.privateMethod_at (mvP hZ (hw _ (List.mem_of_getElem? (i := 41) rfl)) (args := #[]))) (mvT hZ (hw _ (List.mem_of_getElem? (i := 42) rfl))) (by decide) (backOf (W := 1) (rm6_6 l Z a0 hw [] w_cache cl_w_cache ob0 q0 q1 F S k_F f0 f1 f2 f3 f4 f5 k_S s0 s1 s2 s3 s4 s5 h0 n0 (own_n0 O0) O0 HW PE_ob0 PF_ob0_first PF_ob0_second PF_ob0_nodes PV_F PV_S (Ne.symm ne_F_ob0) ne_F_S (Ne.symm ne_S_ob0) g_F g_S g_ob0) hZ (hw _ (List.mem_of_getElem? (i := 42) rfl)) (hw _ (List.mem_of_getElem? (i := 2) rfl)) (by decide) (by decide)) (g := (mkF m 4 #[.val (.ref ob0), .val (.int q0), .val (.int q1), .val (.ref ob1)] [(.int q1), (.int q0), (.ref ob0), (.int (2 : Int32))])) rfl (by rw [hml]; rfl) (Steps.refl _) (a := ob0) (by rw [e0]; exact q1a) q1b (argsL := [(.int q0), (.int q1)]) (rest := [(.int (2 : Int32))]) (lenOf pd70 rfl) rfl (by show 2 * 0 + _ ≤ _; exact Nat.le_of_eq rfl) (hb hby d19_4) (fun _ _ => ⟨rfl, e0, (by decide : 0 + 0 ≤ _), (by decide : 0 + 0 ≤ _)⟩)
  dsimp only [Pt.U, Pt.locs, Pt.cells, Pt.slots] at X1 l1 y1 z1 st1 hQ1
  subst l1 y1 z1
  obtain ⟨rfl, N1q, K1, O1, pf1_0, pf1_1, pf1_2, pf1_3, pf1_4, pf1_5, -⟩ := hQ1
  have KK1 : Keep h0 T1.heap [F, S, ob0] := (Keep.refl h0 [F, S, ob0]).trans K1 (allS (Or.inl (List.mem_of_getElem? (i := 0) rfl)) (allS (Or.inl (List.mem_of_getElem? (i := 1) rfl)) (allS (Or.inl (List.mem_of_getElem? (i := 2) rfl)) all0)))
  have N1 := Fr.app N0 N1q
  obtain ⟨_, _, ⟨T2, L2, k2, n2⟩, -, X2, ⟨Lc2, hQ2, l2, y2, z2⟩, st2⟩ := Jvm.LawKit.callS X1 hx (y := (⟨"java/lang/Integer", "valueOf", "(I)Ljava/lang/Integer;"⟩ : MethodName)) hown (mvT hZ (hw _ (List.mem_of_getElem? (i := 125) rfl))) (mvT hZ (hw _ (List.mem_of_getElem? (i := 126) rfl))) (mvT hZ (hw _ (List.mem_of_getElem? (i := 127) rfl))) (mvT hZ (hw _ (List.mem_of_getElem? (i := 128) rfl))) (by decide) (backOf (W := 0) (rm20_7 l Z a0 hw [] w_cache cl_w_cache T1.heap n0 (own_n0 O1) O1 HW) hZ (hw _ (List.mem_of_getElem? (i := 128) rfl)) (hw _ (List.mem_of_getElem? (i := 127) rfl)) (by decide) (by decide)) (g := (mkF m 8 #[.val (.ref ob0), .val (.int q0), .val (.int q1), .val (.ref ob1)] [(.int (8 : Int32))])) rfl (by rw [hml]; rfl) (argsL := [(.int (8 : Int32))]) (rest := []) (lenOf pd89 rfl) rfl (by show 2 * 0 + _ ≤ _; exact Nat.le_of_eq rfl) (hb hby d19_8) (fun _ _ => ⟨rfl, rfl, (by decide : 0 + 0 ≤ _), (by decide : 0 + 0 ≤ _)⟩)
  dsimp only [Pt.U, Pt.locs, Pt.cells, Pt.slots] at X2 l2 y2 z2 st2 hQ2
  subst l2 y2 z2
  obtain ⟨o2_0, rfl, N2q, e2, of2_0, of2_1⟩ := hQ2
  have N2 := Fr.app N1 N2q
  obtain ⟨fs, hr, hrun, hended, hW, hsame⟩ := X2.leave (v := some (.ref o2_0)) (fun h => by rw [Bd.returns] at h; cases h)
  refine ⟨_, _, pre0 _ ?_, hrun, hended, _, _, rfl, ?_, ⟨_, rfl⟩, hW, hsame.mono (by decide) (by decide)⟩
  · show Steps p.tables e below (s₁.setTop (mkF m 0 #[.val (.ref ob0), .val (.int q0), .val (.int q1), .val (.ref ob1)] [])) _
    refine XS.iconst X0.here hx rfl (hb hby d19_0) ?_
    show Steps p.tables e below (s₁.setTop (mkF m 1 #[.val (.ref ob0), .val (.int q0), .val (.int q1), .val (.ref ob1)] [(.int (2 : Int32))])) _
    refine XS.aloadN X0.here hx rfl (hb hby d19_1) rfl rfl ?_
    show Steps p.tables e below (s₁.setTop (mkF m 2 #[.val (.ref ob0), .val (.int q0), .val (.int q1), .val (.ref ob1)] [(.ref ob0), (.int (2 : Int32))])) _
    refine XS.iloadN X0.here hx rfl (hb hby d19_2) rfl ?_
    show Steps p.tables e below (s₁.setTop (mkF m 3 #[.val (.ref ob0), .val (.int q0), .val (.int q1), .val (.ref ob1)] [(.int q0), (.ref ob0), (.int (2 : Int32))])) _
    refine XS.iloadN X0.here hx rfl (hb hby d19_3) rfl ?_
    show Steps p.tables e below (s₁.setTop (mkF m 4 #[.val (.ref ob0), .val (.int q0), .val (.int q1), .val (.ref ob1)] [(.int q1), (.int q0), (.ref ob0), (.int (2 : Int32))])) _
    refine st1.trans ?_
    show Steps p.tables e below (T1.setTop (mkF m 7 #[.val (.ref ob0), .val (.int q0), .val (.int q1), .val (.ref ob1)] [(.int (4 : Int32)), (.int (2 : Int32))])) _
    refine XS.imul X1.here hx rfl (hb hby d19_7) rfl ?_
    rw [show ((2 : Int32) * (4 : Int32)) = (8 : Int32) from by decide]
    show Steps p.tables e below (T1.setTop (mkF m 8 #[.val (.ref ob0), .val (.int q0), .val (.int q1), .val (.ref ob1)] [(.int (8 : Int32))])) _
    refine st2 _ ?_
    show Steps p.tables e below (T2.setTop (mkF m 11 #[.val (.ref ob0), .val (.int q0), .val (.int q1), .val (.ref ob1)] [(.ref o2_0)])) _
    jvm_step X2.here [X2.here.top, hx, (hb hby d19_11), X2.method', Bd.returns, Value.isRef, FieldType.isReference]
    first | (intro acts; rw [hr _ acts rfl rfl rfl]) | rw [hr _ _ rfl rfl rfl]
    exact Steps.refl _
  · have eH : (T2.setFrames fs).heap = T1.heap := e2; rw [eH]; exact ⟨o2_0, rfl, N2, KK1, O1, pf1_0, pf1_1, pf1_2, pf1_3, pf1_4, pf1_5, of2_0, of2_1, trivial⟩
theorem d14_0 : decode jdk_69_method_35_code 0 = .ok (.aload_n 2, 1) := by decide +kernel
theorem d14_1 : decode jdk_69_method_35_code 1 = .ok (.ifnonnull 11, 3) := by decide +kernel
theorem d14_12 : decode jdk_69_method_35_code 12 = .ok (.aload_n 1, 1) := by decide +kernel
theorem d15_0 : decode jdk_69_method_1_code 0 = .ok (.aload_n 0, 1) := by decide +kernel
theorem d15_1 : decode jdk_69_method_1_code 1 = .ok (.ifnonnull 7, 3) := by decide +kernel
theorem d15_8 : decode jdk_69_method_1_code 8 = .ok (.aload_n 0, 1) := by decide +kernel
theorem d16_0 : decode jdk_35_method_35_code 0 = .ok (.aload_n 0, 1) := by decide +kernel
theorem d16_1 : decode jdk_35_method_35_code 1 = .ok (.getfield 273, 3) := by decide +kernel
theorem d17_0 : decode jdk_35_method_36_code 0 = .ok (.lload_n 0, 1) := by decide +kernel
theorem d17_1 : decode jdk_35_method_36_code 1 = .ok (.lload_n 0, 1) := by decide +kernel
theorem d17_2 : decode jdk_35_method_36_code 2 = .ok (.bipush 32, 2) := by decide +kernel
theorem d17_4 : decode jdk_35_method_36_code 4 = .ok (.lushr, 1) := by decide +kernel
theorem d17_5 : decode jdk_35_method_36_code 5 = .ok (.lxor, 1) := by decide +kernel
theorem d17_6 : decode jdk_35_method_36_code 6 = .ok (.l2i, 1) := by decide +kernel
theorem d17_7 : decode jdk_35_method_36_code 7 = .ok (.ireturn, 1) := by decide +kernel
theorem ef113 (m : MethodId) (x0 : Int64) : entryFrame m #[(.long x0)] 2 = mkF m 0 #[.val (.long x0), .second] [] := by first | (simp [entryFrame, mkF, argsToLocals, Value.category]; done) | rfl
theorem pn114 : plainName "java/lang/Long" = true := by first | (simp [plainName, overriddenIn]; done) | decide +kernel
def Q17_9 (Z : State) (q0 : Int64) (h0 : Heap) (n0 : Nat) (v : Option Value) (h : Heap) (L : List Loc) : Prop := v = some (.int ((q0 ^^^ ((q0.toUInt64 >>> ((32 : Int32) &&& 0x3f).toInt64.toUInt64).toInt64)).toInt32)) ∧ Fr n0 L ∧ h = h0
set_option maxRecDepth 65536 in
set_option maxHeartbeats 40000000 in
theorem rm17_9 (l : Launch) (Z : State) (a0 : Array Value) (hw : ∀ d ∈ tables_1, d.before a0 Z = true) (ws : List Jvm.Cond) (q0 : Int64) (h0 : Heap) (n0 : Nat) (Z0 : n0 ≤ h0.size) (O0 : Old Z n0 h0) :
    MetFree l (⟨"java/lang/Long", "hashCode", "(J)I"⟩ : MethodName) (head1 (Jvm.Cond.code (⟨"java/lang/Long", "hashCode", "(J)I"⟩ : MethodName) jdk_35_method_36_code 2 (some .int) :: ws) ({ frames := 0, cells := 0, slots := 0, locals := 0 } : Room)) (fun a U => a = #[(.long q0)] ∧ Z.Warmed39 U.vm ∧ U.heap = h0) (fun _ _ _ _ _ => True) (fun _ U o U' => ∃ v L, o = .returned v ∧ Q17_9 Z  q0 h0 n0 v U'.heap L ∧ FrameEnd U o U' L ({ frames := 0, cells := 0, slots := 0, locals := 0 } : Room).cells ({ frames := 0, cells := 0, slots := 0, locals := 0 } : Room).slots) := by
  refine MetFree.of_bodySF (plainFor_of_name pn114) hisR ?_
  intro p e s m args below meth c s₁ Bd hml0 hP hK
  obtain ⟨rfl, hZ, hh⟩ := hP
  have hx := Bd.exec
  have hby := Bd.bytes
  have hml : c.maxLocals = 2 := hml0
  have hown : s.vm.findClass "java/lang/Long" = some m.cls := findClass_of_methodNamed Bd.named
  have hnm := (name_of_methodNamed Bd.named Bd.method).1
  have X0 : Stand p l e ({ frames := 0, cells := 0, slots := 0, locals := 0 } : Room) s m #[(.long q0)] below meth c s₁ [] 0 0 := Stand.of_body Bd
  have e0 : s₁.heap = h0 := by rw [← hh, Bd.state]; rfl
  have N0 := Fr.nil n0
  have pre0 : ∀ t, Steps p.tables e below (s₁.setTop (mkF m 0 #[.val (.long q0), .second] [])) t → Steps p.tables e below (s₁.setTop (entryFrame m #[(.long q0)] 2)) t := fun t k => castTop (ef113 m q0) k
  obtain ⟨fs, hr, hrun, hended, hW, hsame⟩ := X0.leave (v := some (.int ((q0 ^^^ ((q0.toUInt64 >>> ((32 : Int32) &&& 0x3f).toInt64.toUInt64).toInt64)).toInt32))) (fun h => by rw [Bd.returns] at h; cases h)
  refine ⟨_, _, pre0 _ ?_, hrun, hended, _, _, rfl, ?_, ⟨_, rfl⟩, hW, hsame.mono (by decide) (by decide)⟩
  · show Steps p.tables e below (s₁.setTop (mkF m 0 #[.val (.long q0), .second] [])) _
    refine XS.lloadN X0.here hx rfl (hb hby d17_0) rfl ?_
    show Steps p.tables e below (s₁.setTop (mkF m 1 #[.val (.long q0), .second] [(.long q0)])) _
    refine XS.lloadN X0.here hx rfl (hb hby d17_1) rfl ?_
    show Steps p.tables e below (s₁.setTop (mkF m 2 #[.val (.long q0), .second] [(.long q0), (.long q0)])) _
    refine XS.bipush X0.here hx rfl (hb hby d17_2) ?_
    show Steps p.tables e below (s₁.setTop (mkF m 4 #[.val (.long q0), .second] [(.int (32 : Int32)), (.long q0), (.long q0)])) _
    refine XS.lushr X0.here hx rfl (hb hby d17_4) rfl ?_
    show Steps p.tables e below (s₁.setTop (mkF m 5 #[.val (.long q0), .second] [(.long ((q0.toUInt64 >>> ((32 : Int32) &&& 0x3f).toInt64.toUInt64).toInt64)), (.long q0)])) _
    refine XS.lxor X0.here hx rfl (hb hby d17_5) rfl ?_
    show Steps p.tables e below (s₁.setTop (mkF m 6 #[.val (.long q0), .second] [(.long (q0 ^^^ ((q0.toUInt64 >>> ((32 : Int32) &&& 0x3f).toInt64.toUInt64).toInt64)))])) _
    refine XS.l2i X0.here hx rfl (hb hby d17_6) rfl ?_
    show Steps p.tables e below (s₁.setTop (mkF m 7 #[.val (.long q0), .second] [(.int ((q0 ^^^ ((q0.toUInt64 >>> ((32 : Int32) &&& 0x3f).toInt64.toUInt64).toInt64)).toInt32))])) _
    exact Jvm.RoadKit.retI X0 hx Bd.returns (hb hby d17_7) hr
  · exact ⟨rfl, N0, e0⟩
theorem pd115 : parseMethodDescriptor "(J)I" = some ⟨[.long], some .int⟩ := by decide +kernel
theorem d16_4 : decode jdk_35_method_35_code 4 = .ok (.invokestatic 277, 3) := by decide +kernel
theorem d16_7 : decode jdk_35_method_35_code 7 = .ok (.ireturn, 1) := by decide +kernel
theorem ef119 (m : MethodId) (x0 : Addr) : entryFrame m #[(.ref x0)] 1 = mkF m 0 #[.val (.ref x0)] [] := by first | (simp [entryFrame, mkF, argsToLocals, Value.category]; done) | rfl
def Q16_10 (Z : State) (ob0 : Addr) (q0 : Int64) (h0 : Heap) (n0 : Nat) (v : Option Value) (h : Heap) (L : List Loc) : Prop := v = some (.int ((q0 ^^^ ((q0.toUInt64 >>> ((32 : Int32) &&& 0x3f).toInt64.toUInt64).toInt64)).toInt32)) ∧ Fr n0 L ∧ h = h0
set_option maxRecDepth 65536 in
set_option maxHeartbeats 40000000 in
theorem rm16_10 (l : Launch) (Z : State) (a0 : Array Value) (hw : ∀ d ∈ tables_1, d.before a0 Z = true) (ws : List Jvm.Cond) (ob0 : Addr) (q0 : Int64) (h0 : Heap) (n0 : Nat) (Z0 : n0 ≤ h0.size) (O0 : Old Z n0 h0) (PE_ob0 : Exa Z h0 ob0 "java/lang/Long") (PF_ob0_value : Fld Z h0 ob0 "java/lang/Long" "value" "J" (.long q0)) :
    MetFree l (⟨"java/lang/Long", "hashCode", "()I"⟩ : MethodName) (head1 (Jvm.Cond.code (⟨"java/lang/Long", "hashCode", "()I"⟩ : MethodName) jdk_35_method_35_code 1 (some .int) :: ws) ({ frames := 1, cells := 0, slots := 0, locals := 13 } : Room)) (fun a U => a = #[(.ref ob0)] ∧ Z.Warmed39 U.vm ∧ U.heap = h0) (fun _ _ _ _ _ => True) (fun _ U o U' => ∃ v L, o = .returned v ∧ Q16_10 Z  ob0 q0 h0 n0 v U'.heap L ∧ FrameEnd U o U' L ({ frames := 1, cells := 0, slots := 0, locals := 13 } : Room).cells ({ frames := 1, cells := 0, slots := 0, locals := 13 } : Room).slots) := by
  refine MetFree.of_bodySF (plainFor_of_name pn114) hisR ?_
  intro p e s m args below meth c s₁ Bd hml0 hP hK
  obtain ⟨rfl, hZ, hh⟩ := hP
  have hx := Bd.exec
  have hby := Bd.bytes
  have hml : c.maxLocals = 1 := hml0
  have hown : s.vm.findClass "java/lang/Long" = some m.cls := findClass_of_methodNamed Bd.named
  have hnm := (name_of_methodNamed Bd.named Bd.method).1
  have X0 : Stand p l e ({ frames := 1, cells := 0, slots := 0, locals := 13 } : Room) s m #[(.ref ob0)] below meth c s₁ [] 0 0 := Stand.of_body Bd
  have e0 : s₁.heap = h0 := by rw [← hh, Bd.state]; rfl
  have N0 := Fr.nil n0
  have pre0 : ∀ t, Steps p.tables e below (s₁.setTop (mkF m 0 #[.val (.ref ob0)] [])) t → Steps p.tables e below (s₁.setTop (entryFrame m #[(.ref ob0)] 1)) t := fun t k => castTop (ef119 m ob0) k
  obtain ⟨T1, X1, e1, st1⟩ := getF X0 hx hZ hown (host := "") (Or.inl (hw _ (List.mem_of_getElem? (i := 77) rfl))) Via.refl e0 PF_ob0_value (g := (mkF m 1 #[.val (.ref ob0)] [(.ref ob0)])) rfl rfl (hb hby d16_1)
  obtain ⟨_, _, ⟨T2, L2, k2, n2⟩, -, X2, ⟨Lc2, hQ2, l2, y2, z2⟩, st2⟩ := Jvm.LawKit.callS X1 hx (y := (⟨"java/lang/Long", "hashCode", "(J)I"⟩ : MethodName)) hown (mvT hZ (hw _ (List.mem_of_getElem? (i := 101) rfl))) (mvT hZ (hw _ (List.mem_of_getElem? (i := 102) rfl))) (mvT hZ (hw _ (List.mem_of_getElem? (i := 60) rfl))) (mvT hZ (hw _ (List.mem_of_getElem? (i := 103) rfl))) (by decide) (backOf (W := 0) (rm17_9 l Z a0 hw []  q0 h0 n0 (own_n0 O0) O0) hZ (hw _ (List.mem_of_getElem? (i := 103) rfl)) (hw _ (List.mem_of_getElem? (i := 60) rfl)) (by decide) (by decide)) (g := (mkF m 4 #[.val (.ref ob0)] [(.long q0)])) rfl (by rw [hml]; rfl) (argsL := [(.long q0)]) (rest := []) (lenOf pd115 rfl) rfl (by show 2 * 0 + _ ≤ _; exact Nat.le_of_eq rfl) (hb hby d16_4) (fun _ _ => ⟨rfl, e1, (by decide : 0 + 0 ≤ _), (by decide : 0 + 0 ≤ _)⟩)
  dsimp only [Pt.U, Pt.locs, Pt.cells, Pt.slots] at X2 l2 y2 z2 st2 hQ2
  subst l2 y2 z2
  obtain ⟨rfl, N2q, e2⟩ := hQ2
  have N2 := Fr.app N0 N2q
  obtain ⟨fs, hr, hrun, hended, hW, hsame⟩ := X2.leave (v := some (.int ((q0 ^^^ ((q0.toUInt64 >>> ((32 : Int32) &&& 0x3f).toInt64.toUInt64).toInt64)).toInt32))) (fun h => by rw [Bd.returns] at h; cases h)
  refine ⟨_, _, pre0 _ ?_, hrun, hended, _, _, rfl, ?_, ⟨_, rfl⟩, hW, hsame.mono (by decide) (by decide)⟩
  · show Steps p.tables e below (s₁.setTop (mkF m 0 #[.val (.ref ob0)] [])) _
    refine XS.aloadN X0.here hx rfl (hb hby d16_0) rfl rfl ?_
    show Steps p.tables e below (s₁.setTop (mkF m 1 #[.val (.ref ob0)] [(.ref ob0)])) _
    refine st1 _ ?_
    show Steps p.tables e below (T1.setTop (mkF m 4 #[.val (.ref ob0)] [(.long q0)])) _
    refine st2 _ ?_
    show Steps p.tables e below (T2.setTop (mkF m 7 #[.val (.ref ob0)] [(.int ((q0 ^^^ ((q0.toUInt64 >>> ((32 : Int32) &&& 0x3f).toInt64.toUInt64).toInt64)).toInt32))])) _
    exact Jvm.RoadKit.retI X2 hx Bd.returns (hb hby d16_7) hr
  · exact ⟨rfl, N2, e2⟩
theorem pd120 : parseMethodDescriptor "()I" = some ⟨[], some .int⟩ := by decide +kernel
theorem d15_9 : decode jdk_69_method_1_code 9 = .ok (.invokevirtual 1, 3) := by decide +kernel
theorem own_nf {s : State} {args : Array Value} {y : MethodName} {n : Nat} (h : (Jvm.Cond.instantiable y.cls n).before args s = true) : NotFace s y := fun r0 h0 => by
  obtain ⟨c, k, e1, e2, -, e4, -, -⟩ := Cond.instantiable_spec h
  have hc : r0.cls = c := Option.some.inj ((findClass_of_methodNamed h0).symm.trans e1)
  exact ⟨k, by rw [hc]; exact e2, by revert e4; cases k.isInterface <;> simp⟩
theorem d15_12 : decode jdk_69_method_1_code 12 = .ok (.dup, 1) := by decide +kernel
theorem d15_13 : decode jdk_69_method_1_code 13 = .ok (.istore_n 1, 1) := by decide +kernel
theorem d15_14 : decode jdk_69_method_1_code 14 = .ok (.iload_n 1, 1) := by decide +kernel
theorem d15_15 : decode jdk_69_method_1_code 15 = .ok (.bipush 16, 2) := by decide +kernel
theorem d15_17 : decode jdk_69_method_1_code 17 = .ok (.iushr, 1) := by decide +kernel
theorem d15_18 : decode jdk_69_method_1_code 18 = .ok (.ixor, 1) := by decide +kernel
theorem d15_19 : decode jdk_69_method_1_code 19 = .ok (.ireturn, 1) := by decide +kernel
theorem ef131 (m : MethodId) (x0 : Addr) : entryFrame m #[(.ref x0)] 2 = mkF m 0 #[.val (.ref x0), .unset] [] := by first | (simp [entryFrame, mkF, argsToLocals, Value.category]; done) | rfl
def Q15_11 (Z : State) (ob0 : Addr) (q0 : Int64) (h0 : Heap) (n0 : Nat) (v : Option Value) (h : Heap) (L : List Loc) : Prop := v = some (.int (((q0 ^^^ ((q0.toUInt64 >>> ((32 : Int32) &&& 0x3f).toInt64.toUInt64).toInt64)).toInt32) ^^^ ((((q0 ^^^ ((q0.toUInt64 >>> ((32 : Int32) &&& 0x3f).toInt64.toUInt64).toInt64)).toInt32).toUInt32 >>> ((16 : Int32) &&& 31).toUInt32).toInt32))) ∧ Fr n0 L ∧ h = h0
set_option maxRecDepth 65536 in
set_option maxHeartbeats 40000000 in
theorem rm15_11 (l : Launch) (Z : State) (a0 : Array Value) (hw : ∀ d ∈ tables_1, d.before a0 Z = true) (ws : List Jvm.Cond) (ob0 : Addr) (q0 : Int64) (h0 : Heap) (n0 : Nat) (Z0 : n0 ≤ h0.size) (O0 : Old Z n0 h0) (PE_ob0 : Exa Z h0 ob0 "java/lang/Long") (PF_ob0_value : Fld Z h0 ob0 "java/lang/Long" "value" "J" (.long q0)) :
    MetFree l (⟨"java/util/HashMap", "hash", "(Ljava/lang/Object;)I"⟩ : MethodName) (head1 (Jvm.Cond.code (⟨"java/util/HashMap", "hash", "(Ljava/lang/Object;)I"⟩ : MethodName) jdk_69_method_1_code 2 (some .int) :: ws) ({ frames := 2, cells := 0, slots := 0, locals := 25 } : Room)) (fun a U => a = #[(.ref ob0)] ∧ Z.Warmed39 U.vm ∧ U.heap = h0) (fun _ _ _ _ _ => True) (fun _ U o U' => ∃ v L, o = .returned v ∧ Q15_11 Z  ob0 q0 h0 n0 v U'.heap L ∧ FrameEnd U o U' L ({ frames := 2, cells := 0, slots := 0, locals := 25 } : Room).cells ({ frames := 2, cells := 0, slots := 0, locals := 25 } : Room).slots) := by
  refine MetFree.of_bodySF (plainFor_of_name pn31) hisR ?_
  intro p e s m args below meth c s₁ Bd hml0 hP hK
  obtain ⟨rfl, hZ, hh⟩ := hP
  have hx := Bd.exec
  have hby := Bd.bytes
  have hml : c.maxLocals = 2 := hml0
  have hown : s.vm.findClass "java/util/HashMap" = some m.cls := findClass_of_methodNamed Bd.named
  have hnm := (name_of_methodNamed Bd.named Bd.method).1
  have X0 : Stand p l e ({ frames := 2, cells := 0, slots := 0, locals := 25 } : Room) s m #[(.ref ob0)] below meth c s₁ [] 0 0 := Stand.of_body Bd
  have e0 : s₁.heap = h0 := by rw [← hh, Bd.state]; rfl
  have N0 := Fr.nil n0
  have pre0 : ∀ t, Steps p.tables e below (s₁.setTop (mkF m 0 #[.val (.ref ob0), .unset] [])) t → Steps p.tables e below (s₁.setTop (entryFrame m #[(.ref ob0)] 2)) t := fun t k => castTop (ef131 m ob0) k
  obtain ⟨cq1, kq1, q1a, q1b, q1c⟩ := isOf hZ e0 PE_ob0
  obtain ⟨_, _, ⟨T1, L1, k1, n1⟩, -, X1, ⟨Lc1, hQ1, l1, y1, z1⟩, st1⟩ := X0.virtualBack hx (y := (⟨"java/lang/Object", "hashCode", "()I"⟩ : MethodName)) (z := (⟨"java/lang/Long", "hashCode", "()I"⟩ : MethodName)) hown (mvT hZ (hw _ (List.mem_of_getElem? (i := 95) rfl))) (mvT hZ (hw _ (List.mem_of_getElem? (i := 96) rfl))) (own_nf (args := #[]) (mvT hZ (hw _ (List.mem_of_getElem? (i := 82) rfl)))) (mvT hZ (hw _ (List.mem_of_getElem? (i := 98) rfl))) (mvT hZ (hw _ (List.mem_of_getElem? (i := 99) rfl))) (by decide) (backOf (W := 0) (rm16_10 l Z a0 hw []  ob0 q0 h0 n0 (own_n0 O0) O0 PE_ob0 PF_ob0_value) hZ (hw _ (List.mem_of_getElem? (i := 100) rfl)) (hw _ (List.mem_of_getElem? (i := 60) rfl)) (by decide) (by decide)) q1a q1c (g := (mkF m 9 #[.val (.ref ob0), .unset] [(.ref ob0)])) rfl (by rw [hml]; rfl) (Steps.refl _) (argsL := []) (rest := []) (lenOf pd120 rfl) rfl (by show 2 * 0 + _ ≤ _; exact Nat.le_of_eq rfl) (hb hby d15_9) (fun _ _ => ⟨rfl, e0, (by decide : 0 + 0 ≤ _), (by decide : 0 + 0 ≤ _)⟩)
  dsimp only [Pt.U, Pt.locs, Pt.cells, Pt.slots] at X1 l1 y1 z1 st1 hQ1
  subst l1 y1 z1
  obtain ⟨rfl, N1q, e1⟩ := hQ1
  have N1 := Fr.app N0 N1q
  obtain ⟨fs, hr, hrun, hended, hW, hsame⟩ := X1.leave (v := some (.int (((q0 ^^^ ((q0.toUInt64 >>> ((32 : Int32) &&& 0x3f).toInt64.toUInt64).toInt64)).toInt32) ^^^ ((((q0 ^^^ ((q0.toUInt64 >>> ((32 : Int32) &&& 0x3f).toInt64.toUInt64).toInt64)).toInt32).toUInt32 >>> ((16 : Int32) &&& 31).toUInt32).toInt32)))) (fun h => by rw [Bd.returns] at h; cases h)
  refine ⟨_, _, pre0 _ ?_, hrun, hended, _, _, rfl, ?_, ⟨_, rfl⟩, hW, hsame.mono (by decide) (by decide)⟩
  · show Steps p.tables e below (s₁.setTop (mkF m 0 #[.val (.ref ob0), .unset] [])) _
    refine XS.aloadN X0.here hx rfl (hb hby d15_0) rfl rfl ?_
    show Steps p.tables e below (s₁.setTop (mkF m 1 #[.val (.ref ob0), .unset] [(.ref ob0)])) _
    refine XS.ifnonnullYes X0.here hx rfl (pc0 := 1) (pc' := 8) rfl (hb hby d15_1) rfl (by decide) (by decide) ?_
    show Steps p.tables e below (s₁.setTop (mkF m 8 #[.val (.ref ob0), .unset] [])) _
    refine XS.aloadN X0.here hx rfl (hb hby d15_8) rfl rfl ?_
    show Steps p.tables e below (s₁.setTop (mkF m 9 #[.val (.ref ob0), .unset] [(.ref ob0)])) _
    refine st1.trans ?_
    show Steps p.tables e below (T1.setTop (mkF m 12 #[.val (.ref ob0), .unset] [(.int ((q0 ^^^ ((q0.toUInt64 >>> ((32 : Int32) &&& 0x3f).toInt64.toUInt64).toInt64)).toInt32))])) _
    refine XS.dup X1.here hx rfl (hb hby d15_12) rfl rfl ?_
    show Steps p.tables e below (T1.setTop (mkF m 13 #[.val (.ref ob0), .unset] [(.int ((q0 ^^^ ((q0.toUInt64 >>> ((32 : Int32) &&& 0x3f).toInt64.toUInt64).toInt64)).toInt32)), (.int ((q0 ^^^ ((q0.toUInt64 >>> ((32 : Int32) &&& 0x3f).toInt64.toUInt64).toInt64)).toInt32))])) _
    refine XS.istoreN X1.here hx rfl (hb hby d15_13) rfl (l' := #[.val (.ref ob0), .val (.int ((q0 ^^^ ((q0.toUInt64 >>> ((32 : Int32) &&& 0x3f).toInt64.toUInt64).toInt64)).toInt32))]) rfl ?_
    show Steps p.tables e below (T1.setTop (mkF m 14 #[.val (.ref ob0), .val (.int ((q0 ^^^ ((q0.toUInt64 >>> ((32 : Int32) &&& 0x3f).toInt64.toUInt64).toInt64)).toInt32))] [(.int ((q0 ^^^ ((q0.toUInt64 >>> ((32 : Int32) &&& 0x3f).toInt64.toUInt64).toInt64)).toInt32))])) _
    refine XS.iloadN X1.here hx rfl (hb hby d15_14) rfl ?_
    show Steps p.tables e below (T1.setTop (mkF m 15 #[.val (.ref ob0), .val (.int ((q0 ^^^ ((q0.toUInt64 >>> ((32 : Int32) &&& 0x3f).toInt64.toUInt64).toInt64)).toInt32))] [(.int ((q0 ^^^ ((q0.toUInt64 >>> ((32 : Int32) &&& 0x3f).toInt64.toUInt64).toInt64)).toInt32)), (.int ((q0 ^^^ ((q0.toUInt64 >>> ((32 : Int32) &&& 0x3f).toInt64.toUInt64).toInt64)).toInt32))])) _
    refine XS.bipush X1.here hx rfl (hb hby d15_15) ?_
    show Steps p.tables e below (T1.setTop (mkF m 17 #[.val (.ref ob0), .val (.int ((q0 ^^^ ((q0.toUInt64 >>> ((32 : Int32) &&& 0x3f).toInt64.toUInt64).toInt64)).toInt32))] [(.int (16 : Int32)), (.int ((q0 ^^^ ((q0.toUInt64 >>> ((32 : Int32) &&& 0x3f).toInt64.toUInt64).toInt64)).toInt32)), (.int ((q0 ^^^ ((q0.toUInt64 >>> ((32 : Int32) &&& 0x3f).toInt64.toUInt64).toInt64)).toInt32))])) _
    refine XS.iushr X1.here hx rfl (hb hby d15_17) rfl ?_
    show Steps p.tables e below (T1.setTop (mkF m 18 #[.val (.ref ob0), .val (.int ((q0 ^^^ ((q0.toUInt64 >>> ((32 : Int32) &&& 0x3f).toInt64.toUInt64).toInt64)).toInt32))] [(.int ((((q0 ^^^ ((q0.toUInt64 >>> ((32 : Int32) &&& 0x3f).toInt64.toUInt64).toInt64)).toInt32).toUInt32 >>> ((16 : Int32) &&& 31).toUInt32).toInt32)), (.int ((q0 ^^^ ((q0.toUInt64 >>> ((32 : Int32) &&& 0x3f).toInt64.toUInt64).toInt64)).toInt32))])) _
    refine XS.ixor X1.here hx rfl (hb hby d15_18) rfl ?_
    show Steps p.tables e below (T1.setTop (mkF m 19 #[.val (.ref ob0), .val (.int ((q0 ^^^ ((q0.toUInt64 >>> ((32 : Int32) &&& 0x3f).toInt64.toUInt64).toInt64)).toInt32))] [(.int (((q0 ^^^ ((q0.toUInt64 >>> ((32 : Int32) &&& 0x3f).toInt64.toUInt64).toInt64)).toInt32) ^^^ ((((q0 ^^^ ((q0.toUInt64 >>> ((32 : Int32) &&& 0x3f).toInt64.toUInt64).toInt64)).toInt32).toUInt32 >>> ((16 : Int32) &&& 31).toUInt32).toInt32)))])) _
    exact Jvm.RoadKit.retI X1 hx Bd.returns (hb hby d15_19) hr
  · exact ⟨rfl, N1, e1⟩
theorem pd132 : parseMethodDescriptor "(Ljava/lang/Object;)I" = some ⟨[(.object "java/lang/Object")], some .int⟩ := by decide +kernel
theorem d14_13 : decode jdk_69_method_35_code 13 = .ok (.invokestatic 149, 3) := by decide +kernel
theorem d14_16 : decode jdk_69_method_35_code 16 = .ok (.istore_n 3, 1) := by decide +kernel
theorem d14_17 : decode jdk_69_method_35_code 17 = .ok (.iconst 0, 1) := by decide +kernel
theorem d14_18 : decode jdk_69_method_35_code 18 = .ok (.istore 8, 2) := by decide +kernel
theorem d14_20 : decode jdk_69_method_35_code 20 = .ok (.aconst_null, 1) := by decide +kernel
theorem d14_21 : decode jdk_69_method_35_code 21 = .ok (.astore 9, 2) := by decide +kernel
theorem d14_23 : decode jdk_69_method_35_code 23 = .ok (.aconst_null, 1) := by decide +kernel
theorem d14_24 : decode jdk_69_method_35_code 24 = .ok (.astore 10, 2) := by decide +kernel
theorem d14_26 : decode jdk_69_method_35_code 26 = .ok (.aload_n 0, 1) := by decide +kernel
theorem d14_27 : decode jdk_69_method_35_code 27 = .ok (.getfield 156, 3) := by decide +kernel
theorem d14_30 : decode jdk_69_method_35_code 30 = .ok (.aload_n 0, 1) := by decide +kernel
theorem d14_31 : decode jdk_69_method_35_code 31 = .ok (.getfield 88, 3) := by decide +kernel
theorem d14_34 : decode jdk_69_method_35_code 34 = .ok (.if_icmp .gt 22, 3) := by decide +kernel
theorem d14_37 : decode jdk_69_method_35_code 37 = .ok (.aload_n 0, 1) := by decide +kernel
theorem d14_38 : decode jdk_69_method_35_code 38 = .ok (.getfield 105, 3) := by decide +kernel
theorem d14_41 : decode jdk_69_method_35_code 41 = .ok (.dup, 1) := by decide +kernel
theorem d14_42 : decode jdk_69_method_35_code 42 = .ok (.astore 4, 2) := by decide +kernel
theorem d14_44 : decode jdk_69_method_35_code 44 = .ok (.ifnull 12, 3) := by decide +kernel
theorem d14_56 : decode jdk_69_method_35_code 56 = .ok (.aload_n 0, 1) := by decide +kernel
theorem d18_0 : decode jdk_69_method_17_code 0 = .ok (.aload_n 0, 1) := by decide +kernel
theorem d18_1 : decode jdk_69_method_17_code 1 = .ok (.getfield 105, 3) := by decide +kernel
theorem d18_4 : decode jdk_69_method_17_code 4 = .ok (.astore_n 1, 1) := by decide +kernel
theorem d18_5 : decode jdk_69_method_17_code 5 = .ok (.aload_n 1, 1) := by decide +kernel
theorem d18_6 : decode jdk_69_method_17_code 6 = .ok (.ifnonnull 7, 3) := by decide +kernel
theorem d18_9 : decode jdk_69_method_17_code 9 = .ok (.iconst 0, 1) := by decide +kernel
theorem d18_10 : decode jdk_69_method_17_code 10 = .ok (.goto 5, 3) := by decide +kernel
theorem d18_15 : decode jdk_69_method_17_code 15 = .ok (.istore_n 2, 1) := by decide +kernel
theorem d18_16 : decode jdk_69_method_17_code 16 = .ok (.aload_n 0, 1) := by decide +kernel
theorem d18_17 : decode jdk_69_method_17_code 17 = .ok (.getfield 88, 3) := by decide +kernel
theorem d18_20 : decode jdk_69_method_17_code 20 = .ok (.istore_n 3, 1) := by decide +kernel
theorem d18_21 : decode jdk_69_method_17_code 21 = .ok (.iconst 0, 1) := by decide +kernel
theorem d18_22 : decode jdk_69_method_17_code 22 = .ok (.istore 5, 2) := by decide +kernel
theorem d18_24 : decode jdk_69_method_17_code 24 = .ok (.iload_n 2, 1) := by decide +kernel
theorem d18_25 : decode jdk_69_method_17_code 25 = .ok (.ifCond .le 42, 3) := by decide +kernel
theorem d18_67 : decode jdk_69_method_17_code 67 = .ok (.iload_n 3, 1) := by decide +kernel
theorem d18_68 : decode jdk_69_method_17_code 68 = .ok (.ifCond .le 9, 3) := by decide +kernel
theorem d18_77 : decode jdk_69_method_17_code 77 = .ok (.bipush 16, 2) := by decide +kernel
theorem d18_79 : decode jdk_69_method_17_code 79 = .ok (.istore 4, 2) := by decide +kernel
theorem d18_81 : decode jdk_69_method_17_code 81 = .ok (.bipush 12, 2) := by decide +kernel
theorem d18_83 : decode jdk_69_method_17_code 83 = .ok (.istore 5, 2) := by decide +kernel
theorem d18_85 : decode jdk_69_method_17_code 85 = .ok (.iload 5, 2) := by decide +kernel
theorem d18_87 : decode jdk_69_method_17_code 87 = .ok (.ifCond .ne 38, 3) := by decide +kernel
theorem d18_125 : decode jdk_69_method_17_code 125 = .ok (.aload_n 0, 1) := by decide +kernel
theorem d18_126 : decode jdk_69_method_17_code 126 = .ok (.iload 5, 2) := by decide +kernel
theorem d18_128 : decode jdk_69_method_17_code 128 = .ok (.putfield 88, 3) := by decide +kernel
theorem d18_131 : decode jdk_69_method_17_code 131 = .ok (.iload 4, 2) := by decide +kernel
theorem d18_133 : decode jdk_69_method_17_code 133 = .ok (.anewarray 163, 3) := by decide +kernel
theorem d18_136 : decode jdk_69_method_17_code 136 = .ok (.astore 6, 2) := by decide +kernel
theorem d18_138 : decode jdk_69_method_17_code 138 = .ok (.aload_n 0, 1) := by decide +kernel
theorem d18_139 : decode jdk_69_method_17_code 139 = .ok (.aload 6, 2) := by decide +kernel
theorem d18_141 : decode jdk_69_method_17_code 141 = .ok (.putfield 105, 3) := by decide +kernel
theorem d18_144 : decode jdk_69_method_17_code 144 = .ok (.aload_n 1, 1) := by decide +kernel
theorem d18_145 : decode jdk_69_method_17_code 145 = .ok (.ifnull 208, 3) := by decide +kernel
theorem d18_353 : decode jdk_69_method_17_code 353 = .ok (.aload 6, 2) := by decide +kernel
theorem d18_355 : decode jdk_69_method_17_code 355 = .ok (.areturn, 1) := by decide +kernel
theorem ef189 (m : MethodId) (x0 : Addr) : entryFrame m #[(.ref x0)] 14 = mkF m 0 #[.val (.ref x0), .unset, .unset, .unset, .unset, .unset, .unset, .unset, .unset, .unset, .unset, .unset, .unset, .unset] [] := by first | (simp [entryFrame, mkF, argsToLocals, Value.category]; done) | rfl
def Q18_12 (Z : State) (ob0 : Addr) (h0 : Heap) (n0 : Nat) (v : Option Value) (h : Heap) (L : List Loc) : Prop := ∃ b4 : Addr, ∃ kk_b4 : ClassId, v = some (.ref b4) ∧ Fr n0 L ∧ Keep h0 h [ob0] ∧ Old Z n0 h ∧ h0.size ≤ b4 ∧ Exa Z h ob0 "java/util/HashMap" ∧ Fld Z h ob0 "java/util/HashMap" "size" "I" (.int (0 : Int32)) ∧ Fld Z h ob0 "java/util/HashMap" "threshold" "I" (.int (12 : Int32)) ∧ Fld Z h ob0 "java/util/HashMap" "table" "[Ljava/util/HashMap$Node;" (.ref b4) ∧ Fld Z h ob0 "java/util/HashMap" "modCount" "I" (.int (0 : Int32)) ∧ Arv Z h b4 kk_b4 (.object "java/util/HashMap$Node") (16 : Int32) [.null, .null, .null, .null, .null, .null, .null, .null, .null, .null, .null, .null, .null, .null, .null, .null] .null ∧ Exa Z h b4 "[Ljava/util/HashMap$Node;" ∧ Ovr Z kk_b4 "java/util/HashMap$Node" ∧ True
set_option maxRecDepth 65536 in
set_option maxHeartbeats 40000000 in
theorem rm18_12 (l : Launch) (Z : State) (a0 : Array Value) (hw : ∀ d ∈ tables_1, d.before a0 Z = true) (ws : List Jvm.Cond) (ob0 : Addr) (h0 : Heap) (n0 : Nat) (Z0 : n0 ≤ h0.size) (O0 : Old Z n0 h0) (PE_ob0 : Exa Z h0 ob0 "java/util/HashMap") (PF_ob0_size : Fld Z h0 ob0 "java/util/HashMap" "size" "I" (.int (0 : Int32))) (PF_ob0_threshold : Fld Z h0 ob0 "java/util/HashMap" "threshold" "I" (.int (0 : Int32))) (PF_ob0_table : Fld Z h0 ob0 "java/util/HashMap" "table" "[Ljava/util/HashMap$Node;" .null) (PF_ob0_modCount : Fld Z h0 ob0 "java/util/HashMap" "modCount" "I" (.int (0 : Int32))) (g_ob0 : n0 ≤ ob0) :
    MetFree l (⟨"java/util/HashMap", "resize", "()[Ljava/util/HashMap$Node;"⟩ : MethodName) (head1 (Jvm.Cond.code (⟨"java/util/HashMap", "resize", "()[Ljava/util/HashMap$Node;"⟩ : MethodName) jdk_69_method_17_code 14 (some (.array (.object "java/util/HashMap$Node"))) :: ws) ({ frames := 0, cells := 1, slots := 16, locals := 0 } : Room)) (fun a U => a = #[(.ref ob0)] ∧ Z.Warmed39 U.vm ∧ U.heap = h0) (fun _ _ _ _ _ => True) (fun _ U o U' => ∃ v L, o = .returned v ∧ Q18_12 Z  ob0 h0 n0 v U'.heap L ∧ FrameEnd U o U' L ({ frames := 0, cells := 1, slots := 16, locals := 0 } : Room).cells ({ frames := 0, cells := 1, slots := 16, locals := 0 } : Room).slots) := by
  refine MetFree.of_bodySF (plainFor_of_name pn31) hisR ?_
  intro p e s m args below meth c s₁ Bd hml0 hP hK
  obtain ⟨rfl, hZ, hh⟩ := hP
  have hx := Bd.exec
  have hby := Bd.bytes
  have hml : c.maxLocals = 14 := hml0
  have hown : s.vm.findClass "java/util/HashMap" = some m.cls := findClass_of_methodNamed Bd.named
  have hnm := (name_of_methodNamed Bd.named Bd.method).1
  have X0 : Stand p l e ({ frames := 0, cells := 1, slots := 16, locals := 0 } : Room) s m #[(.ref ob0)] below meth c s₁ [] 0 0 := Stand.of_body Bd
  have e0 : s₁.heap = h0 := by rw [← hh, Bd.state]; rfl
  have N0 := Fr.nil n0
  have pre0 : ∀ t, Steps p.tables e below (s₁.setTop (mkF m 0 #[.val (.ref ob0), .unset, .unset, .unset, .unset, .unset, .unset, .unset, .unset, .unset, .unset, .unset, .unset, .unset] [])) t → Steps p.tables e below (s₁.setTop (entryFrame m #[(.ref ob0)] 14)) t := fun t k => castTop (ef189 m ob0) k
  obtain ⟨T1, X1, e1, st1⟩ := getF X0 hx hZ hown (host := "") (Or.inl (hw _ (List.mem_of_getElem? (i := 108) rfl))) Via.refl e0 PF_ob0_table (g := (mkF m 1 #[.val (.ref ob0), .unset, .unset, .unset, .unset, .unset, .unset, .unset, .unset, .unset, .unset, .unset, .unset, .unset] [(.ref ob0)])) rfl rfl (hb hby d18_1)
  obtain ⟨T2, X2, e2, st2⟩ := getF X1 hx hZ hown (host := "") (Or.inl (hw _ (List.mem_of_getElem? (i := 106) rfl))) Via.refl e1 PF_ob0_threshold (g := (mkF m 17 #[.val (.ref ob0), .val .null, .val (.int (0 : Int32)), .unset, .unset, .unset, .unset, .unset, .unset, .unset, .unset, .unset, .unset, .unset] [(.ref ob0)])) rfl rfl (hb hby d18_17)
  obtain ⟨T3, h3, X3, e3, W3, st3⟩ := putF X2 hx hZ hown (host := "") (Or.inl (hw _ (List.mem_of_getElem? (i := 106) rfl))) Via.refl e2 PF_ob0_threshold PE_ob0 (Or.inl (hw _ (List.mem_of_getElem? (i := 107) rfl))) (hw _ (List.mem_of_getElem? (i := 17) rfl)) (ty := .int) (by decide) rfl rfl (g := (mkF m 128 #[.val (.ref ob0), .val .null, .val (.int (0 : Int32)), .val (.int (0 : Int32)), .val (.int (16 : Int32)), .val (.int (12 : Int32)), .unset, .unset, .unset, .unset, .unset, .unset, .unset, .unset] [(.int (12 : Int32)), (.ref ob0)])) rfl rfl (hb hby d18_128)
  have Fw3 := PF_ob0_threshold.same W3
  have N3 := Fr.snoc X3 N0 g_ob0
  have O3 := O0.wr W3 g_ob0
  have KK3 : Keep h0 h3 [ob0] := (Keep.refl h0 [ob0]).wr W3 (Or.inl (List.mem_of_getElem? (i := 0) rfl))
  obtain ⟨T4, h4, k4, X4, e4, E4, A4, B4, OV4, st4⟩ := newRE X3 hx hZ hown (C := "java/util/HashMap$Node") (hw _ (List.mem_of_getElem? (i := 115) rfl)) (hw _ (List.mem_of_getElem? (i := 116) rfl)) e3 (g := (mkF m 133 #[.val (.ref ob0), .val .null, .val (.int (0 : Int32)), .val (.int (0 : Int32)), .val (.int (16 : Int32)), .val (.int (12 : Int32)), .unset, .unset, .unset, .unset, .unset, .unset, .unset, .unset] [(.int (16 : Int32))])) rfl (hb hby d18_133) rfl (by decide) (cap := 16) (by decide) (by decide) (by decide) (by decide) (ad := "[Ljava/util/HashMap$Node;") (by decide)
  obtain ⟨b4, gg4⟩ : ∃ z, z = h3.size := ⟨_, rfl⟩
  rw [← gg4] at A4 B4 st4
  have bo_b4 : h3.size ≤ b4 := Nat.le_of_eq gg4.symm
  have g_b4 : n0 ≤ b4 := Nat.le_trans (own_n0 O3) bo_b4
  have sz_b4 : h0.size ≤ b4 := Nat.le_trans KK3.1 bo_b4
  have V_b4 : Arv Z h4 b4 k4 (.object "java/util/HashMap$Node") (16 : Int32) [.null, .null, .null, .null, .null, .null, .null, .null, .null, .null, .null, .null, .null, .null, .null, .null] .null := (Arv.new A4 (by decide)).pad (pad_rep [] .null 16)
  have lb_b4 : b4 < h4.size := A4.lt
  have KK4 : Keep h0 h4 [ob0] := KK3.ext E4
  have O4 := O3.ext E4
  obtain ⟨T5, h5, X5, e5, W5, st5⟩ := putF X4 hx hZ hown (host := "") (Or.inl (hw _ (List.mem_of_getElem? (i := 108) rfl))) Via.refl e4 ((PF_ob0_table.other W3 (Or.inr (slot_ne (Or.inl (hw _ (List.mem_of_getElem? (i := 109) rfl))) (Or.inl (hw _ (List.mem_of_getElem? (i := 107) rfl))) (by decide) (t := (.array (.object "java/util/HashMap$Node"))) (t' := .int) (by decide) (by decide)))).ext E4) ((PE_ob0.wr W3).ext E4) (Or.inl (hw _ (List.mem_of_getElem? (i := 109) rfl))) (hw _ (List.mem_of_getElem? (i := 17) rfl)) (ty := (.array (.object "java/util/HashMap$Node"))) (by decide) rfl rfl (g := (mkF m 141 #[.val (.ref ob0), .val .null, .val (.int (0 : Int32)), .val (.int (0 : Int32)), .val (.int (16 : Int32)), .val (.int (12 : Int32)), .val (.ref b4), .unset, .unset, .unset, .unset, .unset, .unset, .unset] [(.ref b4), (.ref ob0)])) rfl rfl (hb hby d18_141)
  have Fw5 := ((PF_ob0_table.other W3 (Or.inr (slot_ne (Or.inl (hw _ (List.mem_of_getElem? (i := 109) rfl))) (Or.inl (hw _ (List.mem_of_getElem? (i := 107) rfl))) (by decide) (t := (.array (.object "java/util/HashMap$Node"))) (t' := .int) (by decide) (by decide)))).ext E4).same W5
  have N5 := Fr.snoc X5 N3 g_ob0
  have O5 := O4.wr W5 g_ob0
  have KK5 : Keep h0 h5 [ob0] := KK4.wr W5 (Or.inl (List.mem_of_getElem? (i := 0) rfl))
  have J6 := (((PE_ob0.wr W3).ext E4).wr W5)
  have J7 := (((PF_ob0_size.other W3 (Or.inr (slot_ne (Or.inl (hw _ (List.mem_of_getElem? (i := 105) rfl))) (Or.inl (hw _ (List.mem_of_getElem? (i := 107) rfl))) (by decide) (t := .int) (t' := .int) (by decide) (by decide)))).ext E4).other W5 (Or.inr (slot_ne (Or.inl (hw _ (List.mem_of_getElem? (i := 105) rfl))) (Or.inl (hw _ (List.mem_of_getElem? (i := 109) rfl))) (by decide) (t := .int) (t' := (.array (.object "java/util/HashMap$Node"))) (by decide) (by decide))))
  have J8 := (((PF_ob0_modCount.other W3 (Or.inr (slot_ne (Or.inl (hw _ (List.mem_of_getElem? (i := 118) rfl))) (Or.inl (hw _ (List.mem_of_getElem? (i := 107) rfl))) (by decide) (t := .int) (t' := .int) (by decide) (by decide)))).ext E4).other W5 (Or.inr (slot_ne (Or.inl (hw _ (List.mem_of_getElem? (i := 118) rfl))) (Or.inl (hw _ (List.mem_of_getElem? (i := 109) rfl))) (by decide) (t := .int) (t' := (.array (.object "java/util/HashMap$Node"))) (by decide) (by decide))))
  obtain ⟨fs, hr, hrun, hended, hW, hsame⟩ := X5.leave (v := some (.ref b4)) (fun h => by rw [Bd.returns] at h; cases h)
  refine ⟨_, _, pre0 _ ?_, hrun, hended, _, _, rfl, ?_, ⟨_, rfl⟩, hW, hsame.mono (by decide) (by decide)⟩
  · show Steps p.tables e below (s₁.setTop (mkF m 0 #[.val (.ref ob0), .unset, .unset, .unset, .unset, .unset, .unset, .unset, .unset, .unset, .unset, .unset, .unset, .unset] [])) _
    refine XS.aloadN X0.here hx rfl (hb hby d18_0) rfl rfl ?_
    show Steps p.tables e below (s₁.setTop (mkF m 1 #[.val (.ref ob0), .unset, .unset, .unset, .unset, .unset, .unset, .unset, .unset, .unset, .unset, .unset, .unset, .unset] [(.ref ob0)])) _
    refine st1 _ ?_
    show Steps p.tables e below (T1.setTop (mkF m 4 #[.val (.ref ob0), .unset, .unset, .unset, .unset, .unset, .unset, .unset, .unset, .unset, .unset, .unset, .unset, .unset] [.null])) _
    refine XS.astoreN X1.here hx rfl (hb hby d18_4) rfl rfl (l' := #[.val (.ref ob0), .val .null, .unset, .unset, .unset, .unset, .unset, .unset, .unset, .unset, .unset, .unset, .unset, .unset]) rfl ?_
    show Steps p.tables e below (T1.setTop (mkF m 5 #[.val (.ref ob0), .val .null, .unset, .unset, .unset, .unset, .unset, .unset, .unset, .unset, .unset, .unset, .unset, .unset] [])) _
    refine XS.aloadN X1.here hx rfl (hb hby d18_5) rfl rfl ?_
    show Steps p.tables e below (T1.setTop (mkF m 6 #[.val (.ref ob0), .val .null, .unset, .unset, .unset, .unset, .unset, .unset, .unset, .unset, .unset, .unset, .unset, .unset] [.null])) _
    refine XS.ifnonnullNo X1.here hx rfl (hb hby d18_6) rfl ?_
    show Steps p.tables e below (T1.setTop (mkF m 9 #[.val (.ref ob0), .val .null, .unset, .unset, .unset, .unset, .unset, .unset, .unset, .unset, .unset, .unset, .unset, .unset] [])) _
    refine XS.iconst X1.here hx rfl (hb hby d18_9) ?_
    show Steps p.tables e below (T1.setTop (mkF m 10 #[.val (.ref ob0), .val .null, .unset, .unset, .unset, .unset, .unset, .unset, .unset, .unset, .unset, .unset, .unset, .unset] [(.int (0 : Int32))])) _
    refine XS.goto X1.here hx rfl (pc0 := 10) (pc' := 15) rfl (hb hby d18_10) (by decide) (by decide) ?_
    show Steps p.tables e below (T1.setTop (mkF m 15 #[.val (.ref ob0), .val .null, .unset, .unset, .unset, .unset, .unset, .unset, .unset, .unset, .unset, .unset, .unset, .unset] [(.int (0 : Int32))])) _
    refine XS.istoreN X1.here hx rfl (hb hby d18_15) rfl (l' := #[.val (.ref ob0), .val .null, .val (.int (0 : Int32)), .unset, .unset, .unset, .unset, .unset, .unset, .unset, .unset, .unset, .unset, .unset]) rfl ?_
    show Steps p.tables e below (T1.setTop (mkF m 16 #[.val (.ref ob0), .val .null, .val (.int (0 : Int32)), .unset, .unset, .unset, .unset, .unset, .unset, .unset, .unset, .unset, .unset, .unset] [])) _
    refine XS.aloadN X1.here hx rfl (hb hby d18_16) rfl rfl ?_
    show Steps p.tables e below (T1.setTop (mkF m 17 #[.val (.ref ob0), .val .null, .val (.int (0 : Int32)), .unset, .unset, .unset, .unset, .unset, .unset, .unset, .unset, .unset, .unset, .unset] [(.ref ob0)])) _
    refine st2 _ ?_
    show Steps p.tables e below (T2.setTop (mkF m 20 #[.val (.ref ob0), .val .null, .val (.int (0 : Int32)), .unset, .unset, .unset, .unset, .unset, .unset, .unset, .unset, .unset, .unset, .unset] [(.int (0 : Int32))])) _
    refine XS.istoreN X2.here hx rfl (hb hby d18_20) rfl (l' := #[.val (.ref ob0), .val .null, .val (.int (0 : Int32)), .val (.int (0 : Int32)), .unset, .unset, .unset, .unset, .unset, .unset, .unset, .unset, .unset, .unset]) rfl ?_
    show Steps p.tables e below (T2.setTop (mkF m 21 #[.val (.ref ob0), .val .null, .val (.int (0 : Int32)), .val (.int (0 : Int32)), .unset, .unset, .unset, .unset, .unset, .unset, .unset, .unset, .unset, .unset] [])) _
    refine XS.iconst X2.here hx rfl (hb hby d18_21) ?_
    show Steps p.tables e below (T2.setTop (mkF m 22 #[.val (.ref ob0), .val .null, .val (.int (0 : Int32)), .val (.int (0 : Int32)), .unset, .unset, .unset, .unset, .unset, .unset, .unset, .unset, .unset, .unset] [(.int (0 : Int32))])) _
    refine XS.istore X2.here hx rfl (hb hby d18_22) rfl (l' := #[.val (.ref ob0), .val .null, .val (.int (0 : Int32)), .val (.int (0 : Int32)), .unset, .val (.int (0 : Int32)), .unset, .unset, .unset, .unset, .unset, .unset, .unset, .unset]) rfl ?_
    show Steps p.tables e below (T2.setTop (mkF m 24 #[.val (.ref ob0), .val .null, .val (.int (0 : Int32)), .val (.int (0 : Int32)), .unset, .val (.int (0 : Int32)), .unset, .unset, .unset, .unset, .unset, .unset, .unset, .unset] [])) _
    refine XS.iloadN X2.here hx rfl (hb hby d18_24) rfl ?_
    show Steps p.tables e below (T2.setTop (mkF m 25 #[.val (.ref ob0), .val .null, .val (.int (0 : Int32)), .val (.int (0 : Int32)), .unset, .val (.int (0 : Int32)), .unset, .unset, .unset, .unset, .unset, .unset, .unset, .unset] [(.int (0 : Int32))])) _
    refine XS.ifYes X2.here hx rfl (pc0 := 25) (pc' := 67) rfl (hb hby d18_25) rfl ((if0 _ _).trans (flt (by decide : ¬ ((0 : Int32) < (0 : Int32)))).2.2.2) (by decide) (by decide) ?_
    show Steps p.tables e below (T2.setTop (mkF m 67 #[.val (.ref ob0), .val .null, .val (.int (0 : Int32)), .val (.int (0 : Int32)), .unset, .val (.int (0 : Int32)), .unset, .unset, .unset, .unset, .unset, .unset, .unset, .unset] [])) _
    refine XS.iloadN X2.here hx rfl (hb hby d18_67) rfl ?_
    show Steps p.tables e below (T2.setTop (mkF m 68 #[.val (.ref ob0), .val .null, .val (.int (0 : Int32)), .val (.int (0 : Int32)), .unset, .val (.int (0 : Int32)), .unset, .unset, .unset, .unset, .unset, .unset, .unset, .unset] [(.int (0 : Int32))])) _
    refine XS.ifYes X2.here hx rfl (pc0 := 68) (pc' := 77) rfl (hb hby d18_68) rfl ((if0 _ _).trans (flt (by decide : ¬ ((0 : Int32) < (0 : Int32)))).2.2.2) (by decide) (by decide) ?_
    show Steps p.tables e below (T2.setTop (mkF m 77 #[.val (.ref ob0), .val .null, .val (.int (0 : Int32)), .val (.int (0 : Int32)), .unset, .val (.int (0 : Int32)), .unset, .unset, .unset, .unset, .unset, .unset, .unset, .unset] [])) _
    refine XS.bipush X2.here hx rfl (hb hby d18_77) ?_
    show Steps p.tables e below (T2.setTop (mkF m 79 #[.val (.ref ob0), .val .null, .val (.int (0 : Int32)), .val (.int (0 : Int32)), .unset, .val (.int (0 : Int32)), .unset, .unset, .unset, .unset, .unset, .unset, .unset, .unset] [(.int (16 : Int32))])) _
    refine XS.istore X2.here hx rfl (hb hby d18_79) rfl (l' := #[.val (.ref ob0), .val .null, .val (.int (0 : Int32)), .val (.int (0 : Int32)), .val (.int (16 : Int32)), .val (.int (0 : Int32)), .unset, .unset, .unset, .unset, .unset, .unset, .unset, .unset]) rfl ?_
    show Steps p.tables e below (T2.setTop (mkF m 81 #[.val (.ref ob0), .val .null, .val (.int (0 : Int32)), .val (.int (0 : Int32)), .val (.int (16 : Int32)), .val (.int (0 : Int32)), .unset, .unset, .unset, .unset, .unset, .unset, .unset, .unset] [])) _
    refine XS.bipush X2.here hx rfl (hb hby d18_81) ?_
    show Steps p.tables e below (T2.setTop (mkF m 83 #[.val (.ref ob0), .val .null, .val (.int (0 : Int32)), .val (.int (0 : Int32)), .val (.int (16 : Int32)), .val (.int (0 : Int32)), .unset, .unset, .unset, .unset, .unset, .unset, .unset, .unset] [(.int (12 : Int32))])) _
    refine XS.istore X2.here hx rfl (hb hby d18_83) rfl (l' := #[.val (.ref ob0), .val .null, .val (.int (0 : Int32)), .val (.int (0 : Int32)), .val (.int (16 : Int32)), .val (.int (12 : Int32)), .unset, .unset, .unset, .unset, .unset, .unset, .unset, .unset]) rfl ?_
    show Steps p.tables e below (T2.setTop (mkF m 85 #[.val (.ref ob0), .val .null, .val (.int (0 : Int32)), .val (.int (0 : Int32)), .val (.int (16 : Int32)), .val (.int (12 : Int32)), .unset, .unset, .unset, .unset, .unset, .unset, .unset, .unset] [])) _
    refine XS.iload X2.here hx rfl (hb hby d18_85) rfl ?_
    show Steps p.tables e below (T2.setTop (mkF m 87 #[.val (.ref ob0), .val .null, .val (.int (0 : Int32)), .val (.int (0 : Int32)), .val (.int (16 : Int32)), .val (.int (12 : Int32)), .unset, .unset, .unset, .unset, .unset, .unset, .unset, .unset] [(.int (12 : Int32))])) _
    refine XS.ifYes X2.here hx rfl (pc0 := 87) (pc' := 125) rfl (hb hby d18_87) rfl ((if0 _ _).trans (feq (by decide : ¬ ((12 : Int32) = (0 : Int32)))).2) (by decide) (by decide) ?_
    show Steps p.tables e below (T2.setTop (mkF m 125 #[.val (.ref ob0), .val .null, .val (.int (0 : Int32)), .val (.int (0 : Int32)), .val (.int (16 : Int32)), .val (.int (12 : Int32)), .unset, .unset, .unset, .unset, .unset, .unset, .unset, .unset] [])) _
    refine XS.aloadN X2.here hx rfl (hb hby d18_125) rfl rfl ?_
    show Steps p.tables e below (T2.setTop (mkF m 126 #[.val (.ref ob0), .val .null, .val (.int (0 : Int32)), .val (.int (0 : Int32)), .val (.int (16 : Int32)), .val (.int (12 : Int32)), .unset, .unset, .unset, .unset, .unset, .unset, .unset, .unset] [(.ref ob0)])) _
    refine XS.iload X2.here hx rfl (hb hby d18_126) rfl ?_
    show Steps p.tables e below (T2.setTop (mkF m 128 #[.val (.ref ob0), .val .null, .val (.int (0 : Int32)), .val (.int (0 : Int32)), .val (.int (16 : Int32)), .val (.int (12 : Int32)), .unset, .unset, .unset, .unset, .unset, .unset, .unset, .unset] [(.int (12 : Int32)), (.ref ob0)])) _
    refine st3 _ ?_
    show Steps p.tables e below (T3.setTop (mkF m 131 #[.val (.ref ob0), .val .null, .val (.int (0 : Int32)), .val (.int (0 : Int32)), .val (.int (16 : Int32)), .val (.int (12 : Int32)), .unset, .unset, .unset, .unset, .unset, .unset, .unset, .unset] [])) _
    refine XS.iload X3.here hx rfl (hb hby d18_131) rfl ?_
    show Steps p.tables e below (T3.setTop (mkF m 133 #[.val (.ref ob0), .val .null, .val (.int (0 : Int32)), .val (.int (0 : Int32)), .val (.int (16 : Int32)), .val (.int (12 : Int32)), .unset, .unset, .unset, .unset, .unset, .unset, .unset, .unset] [(.int (16 : Int32))])) _
    refine st4 _ ?_
    show Steps p.tables e below (T4.setTop (mkF m 136 #[.val (.ref ob0), .val .null, .val (.int (0 : Int32)), .val (.int (0 : Int32)), .val (.int (16 : Int32)), .val (.int (12 : Int32)), .unset, .unset, .unset, .unset, .unset, .unset, .unset, .unset] [(.ref b4)])) _
    refine XS.astore X4.here hx rfl (hb hby d18_136) rfl rfl (l' := #[.val (.ref ob0), .val .null, .val (.int (0 : Int32)), .val (.int (0 : Int32)), .val (.int (16 : Int32)), .val (.int (12 : Int32)), .val (.ref b4), .unset, .unset, .unset, .unset, .unset, .unset, .unset]) rfl ?_
    show Steps p.tables e below (T4.setTop (mkF m 138 #[.val (.ref ob0), .val .null, .val (.int (0 : Int32)), .val (.int (0 : Int32)), .val (.int (16 : Int32)), .val (.int (12 : Int32)), .val (.ref b4), .unset, .unset, .unset, .unset, .unset, .unset, .unset] [])) _
    refine XS.aloadN X4.here hx rfl (hb hby d18_138) rfl rfl ?_
    show Steps p.tables e below (T4.setTop (mkF m 139 #[.val (.ref ob0), .val .null, .val (.int (0 : Int32)), .val (.int (0 : Int32)), .val (.int (16 : Int32)), .val (.int (12 : Int32)), .val (.ref b4), .unset, .unset, .unset, .unset, .unset, .unset, .unset] [(.ref ob0)])) _
    refine XS.aload X4.here hx rfl (hb hby d18_139) rfl rfl ?_
    show Steps p.tables e below (T4.setTop (mkF m 141 #[.val (.ref ob0), .val .null, .val (.int (0 : Int32)), .val (.int (0 : Int32)), .val (.int (16 : Int32)), .val (.int (12 : Int32)), .val (.ref b4), .unset, .unset, .unset, .unset, .unset, .unset, .unset] [(.ref b4), (.ref ob0)])) _
    refine st5 _ ?_
    show Steps p.tables e below (T5.setTop (mkF m 144 #[.val (.ref ob0), .val .null, .val (.int (0 : Int32)), .val (.int (0 : Int32)), .val (.int (16 : Int32)), .val (.int (12 : Int32)), .val (.ref b4), .unset, .unset, .unset, .unset, .unset, .unset, .unset] [])) _
    refine XS.aloadN X5.here hx rfl (hb hby d18_144) rfl rfl ?_
    show Steps p.tables e below (T5.setTop (mkF m 145 #[.val (.ref ob0), .val .null, .val (.int (0 : Int32)), .val (.int (0 : Int32)), .val (.int (16 : Int32)), .val (.int (12 : Int32)), .val (.ref b4), .unset, .unset, .unset, .unset, .unset, .unset, .unset] [.null])) _
    refine XS.ifnullYes X5.here hx rfl (pc0 := 145) (pc' := 353) rfl (hb hby d18_145) rfl (by decide) (by decide) ?_
    show Steps p.tables e below (T5.setTop (mkF m 353 #[.val (.ref ob0), .val .null, .val (.int (0 : Int32)), .val (.int (0 : Int32)), .val (.int (16 : Int32)), .val (.int (12 : Int32)), .val (.ref b4), .unset, .unset, .unset, .unset, .unset, .unset, .unset] [])) _
    refine XS.aload X5.here hx rfl (hb hby d18_353) rfl rfl ?_
    show Steps p.tables e below (T5.setTop (mkF m 355 #[.val (.ref ob0), .val .null, .val (.int (0 : Int32)), .val (.int (0 : Int32)), .val (.int (16 : Int32)), .val (.int (12 : Int32)), .val (.ref b4), .unset, .unset, .unset, .unset, .unset, .unset, .unset] [(.ref b4)])) _
    jvm_step X5.here [X5.here.top, hx, (hb hby d18_355), X5.method', Bd.returns, Value.isRef, FieldType.isReference]
    first | (intro acts; rw [hr _ acts rfl rfl rfl]) | rw [hr _ _ rfl rfl rfl]
    exact Steps.refl _
  · have eH : (T5.setFrames fs).heap = h5 := e5; rw [eH]; exact ⟨b4, k4, rfl, N5, KK5, O5, sz_b4, J6, J7, ((Fw3.ext E4).other W5 (Or.inr (slot_ne (Or.inl (hw _ (List.mem_of_getElem? (i := 107) rfl))) (Or.inl (hw _ (List.mem_of_getElem? (i := 109) rfl))) (by decide) (t := .int) (t' := (.array (.object "java/util/HashMap$Node"))) (by decide) (by decide)))), Fw5, J8, (V_b4.other W5 (Ne.symm (Nat.ne_of_lt (Nat.lt_of_lt_of_le (Nat.lt_of_lt_of_le PE_ob0.lt (Keep.of_wr W3).1) bo_b4)))), (B4.wr W5), OV4, trivial⟩
theorem pd190 : parseMethodDescriptor "()[Ljava/util/HashMap$Node;" = some ⟨[], some (.array (.object "java/util/HashMap$Node"))⟩ := by decide +kernel
theorem d14_57 : decode jdk_69_method_35_code 57 = .ok (.invokevirtual 117, 3) := by decide +kernel
set_option maxRecDepth 65536 in
set_option maxHeartbeats 40000000 in
theorem ciA {p : Program} {l : Launch} {e : Env} {s : State} {m : MethodId} {args : Array Value} {below : List Frame} {meth : Method} {c : Code} {T0 : State} {locs : List Loc} {Z : State} {a0 : Array Value} {h0 : Heap} {n0 : Nat} (hm : Addr) (key : Addr) (fn : Addr) (kv : Int64)
    (X0 : Stand p l e ({ frames := 5, cells := 2, slots := 20, locals := 120 } : Room) s m args below meth c T0 locs 0 0) (hx : p.tables.exec = Jvm.exec) (hZ : Z.Warmed39 s.vm) (hw : ∀ d ∈ tables_1, d.before a0 Z = true) (hby : c.code = jdk_69_method_35_code) (hml : c.maxLocals = 13) (hown : s.vm.findClass "java/util/HashMap" = some m.cls) (e0 : T0.heap = h0) (N0 : Fr n0 locs) (O0 : Old Z n0 h0) (PE_hm : Exa Z h0 hm "java/util/HashMap") (PF_hm_size : Fld Z h0 hm "java/util/HashMap" "size" "I" (.int (0 : Int32))) (PF_hm_threshold : Fld Z h0 hm "java/util/HashMap" "threshold" "I" (.int (0 : Int32))) (PF_hm_table : Fld Z h0 hm "java/util/HashMap" "table" "[Ljava/util/HashMap$Node;" .null) (PF_hm_modCount : Fld Z h0 hm "java/util/HashMap" "modCount" "I" (.int (0 : Int32))) (PE_key : Exa Z h0 key "java/lang/Long") (PF_key_value : Fld Z h0 key "java/lang/Long" "value" "J" (.long kv)) (g_hm : n0 ≤ hm) :
    ∃ (T' : State) (locs' : List Loc) (b5_0 : Addr) (kk_b5_0 : ClassId), Stand p l e ({ frames := 5, cells := 2, slots := 20, locals := 120 } : Room) s m args below meth c T' locs' 1 16 ∧ Fr n0 locs' ∧ Keep h0 T'.heap [hm] ∧ Old Z n0 T'.heap ∧ h0.size ≤ b5_0 ∧ Exa Z T'.heap hm "java/util/HashMap" ∧ Fld Z T'.heap hm "java/util/HashMap" "size" "I" (.int (0 : Int32)) ∧ Fld Z T'.heap hm "java/util/HashMap" "threshold" "I" (.int (12 : Int32)) ∧ Fld Z T'.heap hm "java/util/HashMap" "table" "[Ljava/util/HashMap$Node;" (.ref b5_0) ∧ Fld Z T'.heap hm "java/util/HashMap" "modCount" "I" (.int (0 : Int32)) ∧ Arv Z T'.heap b5_0 kk_b5_0 (.object "java/util/HashMap$Node") (16 : Int32) [.null, .null, .null, .null, .null, .null, .null, .null, .null, .null, .null, .null, .null, .null, .null, .null] .null ∧ Exa Z T'.heap b5_0 "[Ljava/util/HashMap$Node;" ∧ Ovr Z kk_b5_0 "java/util/HashMap$Node" ∧ True ∧ ∀ t, Steps p.tables e below (T'.setTop (mkF m 60 #[.val (.ref hm), .val (.ref key), .val (.ref fn), .val (.int (((kv ^^^ ((kv.toUInt64 >>> ((32 : Int32) &&& 0x3f).toInt64.toUInt64).toInt64)).toInt32) ^^^ ((((kv ^^^ ((kv.toUInt64 >>> ((32 : Int32) &&& 0x3f).toInt64.toUInt64).toInt64)).toInt32).toUInt32 >>> ((16 : Int32) &&& 31).toUInt32).toInt32))), .val .null, .unset, .unset, .unset, .val (.int (0 : Int32)), .val .null, .val .null, .unset, .unset] [(.ref b5_0)])) t → Steps p.tables e below (T0.setTop (mkF m 0 #[.val (.ref hm), .val (.ref key), .val (.ref fn), .unset, .unset, .unset, .unset, .unset, .unset, .unset, .unset, .unset, .unset] [])) t := by
  obtain ⟨_, _, ⟨T1, L1, k1, n1⟩, -, X1, ⟨Lc1, hQ1, l1, y1, z1⟩, st1⟩ := Jvm.LawKit.callS X0 hx (y := (⟨"java/util/HashMap", "hash", "(Ljava/lang/Object;)I"⟩ : MethodName)) hown (mvT hZ (hw _ (List.mem_of_getElem? (i := 92) rfl))) (mvT hZ (hw _ (List.mem_of_getElem? (i := 93) rfl))) (mvT hZ (hw _ (List.mem_of_getElem? (i := 18) rfl))) (mvT hZ (hw _ (List.mem_of_getElem? (i := 94) rfl))) (by decide) (backOf (W := 0) (rm15_11 l Z a0 hw []  key kv h0 n0 (own_n0 O0) O0 PE_key PF_key_value) hZ (hw _ (List.mem_of_getElem? (i := 94) rfl)) (hw _ (List.mem_of_getElem? (i := 18) rfl)) (by decide) (by decide)) (g := (mkF m 13 #[.val (.ref hm), .val (.ref key), .val (.ref fn), .unset, .unset, .unset, .unset, .unset, .unset, .unset, .unset, .unset, .unset] [(.ref key)])) rfl (by rw [hml]; rfl) (argsL := [(.ref key)]) (rest := []) (lenOf pd132 rfl) rfl (by show 2 * 0 + _ ≤ _; exact Nat.le_of_eq rfl) (hb hby d14_13) (fun _ _ => ⟨rfl, e0, (by decide : 0 + 0 ≤ _), (by decide : 0 + 0 ≤ _)⟩)
  dsimp only [Pt.U, Pt.locs, Pt.cells, Pt.slots] at X1 l1 y1 z1 st1 hQ1
  subst l1 y1 z1
  obtain ⟨rfl, N1q, e1⟩ := hQ1
  have N1 := Fr.app N0 N1q
  obtain ⟨T2, X2, e2, st2⟩ := getF X1 hx hZ hown (host := "") (Or.inl (hw _ (List.mem_of_getElem? (i := 104) rfl))) Via.refl e1 PF_hm_size (g := (mkF m 27 #[.val (.ref hm), .val (.ref key), .val (.ref fn), .val (.int (((kv ^^^ ((kv.toUInt64 >>> ((32 : Int32) &&& 0x3f).toInt64.toUInt64).toInt64)).toInt32) ^^^ ((((kv ^^^ ((kv.toUInt64 >>> ((32 : Int32) &&& 0x3f).toInt64.toUInt64).toInt64)).toInt32).toUInt32 >>> ((16 : Int32) &&& 31).toUInt32).toInt32))), .unset, .unset, .unset, .unset, .val (.int (0 : Int32)), .val .null, .val .null, .unset, .unset] [(.ref hm)])) rfl rfl (hb hby d14_27)
  obtain ⟨T3, X3, e3, st3⟩ := getF X2 hx hZ hown (host := "") (Or.inl (hw _ (List.mem_of_getElem? (i := 106) rfl))) Via.refl e2 PF_hm_threshold (g := (mkF m 31 #[.val (.ref hm), .val (.ref key), .val (.ref fn), .val (.int (((kv ^^^ ((kv.toUInt64 >>> ((32 : Int32) &&& 0x3f).toInt64.toUInt64).toInt64)).toInt32) ^^^ ((((kv ^^^ ((kv.toUInt64 >>> ((32 : Int32) &&& 0x3f).toInt64.toUInt64).toInt64)).toInt32).toUInt32 >>> ((16 : Int32) &&& 31).toUInt32).toInt32))), .unset, .unset, .unset, .unset, .val (.int (0 : Int32)), .val .null, .val .null, .unset, .unset] [(.ref hm), (.int (0 : Int32))])) rfl rfl (hb hby d14_31)
  obtain ⟨T4, X4, e4, st4⟩ := getF X3 hx hZ hown (host := "") (Or.inl (hw _ (List.mem_of_getElem? (i := 108) rfl))) Via.refl e3 PF_hm_table (g := (mkF m 38 #[.val (.ref hm), .val (.ref key), .val (.ref fn), .val (.int (((kv ^^^ ((kv.toUInt64 >>> ((32 : Int32) &&& 0x3f).toInt64.toUInt64).toInt64)).toInt32) ^^^ ((((kv ^^^ ((kv.toUInt64 >>> ((32 : Int32) &&& 0x3f).toInt64.toUInt64).toInt64)).toInt32).toUInt32 >>> ((16 : Int32) &&& 31).toUInt32).toInt32))), .unset, .unset, .unset, .unset, .val (.int (0 : Int32)), .val .null, .val .null, .unset, .unset] [(.ref hm)])) rfl rfl (hb hby d14_38)
  obtain ⟨cq5, kq5, q5a, q5b, q5c⟩ := isOf hZ e4 PE_hm
  obtain ⟨_, _, ⟨T5, L5, k5, n5⟩, -, X5, ⟨Lc5, hQ5, l5, y5, z5⟩, st5⟩ := X4.virtualBack hx (y := (⟨"java/util/HashMap", "resize", "()[Ljava/util/HashMap$Node;"⟩ : MethodName)) (z := (⟨"java/util/HashMap", "resize", "()[Ljava/util/HashMap$Node;"⟩ : MethodName)) hown (mvT hZ (hw _ (List.mem_of_getElem? (i := 110) rfl))) (mvT hZ (hw _ (List.mem_of_getElem? (i := 111) rfl))) (notFace_of_selects (args := #[]) (mvT hZ (hw _ (List.mem_of_getElem? (i := 113) rfl)))) (mvT hZ (hw _ (List.mem_of_getElem? (i := 113) rfl))) (mvT hZ (hw _ (List.mem_of_getElem? (i := 112) rfl))) (by decide) (backOf (W := 0) (rm18_12 l Z a0 hw []  hm h0 n0 (own_n0 O0) O0 PE_hm PF_hm_size PF_hm_threshold PF_hm_table PF_hm_modCount g_hm) hZ (hw _ (List.mem_of_getElem? (i := 114) rfl)) (hw _ (List.mem_of_getElem? (i := 18) rfl)) (by decide) (by decide)) q5a q5c (g := (mkF m 57 #[.val (.ref hm), .val (.ref key), .val (.ref fn), .val (.int (((kv ^^^ ((kv.toUInt64 >>> ((32 : Int32) &&& 0x3f).toInt64.toUInt64).toInt64)).toInt32) ^^^ ((((kv ^^^ ((kv.toUInt64 >>> ((32 : Int32) &&& 0x3f).toInt64.toUInt64).toInt64)).toInt32).toUInt32 >>> ((16 : Int32) &&& 31).toUInt32).toInt32))), .val .null, .unset, .unset, .unset, .val (.int (0 : Int32)), .val .null, .val .null, .unset, .unset] [(.ref hm)])) rfl (by rw [hml]; rfl) (Steps.refl _) (argsL := []) (rest := []) (lenOf pd190 rfl) rfl (by show 2 * 0 + _ ≤ _; exact Nat.le_of_eq rfl) (hb hby d14_57) (fun _ _ => ⟨rfl, e4, (by decide : 0 + 1 ≤ _), (by decide : 0 + 16 ≤ _)⟩)
  dsimp only [Pt.U, Pt.locs, Pt.cells, Pt.slots] at X5 l5 y5 z5 st5 hQ5
  subst l5 y5 z5
  obtain ⟨b5_0, fk5_0, rfl, N5q, K5, O5, pz_b5_0, pf5_0, pf5_1, pf5_2, pf5_3, pf5_4, pf5_5, pf5_6, pf5_7, -⟩ := hQ5
  have bo_b5_0 : h0.size ≤ b5_0 := pz_b5_0
  have g_b5_0 : n0 ≤ b5_0 := Nat.le_trans (own_n0 O0) bo_b5_0
  have sz_b5_0 : h0.size ≤ b5_0 := Nat.le_trans (Keep.refl h0 [hm]).1 bo_b5_0
  have KK5 : Keep h0 T5.heap [hm] := (Keep.refl h0 [hm]).trans K5 (allS (Or.inl (List.mem_of_getElem? (i := 0) rfl)) all0)
  have N5 := Fr.app N1 N5q
  refine ⟨T5, _, b5_0, fk5_0, X5, N5, KK5, O5, sz_b5_0, pf5_0, pf5_1, pf5_2, pf5_3, pf5_4, pf5_5, pf5_6, pf5_7, trivial, fun t kt => ?_⟩
  show Steps p.tables e below (T0.setTop (mkF m 0 #[.val (.ref hm), .val (.ref key), .val (.ref fn), .unset, .unset, .unset, .unset, .unset, .unset, .unset, .unset, .unset, .unset] [])) _
  refine XS.aloadN X0.here hx rfl (hb hby d14_0) rfl rfl ?_
  show Steps p.tables e below (T0.setTop (mkF m 1 #[.val (.ref hm), .val (.ref key), .val (.ref fn), .unset, .unset, .unset, .unset, .unset, .unset, .unset, .unset, .unset, .unset] [(.ref fn)])) _
  refine XS.ifnonnullYes X0.here hx rfl (pc0 := 1) (pc' := 12) rfl (hb hby d14_1) rfl (by decide) (by decide) ?_
  show Steps p.tables e below (T0.setTop (mkF m 12 #[.val (.ref hm), .val (.ref key), .val (.ref fn), .unset, .unset, .unset, .unset, .unset, .unset, .unset, .unset, .unset, .unset] [])) _
  refine XS.aloadN X0.here hx rfl (hb hby d14_12) rfl rfl ?_
  show Steps p.tables e below (T0.setTop (mkF m 13 #[.val (.ref hm), .val (.ref key), .val (.ref fn), .unset, .unset, .unset, .unset, .unset, .unset, .unset, .unset, .unset, .unset] [(.ref key)])) _
  refine st1 _ ?_
  show Steps p.tables e below (T1.setTop (mkF m 16 #[.val (.ref hm), .val (.ref key), .val (.ref fn), .unset, .unset, .unset, .unset, .unset, .unset, .unset, .unset, .unset, .unset] [(.int (((kv ^^^ ((kv.toUInt64 >>> ((32 : Int32) &&& 0x3f).toInt64.toUInt64).toInt64)).toInt32) ^^^ ((((kv ^^^ ((kv.toUInt64 >>> ((32 : Int32) &&& 0x3f).toInt64.toUInt64).toInt64)).toInt32).toUInt32 >>> ((16 : Int32) &&& 31).toUInt32).toInt32)))])) _
  refine XS.istoreN X1.here hx rfl (hb hby d14_16) rfl (l' := #[.val (.ref hm), .val (.ref key), .val (.ref fn), .val (.int (((kv ^^^ ((kv.toUInt64 >>> ((32 : Int32) &&& 0x3f).toInt64.toUInt64).toInt64)).toInt32) ^^^ ((((kv ^^^ ((kv.toUInt64 >>> ((32 : Int32) &&& 0x3f).toInt64.toUInt64).toInt64)).toInt32).toUInt32 >>> ((16 : Int32) &&& 31).toUInt32).toInt32))), .unset, .unset, .unset, .unset, .unset, .unset, .unset, .unset, .unset]) rfl ?_
  show Steps p.tables e below (T1.setTop (mkF m 17 #[.val (.ref hm), .val (.ref key), .val (.ref fn), .val (.int (((kv ^^^ ((kv.toUInt64 >>> ((32 : Int32) &&& 0x3f).toInt64.toUInt64).toInt64)).toInt32) ^^^ ((((kv ^^^ ((kv.toUInt64 >>> ((32 : Int32) &&& 0x3f).toInt64.toUInt64).toInt64)).toInt32).toUInt32 >>> ((16 : Int32) &&& 31).toUInt32).toInt32))), .unset, .unset, .unset, .unset, .unset, .unset, .unset, .unset, .unset] [])) _
  refine XS.iconst X1.here hx rfl (hb hby d14_17) ?_
  show Steps p.tables e below (T1.setTop (mkF m 18 #[.val (.ref hm), .val (.ref key), .val (.ref fn), .val (.int (((kv ^^^ ((kv.toUInt64 >>> ((32 : Int32) &&& 0x3f).toInt64.toUInt64).toInt64)).toInt32) ^^^ ((((kv ^^^ ((kv.toUInt64 >>> ((32 : Int32) &&& 0x3f).toInt64.toUInt64).toInt64)).toInt32).toUInt32 >>> ((16 : Int32) &&& 31).toUInt32).toInt32))), .unset, .unset, .unset, .unset, .unset, .unset, .unset, .unset, .unset] [(.int (0 : Int32))])) _
  refine XS.istore X1.here hx rfl (hb hby d14_18) rfl (l' := #[.val (.ref hm), .val (.ref key), .val (.ref fn), .val (.int (((kv ^^^ ((kv.toUInt64 >>> ((32 : Int32) &&& 0x3f).toInt64.toUInt64).toInt64)).toInt32) ^^^ ((((kv ^^^ ((kv.toUInt64 >>> ((32 : Int32) &&& 0x3f).toInt64.toUInt64).toInt64)).toInt32).toUInt32 >>> ((16 : Int32) &&& 31).toUInt32).toInt32))), .unset, .unset, .unset, .unset, .val (.int (0 : Int32)), .unset, .unset, .unset, .unset]) rfl ?_
  show Steps p.tables e below (T1.setTop (mkF m 20 #[.val (.ref hm), .val (.ref key), .val (.ref fn), .val (.int (((kv ^^^ ((kv.toUInt64 >>> ((32 : Int32) &&& 0x3f).toInt64.toUInt64).toInt64)).toInt32) ^^^ ((((kv ^^^ ((kv.toUInt64 >>> ((32 : Int32) &&& 0x3f).toInt64.toUInt64).toInt64)).toInt32).toUInt32 >>> ((16 : Int32) &&& 31).toUInt32).toInt32))), .unset, .unset, .unset, .unset, .val (.int (0 : Int32)), .unset, .unset, .unset, .unset] [])) _
  refine XS.aconstNull X1.here hx rfl (hb hby d14_20) ?_
  show Steps p.tables e below (T1.setTop (mkF m 21 #[.val (.ref hm), .val (.ref key), .val (.ref fn), .val (.int (((kv ^^^ ((kv.toUInt64 >>> ((32 : Int32) &&& 0x3f).toInt64.toUInt64).toInt64)).toInt32) ^^^ ((((kv ^^^ ((kv.toUInt64 >>> ((32 : Int32) &&& 0x3f).toInt64.toUInt64).toInt64)).toInt32).toUInt32 >>> ((16 : Int32) &&& 31).toUInt32).toInt32))), .unset, .unset, .unset, .unset, .val (.int (0 : Int32)), .unset, .unset, .unset, .unset] [.null])) _
  refine XS.astore X1.here hx rfl (hb hby d14_21) rfl rfl (l' := #[.val (.ref hm), .val (.ref key), .val (.ref fn), .val (.int (((kv ^^^ ((kv.toUInt64 >>> ((32 : Int32) &&& 0x3f).toInt64.toUInt64).toInt64)).toInt32) ^^^ ((((kv ^^^ ((kv.toUInt64 >>> ((32 : Int32) &&& 0x3f).toInt64.toUInt64).toInt64)).toInt32).toUInt32 >>> ((16 : Int32) &&& 31).toUInt32).toInt32))), .unset, .unset, .unset, .unset, .val (.int (0 : Int32)), .val .null, .unset, .unset, .unset]) rfl ?_
  show Steps p.tables e below (T1.setTop (mkF m 23 #[.val (.ref hm), .val (.ref key), .val (.ref fn), .val (.int (((kv ^^^ ((kv.toUInt64 >>> ((32 : Int32) &&& 0x3f).toInt64.toUInt64).toInt64)).toInt32) ^^^ ((((kv ^^^ ((kv.toUInt64 >>> ((32 : Int32) &&& 0x3f).toInt64.toUInt64).toInt64)).toInt32).toUInt32 >>> ((16 : Int32) &&& 31).toUInt32).toInt32))), .unset, .unset, .unset, .unset, .val (.int (0 : Int32)), .val .null, .unset, .unset, .unset] [])) _
  refine XS.aconstNull X1.here hx rfl (hb hby d14_23) ?_
  show Steps p.tables e below (T1.setTop (mkF m 24 #[.val (.ref hm), .val (.ref key), .val (.ref fn), .val (.int (((kv ^^^ ((kv.toUInt64 >>> ((32 : Int32) &&& 0x3f).toInt64.toUInt64).toInt64)).toInt32) ^^^ ((((kv ^^^ ((kv.toUInt64 >>> ((32 : Int32) &&& 0x3f).toInt64.toUInt64).toInt64)).toInt32).toUInt32 >>> ((16 : Int32) &&& 31).toUInt32).toInt32))), .unset, .unset, .unset, .unset, .val (.int (0 : Int32)), .val .null, .unset, .unset, .unset] [.null])) _
  refine XS.astore X1.here hx rfl (hb hby d14_24) rfl rfl (l' := #[.val (.ref hm), .val (.ref key), .val (.ref fn), .val (.int (((kv ^^^ ((kv.toUInt64 >>> ((32 : Int32) &&& 0x3f).toInt64.toUInt64).toInt64)).toInt32) ^^^ ((((kv ^^^ ((kv.toUInt64 >>> ((32 : Int32) &&& 0x3f).toInt64.toUInt64).toInt64)).toInt32).toUInt32 >>> ((16 : Int32) &&& 31).toUInt32).toInt32))), .unset, .unset, .unset, .unset, .val (.int (0 : Int32)), .val .null, .val .null, .unset, .unset]) rfl ?_
  show Steps p.tables e below (T1.setTop (mkF m 26 #[.val (.ref hm), .val (.ref key), .val (.ref fn), .val (.int (((kv ^^^ ((kv.toUInt64 >>> ((32 : Int32) &&& 0x3f).toInt64.toUInt64).toInt64)).toInt32) ^^^ ((((kv ^^^ ((kv.toUInt64 >>> ((32 : Int32) &&& 0x3f).toInt64.toUInt64).toInt64)).toInt32).toUInt32 >>> ((16 : Int32) &&& 31).toUInt32).toInt32))), .unset, .unset, .unset, .unset, .val (.int (0 : Int32)), .val .null, .val .null, .unset, .unset] [])) _
  refine XS.aloadN X1.here hx rfl (hb hby d14_26) rfl rfl ?_
  show Steps p.tables e below (T1.setTop (mkF m 27 #[.val (.ref hm), .val (.ref key), .val (.ref fn), .val (.int (((kv ^^^ ((kv.toUInt64 >>> ((32 : Int32) &&& 0x3f).toInt64.toUInt64).toInt64)).toInt32) ^^^ ((((kv ^^^ ((kv.toUInt64 >>> ((32 : Int32) &&& 0x3f).toInt64.toUInt64).toInt64)).toInt32).toUInt32 >>> ((16 : Int32) &&& 31).toUInt32).toInt32))), .unset, .unset, .unset, .unset, .val (.int (0 : Int32)), .val .null, .val .null, .unset, .unset] [(.ref hm)])) _
  refine st2 _ ?_
  show Steps p.tables e below (T2.setTop (mkF m 30 #[.val (.ref hm), .val (.ref key), .val (.ref fn), .val (.int (((kv ^^^ ((kv.toUInt64 >>> ((32 : Int32) &&& 0x3f).toInt64.toUInt64).toInt64)).toInt32) ^^^ ((((kv ^^^ ((kv.toUInt64 >>> ((32 : Int32) &&& 0x3f).toInt64.toUInt64).toInt64)).toInt32).toUInt32 >>> ((16 : Int32) &&& 31).toUInt32).toInt32))), .unset, .unset, .unset, .unset, .val (.int (0 : Int32)), .val .null, .val .null, .unset, .unset] [(.int (0 : Int32))])) _
  refine XS.aloadN X2.here hx rfl (hb hby d14_30) rfl rfl ?_
  show Steps p.tables e below (T2.setTop (mkF m 31 #[.val (.ref hm), .val (.ref key), .val (.ref fn), .val (.int (((kv ^^^ ((kv.toUInt64 >>> ((32 : Int32) &&& 0x3f).toInt64.toUInt64).toInt64)).toInt32) ^^^ ((((kv ^^^ ((kv.toUInt64 >>> ((32 : Int32) &&& 0x3f).toInt64.toUInt64).toInt64)).toInt32).toUInt32 >>> ((16 : Int32) &&& 31).toUInt32).toInt32))), .unset, .unset, .unset, .unset, .val (.int (0 : Int32)), .val .null, .val .null, .unset, .unset] [(.ref hm), (.int (0 : Int32))])) _
  refine st3 _ ?_
  show Steps p.tables e below (T3.setTop (mkF m 34 #[.val (.ref hm), .val (.ref key), .val (.ref fn), .val (.int (((kv ^^^ ((kv.toUInt64 >>> ((32 : Int32) &&& 0x3f).toInt64.toUInt64).toInt64)).toInt32) ^^^ ((((kv ^^^ ((kv.toUInt64 >>> ((32 : Int32) &&& 0x3f).toInt64.toUInt64).toInt64)).toInt32).toUInt32 >>> ((16 : Int32) &&& 31).toUInt32).toInt32))), .unset, .unset, .unset, .unset, .val (.int (0 : Int32)), .val .null, .val .null, .unset, .unset] [(.int (0 : Int32)), (.int (0 : Int32))])) _
  refine XS.icmpNo X3.here hx rfl (hb hby d14_34) rfl (flt (by decide : ¬ ((0 : Int32) < (0 : Int32)))).2.2.1 ?_
  show Steps p.tables e below (T3.setTop (mkF m 37 #[.val (.ref hm), .val (.ref key), .val (.ref fn), .val (.int (((kv ^^^ ((kv.toUInt64 >>> ((32 : Int32) &&& 0x3f).toInt64.toUInt64).toInt64)).toInt32) ^^^ ((((kv ^^^ ((kv.toUInt64 >>> ((32 : Int32) &&& 0x3f).toInt64.toUInt64).toInt64)).toInt32).toUInt32 >>> ((16 : Int32) &&& 31).toUInt32).toInt32))), .unset, .unset, .unset, .unset, .val (.int (0 : Int32)), .val .null, .val .null, .unset, .unset] [])) _
  refine XS.aloadN X3.here hx rfl (hb hby d14_37) rfl rfl ?_
  show Steps p.tables e below (T3.setTop (mkF m 38 #[.val (.ref hm), .val (.ref key), .val (.ref fn), .val (.int (((kv ^^^ ((kv.toUInt64 >>> ((32 : Int32) &&& 0x3f).toInt64.toUInt64).toInt64)).toInt32) ^^^ ((((kv ^^^ ((kv.toUInt64 >>> ((32 : Int32) &&& 0x3f).toInt64.toUInt64).toInt64)).toInt32).toUInt32 >>> ((16 : Int32) &&& 31).toUInt32).toInt32))), .unset, .unset, .unset, .unset, .val (.int (0 : Int32)), .val .null, .val .null, .unset, .unset] [(.ref hm)])) _
  refine st4 _ ?_
  show Steps p.tables e below (T4.setTop (mkF m 41 #[.val (.ref hm), .val (.ref key), .val (.ref fn), .val (.int (((kv ^^^ ((kv.toUInt64 >>> ((32 : Int32) &&& 0x3f).toInt64.toUInt64).toInt64)).toInt32) ^^^ ((((kv ^^^ ((kv.toUInt64 >>> ((32 : Int32) &&& 0x3f).toInt64.toUInt64).toInt64)).toInt32).toUInt32 >>> ((16 : Int32) &&& 31).toUInt32).toInt32))), .unset, .unset, .unset, .unset, .val (.int (0 : Int32)), .val .null, .val .null, .unset, .unset] [.null])) _
  refine XS.dup X4.here hx rfl (hb hby d14_41) rfl rfl ?_
  show Steps p.tables e below (T4.setTop (mkF m 42 #[.val (.ref hm), .val (.ref key), .val (.ref fn), .val (.int (((kv ^^^ ((kv.toUInt64 >>> ((32 : Int32) &&& 0x3f).toInt64.toUInt64).toInt64)).toInt32) ^^^ ((((kv ^^^ ((kv.toUInt64 >>> ((32 : Int32) &&& 0x3f).toInt64.toUInt64).toInt64)).toInt32).toUInt32 >>> ((16 : Int32) &&& 31).toUInt32).toInt32))), .unset, .unset, .unset, .unset, .val (.int (0 : Int32)), .val .null, .val .null, .unset, .unset] [.null, .null])) _
  refine XS.astore X4.here hx rfl (hb hby d14_42) rfl rfl (l' := #[.val (.ref hm), .val (.ref key), .val (.ref fn), .val (.int (((kv ^^^ ((kv.toUInt64 >>> ((32 : Int32) &&& 0x3f).toInt64.toUInt64).toInt64)).toInt32) ^^^ ((((kv ^^^ ((kv.toUInt64 >>> ((32 : Int32) &&& 0x3f).toInt64.toUInt64).toInt64)).toInt32).toUInt32 >>> ((16 : Int32) &&& 31).toUInt32).toInt32))), .val .null, .unset, .unset, .unset, .val (.int (0 : Int32)), .val .null, .val .null, .unset, .unset]) rfl ?_
  show Steps p.tables e below (T4.setTop (mkF m 44 #[.val (.ref hm), .val (.ref key), .val (.ref fn), .val (.int (((kv ^^^ ((kv.toUInt64 >>> ((32 : Int32) &&& 0x3f).toInt64.toUInt64).toInt64)).toInt32) ^^^ ((((kv ^^^ ((kv.toUInt64 >>> ((32 : Int32) &&& 0x3f).toInt64.toUInt64).toInt64)).toInt32).toUInt32 >>> ((16 : Int32) &&& 31).toUInt32).toInt32))), .val .null, .unset, .unset, .unset, .val (.int (0 : Int32)), .val .null, .val .null, .unset, .unset] [.null])) _
  refine XS.ifnullYes X4.here hx rfl (pc0 := 44) (pc' := 56) rfl (hb hby d14_44) rfl (by decide) (by decide) ?_
  show Steps p.tables e below (T4.setTop (mkF m 56 #[.val (.ref hm), .val (.ref key), .val (.ref fn), .val (.int (((kv ^^^ ((kv.toUInt64 >>> ((32 : Int32) &&& 0x3f).toInt64.toUInt64).toInt64)).toInt32) ^^^ ((((kv ^^^ ((kv.toUInt64 >>> ((32 : Int32) &&& 0x3f).toInt64.toUInt64).toInt64)).toInt32).toUInt32 >>> ((16 : Int32) &&& 31).toUInt32).toInt32))), .val .null, .unset, .unset, .unset, .val (.int (0 : Int32)), .val .null, .val .null, .unset, .unset] [])) _
  refine XS.aloadN X4.here hx rfl (hb hby d14_56) rfl rfl ?_
  show Steps p.tables e below (T4.setTop (mkF m 57 #[.val (.ref hm), .val (.ref key), .val (.ref fn), .val (.int (((kv ^^^ ((kv.toUInt64 >>> ((32 : Int32) &&& 0x3f).toInt64.toUInt64).toInt64)).toInt32) ^^^ ((((kv ^^^ ((kv.toUInt64 >>> ((32 : Int32) &&& 0x3f).toInt64.toUInt64).toInt64)).toInt32).toUInt32 >>> ((16 : Int32) &&& 31).toUInt32).toInt32))), .val .null, .unset, .unset, .unset, .val (.int (0 : Int32)), .val .null, .val .null, .unset, .unset] [(.ref hm)])) _
  refine st5.trans ?_
  show Steps p.tables e below (T5.setTop (mkF m 60 #[.val (.ref hm), .val (.ref key), .val (.ref fn), .val (.int (((kv ^^^ ((kv.toUInt64 >>> ((32 : Int32) &&& 0x3f).toInt64.toUInt64).toInt64)).toInt32) ^^^ ((((kv ^^^ ((kv.toUInt64 >>> ((32 : Int32) &&& 0x3f).toInt64.toUInt64).toInt64)).toInt32).toUInt32 >>> ((16 : Int32) &&& 31).toUInt32).toInt32))), .val .null, .unset, .unset, .unset, .val (.int (0 : Int32)), .val .null, .val .null, .unset, .unset] [(.ref b5_0)])) _
  exact kt
theorem d14_60 : decode jdk_69_method_35_code 60 = .ok (.dup, 1) := by decide +kernel
theorem d14_61 : decode jdk_69_method_35_code 61 = .ok (.astore 4, 2) := by decide +kernel
theorem d14_63 : decode jdk_69_method_35_code 63 = .ok (.arraylength, 1) := by decide +kernel
theorem d14_64 : decode jdk_69_method_35_code 64 = .ok (.istore 6, 2) := by decide +kernel
theorem d14_66 : decode jdk_69_method_35_code 66 = .ok (.aload 4, 2) := by decide +kernel
theorem d14_68 : decode jdk_69_method_35_code 68 = .ok (.iload 6, 2) := by decide +kernel
theorem d14_70 : decode jdk_69_method_35_code 70 = .ok (.iconst 1, 1) := by decide +kernel
theorem d14_71 : decode jdk_69_method_35_code 71 = .ok (.isub, 1) := by decide +kernel
theorem d14_72 : decode jdk_69_method_35_code 72 = .ok (.iload_n 3, 1) := by decide +kernel
theorem d14_73 : decode jdk_69_method_35_code 73 = .ok (.iand, 1) := by decide +kernel
theorem d14_74 : decode jdk_69_method_35_code 74 = .ok (.dup, 1) := by decide +kernel
theorem d14_75 : decode jdk_69_method_35_code 75 = .ok (.istore 7, 2) := by decide +kernel
theorem d14_77 : decode jdk_69_method_35_code 77 = .ok (.aaload, 1) := by decide +kernel
theorem d14_78 : decode jdk_69_method_35_code 78 = .ok (.dup, 1) := by decide +kernel
theorem d14_79 : decode jdk_69_method_35_code 79 = .ok (.astore 5, 2) := by decide +kernel
theorem d14_81 : decode jdk_69_method_35_code 81 = .ok (.ifnull 113, 3) := by decide +kernel
theorem d14_194 : decode jdk_69_method_35_code 194 = .ok (.aload_n 0, 1) := by decide +kernel
theorem d14_195 : decode jdk_69_method_35_code 195 = .ok (.getfield 202, 3) := by decide +kernel
theorem d14_198 : decode jdk_69_method_35_code 198 = .ok (.istore 11, 2) := by decide +kernel
theorem d14_200 : decode jdk_69_method_35_code 200 = .ok (.aload_n 2, 1) := by decide +kernel
theorem d14_201 : decode jdk_69_method_35_code 201 = .ok (.aload_n 1, 1) := by decide +kernel
set_option maxRecDepth 65536 in
set_option maxHeartbeats 40000000 in
theorem ciB {p : Program} {l : Launch} {e : Env} {s : State} {m : MethodId} {args : Array Value} {below : List Frame} {meth : Method} {c : Code} {T0 : State} {locs : List Loc} {Z : State} {a0 : Array Value} {h0 : Heap} {n0 : Nat} (hm : Addr) (key : Addr) (fn : Addr) (hh : Int32) (tb : Addr) (mc : Int32) (k_tb : ClassId) (ft : Nat → Value)
    (X0 : Stand p l e ({ frames := 5, cells := 2, slots := 20, locals := 120 } : Room) s m args below meth c T0 locs 1 16) (hx : p.tables.exec = Jvm.exec) (hZ : Z.Warmed39 s.vm) (hw : ∀ d ∈ tables_1, d.before a0 Z = true) (hby : c.code = jdk_69_method_35_code) (hml : c.maxLocals = 13) (hown : s.vm.findClass "java/util/HashMap" = some m.cls) (e0 : T0.heap = h0) (N0 : Fr n0 locs) (O0 : Old Z n0 h0) (PE_hm : Exa Z h0 hm "java/util/HashMap") (PF_hm_modCount : Fld Z h0 hm "java/util/HashMap" "modCount" "I" (.int mc)) (PA_tb : Ars Z h0 tb k_tb (.object "java/util/HashMap$Node") (16 : Nat) ft) (hin77 : ¬ (((((16 : Nat).toInt32) - (1 : Int32)) &&& hh) < 0 ∨ (16 : Nat) ≤ (((((16 : Nat).toInt32) - (1 : Int32)) &&& hh)).toNatClampNeg)) (hat77 : ft (((((16 : Nat).toInt32) - (1 : Int32)) &&& hh)).toNatClampNeg = .null) :
    ∃ (T' : State) (locs' : List Loc), Stand p l e ({ frames := 5, cells := 2, slots := 20, locals := 120 } : Room) s m args below meth c T' locs' 1 16 ∧ Fr n0 locs' ∧ T'.heap = h0 ∧ ∀ t, Steps p.tables e below (T'.setTop (mkF m 202 #[.val (.ref hm), .val (.ref key), .val (.ref fn), .val (.int hh), .val (.ref tb), .val .null, .val (.int ((16 : Nat).toInt32)), .val (.int ((((16 : Nat).toInt32) - (1 : Int32)) &&& hh)), .val (.int (0 : Int32)), .val .null, .val .null, .val (.int mc), .unset] [(.ref key), (.ref fn)])) t → Steps p.tables e below (T0.setTop (mkF m 60 #[.val (.ref hm), .val (.ref key), .val (.ref fn), .val (.int hh), .val .null, .unset, .unset, .unset, .val (.int (0 : Int32)), .val .null, .val .null, .unset, .unset] [(.ref tb)])) t := by
  obtain ⟨ac1, aA1, aq1, aS1, aN1, aH1⟩ := id PA_tb
  obtain ⟨ac2, aA2, aq2, aS2, aN2, aH2⟩ := id PA_tb
  obtain ⟨T3, X3, e3, st3⟩ := getF X0 hx hZ hown (host := "") (Or.inl (hw _ (List.mem_of_getElem? (i := 117) rfl))) Via.refl e0 PF_hm_modCount (g := (mkF m 195 #[.val (.ref hm), .val (.ref key), .val (.ref fn), .val (.int hh), .val (.ref tb), .val .null, .val (.int ((16 : Nat).toInt32)), .val (.int ((((16 : Nat).toInt32) - (1 : Int32)) &&& hh)), .val (.int (0 : Int32)), .val .null, .val .null, .unset, .unset] [(.ref hm)])) rfl rfl (hb hby d14_195)
  refine ⟨T3, _, X3, N0, e3, fun t kt => ?_⟩
  show Steps p.tables e below (T0.setTop (mkF m 60 #[.val (.ref hm), .val (.ref key), .val (.ref fn), .val (.int hh), .val .null, .unset, .unset, .unset, .val (.int (0 : Int32)), .val .null, .val .null, .unset, .unset] [(.ref tb)])) _
  refine XS.dup X0.here hx rfl (hb hby d14_60) rfl rfl ?_
  show Steps p.tables e below (T0.setTop (mkF m 61 #[.val (.ref hm), .val (.ref key), .val (.ref fn), .val (.int hh), .val .null, .unset, .unset, .unset, .val (.int (0 : Int32)), .val .null, .val .null, .unset, .unset] [(.ref tb), (.ref tb)])) _
  refine XS.astore X0.here hx rfl (hb hby d14_61) rfl rfl (l' := #[.val (.ref hm), .val (.ref key), .val (.ref fn), .val (.int hh), .val (.ref tb), .unset, .unset, .unset, .val (.int (0 : Int32)), .val .null, .val .null, .unset, .unset]) rfl ?_
  show Steps p.tables e below (T0.setTop (mkF m 63 #[.val (.ref hm), .val (.ref key), .val (.ref fn), .val (.int hh), .val (.ref tb), .unset, .unset, .unset, .val (.int (0 : Int32)), .val .null, .val .null, .unset, .unset] [(.ref tb)])) _
  refine X0.arraylength hx (by rw [e0]; exact aA1.1) (State.isArrayOf_alike hZ.alike aA1.2.1) (g := (mkF m 63 #[.val (.ref hm), .val (.ref key), .val (.ref fn), .val (.int hh), .val (.ref tb), .unset, .unset, .unset, .val (.int (0 : Int32)), .val .null, .val .null, .unset, .unset] [(.ref tb)])) rfl rfl (hb hby d14_63) _ ?_
  rw [aS1]
  show Steps p.tables e below (T0.setTop (mkF m 64 #[.val (.ref hm), .val (.ref key), .val (.ref fn), .val (.int hh), .val (.ref tb), .unset, .unset, .unset, .val (.int (0 : Int32)), .val .null, .val .null, .unset, .unset] [(.int ((16 : Nat).toInt32))])) _
  refine XS.istore X0.here hx rfl (hb hby d14_64) rfl (l' := #[.val (.ref hm), .val (.ref key), .val (.ref fn), .val (.int hh), .val (.ref tb), .unset, .val (.int ((16 : Nat).toInt32)), .unset, .val (.int (0 : Int32)), .val .null, .val .null, .unset, .unset]) rfl ?_
  show Steps p.tables e below (T0.setTop (mkF m 66 #[.val (.ref hm), .val (.ref key), .val (.ref fn), .val (.int hh), .val (.ref tb), .unset, .val (.int ((16 : Nat).toInt32)), .unset, .val (.int (0 : Int32)), .val .null, .val .null, .unset, .unset] [])) _
  refine XS.aload X0.here hx rfl (hb hby d14_66) rfl rfl ?_
  show Steps p.tables e below (T0.setTop (mkF m 68 #[.val (.ref hm), .val (.ref key), .val (.ref fn), .val (.int hh), .val (.ref tb), .unset, .val (.int ((16 : Nat).toInt32)), .unset, .val (.int (0 : Int32)), .val .null, .val .null, .unset, .unset] [(.ref tb)])) _
  refine XS.iload X0.here hx rfl (hb hby d14_68) rfl ?_
  show Steps p.tables e below (T0.setTop (mkF m 70 #[.val (.ref hm), .val (.ref key), .val (.ref fn), .val (.int hh), .val (.ref tb), .unset, .val (.int ((16 : Nat).toInt32)), .unset, .val (.int (0 : Int32)), .val .null, .val .null, .unset, .unset] [(.int ((16 : Nat).toInt32)), (.ref tb)])) _
  refine XS.iconst X0.here hx rfl (hb hby d14_70) ?_
  show Steps p.tables e below (T0.setTop (mkF m 71 #[.val (.ref hm), .val (.ref key), .val (.ref fn), .val (.int hh), .val (.ref tb), .unset, .val (.int ((16 : Nat).toInt32)), .unset, .val (.int (0 : Int32)), .val .null, .val .null, .unset, .unset] [(.int (1 : Int32)), (.int ((16 : Nat).toInt32)), (.ref tb)])) _
  refine XS.isub X0.here hx rfl (hb hby d14_71) rfl ?_
  show Steps p.tables e below (T0.setTop (mkF m 72 #[.val (.ref hm), .val (.ref key), .val (.ref fn), .val (.int hh), .val (.ref tb), .unset, .val (.int ((16 : Nat).toInt32)), .unset, .val (.int (0 : Int32)), .val .null, .val .null, .unset, .unset] [(.int (((16 : Nat).toInt32) - (1 : Int32))), (.ref tb)])) _
  refine XS.iloadN X0.here hx rfl (hb hby d14_72) rfl ?_
  show Steps p.tables e below (T0.setTop (mkF m 73 #[.val (.ref hm), .val (.ref key), .val (.ref fn), .val (.int hh), .val (.ref tb), .unset, .val (.int ((16 : Nat).toInt32)), .unset, .val (.int (0 : Int32)), .val .null, .val .null, .unset, .unset] [(.int hh), (.int (((16 : Nat).toInt32) - (1 : Int32))), (.ref tb)])) _
  refine XS.iand X0.here hx rfl (hb hby d14_73) rfl ?_
  show Steps p.tables e below (T0.setTop (mkF m 74 #[.val (.ref hm), .val (.ref key), .val (.ref fn), .val (.int hh), .val (.ref tb), .unset, .val (.int ((16 : Nat).toInt32)), .unset, .val (.int (0 : Int32)), .val .null, .val .null, .unset, .unset] [(.int ((((16 : Nat).toInt32) - (1 : Int32)) &&& hh)), (.ref tb)])) _
  refine XS.dup X0.here hx rfl (hb hby d14_74) rfl rfl ?_
  show Steps p.tables e below (T0.setTop (mkF m 75 #[.val (.ref hm), .val (.ref key), .val (.ref fn), .val (.int hh), .val (.ref tb), .unset, .val (.int ((16 : Nat).toInt32)), .unset, .val (.int (0 : Int32)), .val .null, .val .null, .unset, .unset] [(.int ((((16 : Nat).toInt32) - (1 : Int32)) &&& hh)), (.int ((((16 : Nat).toInt32) - (1 : Int32)) &&& hh)), (.ref tb)])) _
  refine XS.istore X0.here hx rfl (hb hby d14_75) rfl (l' := #[.val (.ref hm), .val (.ref key), .val (.ref fn), .val (.int hh), .val (.ref tb), .unset, .val (.int ((16 : Nat).toInt32)), .val (.int ((((16 : Nat).toInt32) - (1 : Int32)) &&& hh)), .val (.int (0 : Int32)), .val .null, .val .null, .unset, .unset]) rfl ?_
  show Steps p.tables e below (T0.setTop (mkF m 77 #[.val (.ref hm), .val (.ref key), .val (.ref fn), .val (.int hh), .val (.ref tb), .unset, .val (.int ((16 : Nat).toInt32)), .val (.int ((((16 : Nat).toInt32) - (1 : Int32)) &&& hh)), .val (.int (0 : Int32)), .val .null, .val .null, .unset, .unset] [(.int ((((16 : Nat).toInt32) - (1 : Int32)) &&& hh)), (.ref tb)])) _
  refine X0.aaload hx (j := ((((16 : Nat).toInt32) - (1 : Int32)) &&& hh)) (v := .null) (by rw [e0]; exact aA2.1) (State.isArrayOf_alike hZ.alike aA2.2.1) rfl aA2.2.2 (by rw [aS2]; exact hin77) (own_at aH2 hin77 hat77) (g := (mkF m 77 #[.val (.ref hm), .val (.ref key), .val (.ref fn), .val (.int hh), .val (.ref tb), .unset, .val (.int ((16 : Nat).toInt32)), .val (.int ((((16 : Nat).toInt32) - (1 : Int32)) &&& hh)), .val (.int (0 : Int32)), .val .null, .val .null, .unset, .unset] [(.int ((((16 : Nat).toInt32) - (1 : Int32)) &&& hh)), (.ref tb)])) rfl rfl (hb hby d14_77) _ ?_
  show Steps p.tables e below (T0.setTop (mkF m 78 #[.val (.ref hm), .val (.ref key), .val (.ref fn), .val (.int hh), .val (.ref tb), .unset, .val (.int ((16 : Nat).toInt32)), .val (.int ((((16 : Nat).toInt32) - (1 : Int32)) &&& hh)), .val (.int (0 : Int32)), .val .null, .val .null, .unset, .unset] [.null])) _
  refine XS.dup X0.here hx rfl (hb hby d14_78) rfl rfl ?_
  show Steps p.tables e below (T0.setTop (mkF m 79 #[.val (.ref hm), .val (.ref key), .val (.ref fn), .val (.int hh), .val (.ref tb), .unset, .val (.int ((16 : Nat).toInt32)), .val (.int ((((16 : Nat).toInt32) - (1 : Int32)) &&& hh)), .val (.int (0 : Int32)), .val .null, .val .null, .unset, .unset] [.null, .null])) _
  refine XS.astore X0.here hx rfl (hb hby d14_79) rfl rfl (l' := #[.val (.ref hm), .val (.ref key), .val (.ref fn), .val (.int hh), .val (.ref tb), .val .null, .val (.int ((16 : Nat).toInt32)), .val (.int ((((16 : Nat).toInt32) - (1 : Int32)) &&& hh)), .val (.int (0 : Int32)), .val .null, .val .null, .unset, .unset]) rfl ?_
  show Steps p.tables e below (T0.setTop (mkF m 81 #[.val (.ref hm), .val (.ref key), .val (.ref fn), .val (.int hh), .val (.ref tb), .val .null, .val (.int ((16 : Nat).toInt32)), .val (.int ((((16 : Nat).toInt32) - (1 : Int32)) &&& hh)), .val (.int (0 : Int32)), .val .null, .val .null, .unset, .unset] [.null])) _
  refine XS.ifnullYes X0.here hx rfl (pc0 := 81) (pc' := 194) rfl (hb hby d14_81) rfl (by decide) (by decide) ?_
  show Steps p.tables e below (T0.setTop (mkF m 194 #[.val (.ref hm), .val (.ref key), .val (.ref fn), .val (.int hh), .val (.ref tb), .val .null, .val (.int ((16 : Nat).toInt32)), .val (.int ((((16 : Nat).toInt32) - (1 : Int32)) &&& hh)), .val (.int (0 : Int32)), .val .null, .val .null, .unset, .unset] [])) _
  refine XS.aloadN X0.here hx rfl (hb hby d14_194) rfl rfl ?_
  show Steps p.tables e below (T0.setTop (mkF m 195 #[.val (.ref hm), .val (.ref key), .val (.ref fn), .val (.int hh), .val (.ref tb), .val .null, .val (.int ((16 : Nat).toInt32)), .val (.int ((((16 : Nat).toInt32) - (1 : Int32)) &&& hh)), .val (.int (0 : Int32)), .val .null, .val .null, .unset, .unset] [(.ref hm)])) _
  refine st3 _ ?_
  show Steps p.tables e below (T3.setTop (mkF m 198 #[.val (.ref hm), .val (.ref key), .val (.ref fn), .val (.int hh), .val (.ref tb), .val .null, .val (.int ((16 : Nat).toInt32)), .val (.int ((((16 : Nat).toInt32) - (1 : Int32)) &&& hh)), .val (.int (0 : Int32)), .val .null, .val .null, .unset, .unset] [(.int mc)])) _
  refine XS.istore X3.here hx rfl (hb hby d14_198) rfl (l' := #[.val (.ref hm), .val (.ref key), .val (.ref fn), .val (.int hh), .val (.ref tb), .val .null, .val (.int ((16 : Nat).toInt32)), .val (.int ((((16 : Nat).toInt32) - (1 : Int32)) &&& hh)), .val (.int (0 : Int32)), .val .null, .val .null, .val (.int mc), .unset]) rfl ?_
  show Steps p.tables e below (T3.setTop (mkF m 200 #[.val (.ref hm), .val (.ref key), .val (.ref fn), .val (.int hh), .val (.ref tb), .val .null, .val (.int ((16 : Nat).toInt32)), .val (.int ((((16 : Nat).toInt32) - (1 : Int32)) &&& hh)), .val (.int (0 : Int32)), .val .null, .val .null, .val (.int mc), .unset] [])) _
  refine XS.aloadN X3.here hx rfl (hb hby d14_200) rfl rfl ?_
  show Steps p.tables e below (T3.setTop (mkF m 201 #[.val (.ref hm), .val (.ref key), .val (.ref fn), .val (.int hh), .val (.ref tb), .val .null, .val (.int ((16 : Nat).toInt32)), .val (.int ((((16 : Nat).toInt32) - (1 : Int32)) &&& hh)), .val (.int (0 : Int32)), .val .null, .val .null, .val (.int mc), .unset] [(.ref fn)])) _
  refine XS.aloadN X3.here hx rfl (hb hby d14_201) rfl rfl ?_
  show Steps p.tables e below (T3.setTop (mkF m 202 #[.val (.ref hm), .val (.ref key), .val (.ref fn), .val (.int hh), .val (.ref tb), .val .null, .val (.int ((16 : Nat).toInt32)), .val (.int ((((16 : Nat).toInt32) - (1 : Int32)) &&& hh)), .val (.int (0 : Int32)), .val .null, .val .null, .val (.int mc), .unset] [(.ref key), (.ref fn)])) _
  exact kt
theorem d14_207 : decode jdk_69_method_35_code 207 = .ok (.astore 12, 2) := by decide +kernel
theorem d14_209 : decode jdk_69_method_35_code 209 = .ok (.iload 11, 2) := by decide +kernel
theorem d14_211 : decode jdk_69_method_35_code 211 = .ok (.aload_n 0, 1) := by decide +kernel
theorem d14_212 : decode jdk_69_method_35_code 212 = .ok (.getfield 202, 3) := by decide +kernel
theorem d14_215 : decode jdk_69_method_35_code 215 = .ok (.if_icmp .eq 11, 3) := by decide +kernel
theorem d14_226 : decode jdk_69_method_35_code 226 = .ok (.aload 12, 2) := by decide +kernel
theorem d14_228 : decode jdk_69_method_35_code 228 = .ok (.ifnonnull 5, 3) := by decide +kernel
theorem d14_233 : decode jdk_69_method_35_code 233 = .ok (.aload 10, 2) := by decide +kernel
theorem d14_235 : decode jdk_69_method_35_code 235 = .ok (.ifnull 19, 3) := by decide +kernel
theorem d14_254 : decode jdk_69_method_35_code 254 = .ok (.aload 9, 2) := by decide +kernel
theorem d14_256 : decode jdk_69_method_35_code 256 = .ok (.ifnull 19, 3) := by decide +kernel
theorem d14_275 : decode jdk_69_method_35_code 275 = .ok (.aload 4, 2) := by decide +kernel
theorem d14_277 : decode jdk_69_method_35_code 277 = .ok (.iload 7, 2) := by decide +kernel
theorem d14_279 : decode jdk_69_method_35_code 279 = .ok (.aload_n 0, 1) := by decide +kernel
theorem d14_280 : decode jdk_69_method_35_code 280 = .ok (.iload_n 3, 1) := by decide +kernel
theorem d14_281 : decode jdk_69_method_35_code 281 = .ok (.aload_n 1, 1) := by decide +kernel
theorem d14_282 : decode jdk_69_method_35_code 282 = .ok (.aload 12, 2) := by decide +kernel
theorem d14_284 : decode jdk_69_method_35_code 284 = .ok (.aload 5, 2) := by decide +kernel
theorem d21_0 : decode jdk_69_method_46_code 0 = .ok (.new 163, 3) := by decide +kernel
theorem d21_3 : decode jdk_69_method_46_code 3 = .ok (.dup, 1) := by decide +kernel
theorem d21_4 : decode jdk_69_method_46_code 4 = .ok (.iload_n 1, 1) := by decide +kernel
theorem d21_5 : decode jdk_69_method_46_code 5 = .ok (.aload_n 2, 1) := by decide +kernel
theorem d21_6 : decode jdk_69_method_46_code 6 = .ok (.aload_n 3, 1) := by decide +kernel
theorem d21_7 : decode jdk_69_method_46_code 7 = .ok (.aload 4, 2) := by decide +kernel
theorem d22_0 : decode jdk_70_method_1_code 0 = .ok (.aload_n 0, 1) := by decide +kernel
theorem d22_1 : decode jdk_70_method_1_code 1 = .ok (.invokespecial 1, 3) := by decide +kernel
theorem d22_4 : decode jdk_70_method_1_code 4 = .ok (.aload_n 0, 1) := by decide +kernel
theorem d22_5 : decode jdk_70_method_1_code 5 = .ok (.iload_n 1, 1) := by decide +kernel
theorem d22_6 : decode jdk_70_method_1_code 6 = .ok (.putfield 7, 3) := by decide +kernel
theorem d22_9 : decode jdk_70_method_1_code 9 = .ok (.aload_n 0, 1) := by decide +kernel
theorem d22_10 : decode jdk_70_method_1_code 10 = .ok (.aload_n 2, 1) := by decide +kernel
theorem d22_11 : decode jdk_70_method_1_code 11 = .ok (.putfield 13, 3) := by decide +kernel
theorem d22_14 : decode jdk_70_method_1_code 14 = .ok (.aload_n 0, 1) := by decide +kernel
theorem d22_15 : decode jdk_70_method_1_code 15 = .ok (.aload_n 3, 1) := by decide +kernel
theorem d22_16 : decode jdk_70_method_1_code 16 = .ok (.putfield 17, 3) := by decide +kernel
theorem d22_19 : decode jdk_70_method_1_code 19 = .ok (.aload_n 0, 1) := by decide +kernel
theorem d22_20 : decode jdk_70_method_1_code 20 = .ok (.aload 4, 2) := by decide +kernel
theorem d22_22 : decode jdk_70_method_1_code 22 = .ok (.putfield 20, 3) := by decide +kernel
theorem d22_25 : decode jdk_70_method_1_code 25 = .ok (.return_, 1) := by decide +kernel
theorem ef255 (m : MethodId) (x0 : Addr) (x1 : Int32) (x2 : Addr) (x3 : Addr) : entryFrame m #[(.ref x0), (.int x1), (.ref x2), (.ref x3), .null] 5 = mkF m 0 #[.val (.ref x0), .val (.int x1), .val (.ref x2), .val (.ref x3), .val .null] [] := by first | (simp [entryFrame, mkF, argsToLocals, Value.category]; done) | rfl
theorem pn256 : plainName "java/util/HashMap$Node" = true := by first | (simp [plainName, overriddenIn]; done) | decide +kernel
def Q22_15 (Z : State) (ob0 : Addr) (q0 : Int32) (ob1 : Addr) (ob2 : Addr) (h0 : Heap) (n0 : Nat) (v : Option Value) (h : Heap) (L : List Loc) : Prop := v = none ∧ Fr n0 L ∧ Keep h0 h [ob0] ∧ Old Z n0 h ∧ Exa Z h ob0 "java/util/HashMap$Node" ∧ Fld Z h ob0 "java/util/HashMap$Node" "hash" "I" (.int q0) ∧ Fld Z h ob0 "java/util/HashMap$Node" "key" "Ljava/lang/Object;" (.ref ob1) ∧ Fld Z h ob0 "java/util/HashMap$Node" "value" "Ljava/lang/Object;" (.ref ob2) ∧ Fld Z h ob0 "java/util/HashMap$Node" "next" "Ljava/util/HashMap$Node;" .null ∧ True
set_option maxRecDepth 65536 in
set_option maxHeartbeats 40000000 in
theorem rm22_15 (l : Launch) (Z : State) (a0 : Array Value) (hw : ∀ d ∈ tables_1, d.before a0 Z = true) (ws : List Jvm.Cond) (ob0 : Addr) (q0 : Int32) (ob1 : Addr) (ob2 : Addr) (h0 : Heap) (n0 : Nat) (Z0 : n0 ≤ h0.size) (O0 : Old Z n0 h0) (PE_ob0 : Exa Z h0 ob0 "java/util/HashMap$Node") (PF_ob0_hash : Fld Z h0 ob0 "java/util/HashMap$Node" "hash" "I" (.int (0 : Int32))) (PF_ob0_key : Fld Z h0 ob0 "java/util/HashMap$Node" "key" "Ljava/lang/Object;" .null) (PF_ob0_value : Fld Z h0 ob0 "java/util/HashMap$Node" "value" "Ljava/lang/Object;" .null) (PF_ob0_next : Fld Z h0 ob0 "java/util/HashMap$Node" "next" "Ljava/util/HashMap$Node;" .null) (g_ob0 : n0 ≤ ob0) :
    MetFree l (⟨"java/util/HashMap$Node", "<init>", "(ILjava/lang/Object;Ljava/lang/Object;Ljava/util/HashMap$Node;)V"⟩ : MethodName) (head1 (Jvm.Cond.code (⟨"java/util/HashMap$Node", "<init>", "(ILjava/lang/Object;Ljava/lang/Object;Ljava/util/HashMap$Node;)V"⟩ : MethodName) jdk_70_method_1_code 5 none :: ws) ({ frames := 1, cells := 0, slots := 0, locals := 12 } : Room)) (fun a U => a = #[(.ref ob0), (.int q0), (.ref ob1), (.ref ob2), .null] ∧ Z.Warmed39 U.vm ∧ U.heap = h0) (fun _ _ _ _ _ => True) (fun _ U o U' => ∃ v L, o = .returned v ∧ Q22_15 Z  ob0 q0 ob1 ob2 h0 n0 v U'.heap L ∧ FrameEnd U o U' L ({ frames := 1, cells := 0, slots := 0, locals := 12 } : Room).cells ({ frames := 1, cells := 0, slots := 0, locals := 12 } : Room).slots) := by
  refine MetFree.of_bodySF (plainFor_of_name pn256) hisR ?_
  intro p e s m args below meth c s₁ Bd hml0 hP hK
  obtain ⟨rfl, hZ, hh⟩ := hP
  have hx := Bd.exec
  have hby := Bd.bytes
  have hml : c.maxLocals = 5 := hml0
  have hown : s.vm.findClass "java/util/HashMap$Node" = some m.cls := findClass_of_methodNamed Bd.named
  have hnm := (name_of_methodNamed Bd.named Bd.method).1
  have X0 : Stand p l e ({ frames := 1, cells := 0, slots := 0, locals := 12 } : Room) s m #[(.ref ob0), (.int q0), (.ref ob1), (.ref ob2), .null] below meth c s₁ [] 0 0 := Stand.of_body Bd
  have e0 : s₁.heap = h0 := by rw [← hh, Bd.state]; rfl
  have N0 := Fr.nil n0
  have pre0 : ∀ t, Steps p.tables e below (s₁.setTop (mkF m 0 #[.val (.ref ob0), .val (.int q0), .val (.ref ob1), .val (.ref ob2), .val .null] [])) t → Steps p.tables e below (s₁.setTop (entryFrame m #[(.ref ob0), (.int q0), (.ref ob1), (.ref ob2), .null] 5)) t := fun t k => castTop (ef255 m ob0 q0 ob1 ob2) k
  obtain ⟨T1, X1, e1, st1⟩ := initO X0 hx hZ hown (hw _ (List.mem_of_getElem? (i := 143) rfl)) (hw _ (List.mem_of_getElem? (i := 7) rfl)) (hw _ (List.mem_of_getElem? (i := 8) rfl)) e0 (g := (mkF m 1 #[.val (.ref ob0), .val (.int q0), .val (.ref ob1), .val (.ref ob2), .val .null] [(.ref ob0)])) rfl (by rw [hml]; rfl) rfl (hb hby d22_1) (by decide) (W := 0) (by show 2 * 0 + _ ≤ _; exact Nat.le_of_eq rfl) (by decide)
  obtain ⟨T2, h2, X2, e2, W2, st2⟩ := putF X1 hx hZ hown (host := "") (Or.inl (hw _ (List.mem_of_getElem? (i := 144) rfl))) Via.refl e1 PF_ob0_hash PE_ob0 (Or.inr ⟨(hw _ (List.mem_of_getElem? (i := 145) rfl)), rfl, hnm⟩) (hw _ (List.mem_of_getElem? (i := 137) rfl)) (ty := .int) (by decide) rfl rfl (g := (mkF m 6 #[.val (.ref ob0), .val (.int q0), .val (.ref ob1), .val (.ref ob2), .val .null] [(.int q0), (.ref ob0)])) rfl rfl (hb hby d22_6)
  have Fw2 := PF_ob0_hash.same W2
  have N2 := Fr.snoc X2 N0 g_ob0
  have O2 := O0.wr W2 g_ob0
  have KK2 : Keep h0 h2 [ob0] := (Keep.refl h0 [ob0]).wr W2 (Or.inl (List.mem_of_getElem? (i := 0) rfl))
  obtain ⟨T3, h3, X3, e3, W3, st3⟩ := putF X2 hx hZ hown (host := "") (Or.inl (hw _ (List.mem_of_getElem? (i := 146) rfl))) Via.refl e2 (PF_ob0_key.other W2 (Or.inr (slot_ne (Or.inr (hw _ (List.mem_of_getElem? (i := 147) rfl))) (Or.inr (hw _ (List.mem_of_getElem? (i := 145) rfl))) (by decide) (t := (.object "java/lang/Object")) (t' := .int) (by decide) (by decide)))) (PE_ob0.wr W2) (Or.inr ⟨(hw _ (List.mem_of_getElem? (i := 147) rfl)), rfl, hnm⟩) (hw _ (List.mem_of_getElem? (i := 137) rfl)) (ty := (.object "java/lang/Object")) (by decide) rfl rfl (g := (mkF m 11 #[.val (.ref ob0), .val (.int q0), .val (.ref ob1), .val (.ref ob2), .val .null] [(.ref ob1), (.ref ob0)])) rfl rfl (hb hby d22_11)
  have Fw3 := (PF_ob0_key.other W2 (Or.inr (slot_ne (Or.inr (hw _ (List.mem_of_getElem? (i := 147) rfl))) (Or.inr (hw _ (List.mem_of_getElem? (i := 145) rfl))) (by decide) (t := (.object "java/lang/Object")) (t' := .int) (by decide) (by decide)))).same W3
  have N3 := Fr.snoc X3 N2 g_ob0
  have O3 := O2.wr W3 g_ob0
  have KK3 : Keep h0 h3 [ob0] := KK2.wr W3 (Or.inl (List.mem_of_getElem? (i := 0) rfl))
  obtain ⟨T4, h4, X4, e4, W4, st4⟩ := putF X3 hx hZ hown (host := "") (Or.inl (hw _ (List.mem_of_getElem? (i := 148) rfl))) Via.refl e3 ((PF_ob0_value.other W2 (Or.inr (slot_ne (Or.inl (hw _ (List.mem_of_getElem? (i := 149) rfl))) (Or.inr (hw _ (List.mem_of_getElem? (i := 145) rfl))) (by decide) (t := (.object "java/lang/Object")) (t' := .int) (by decide) (by decide)))).other W3 (Or.inr (slot_ne (Or.inl (hw _ (List.mem_of_getElem? (i := 149) rfl))) (Or.inr (hw _ (List.mem_of_getElem? (i := 147) rfl))) (by decide) (t := (.object "java/lang/Object")) (t' := (.object "java/lang/Object")) (by decide) (by decide)))) ((PE_ob0.wr W2).wr W3) (Or.inl (hw _ (List.mem_of_getElem? (i := 149) rfl))) (hw _ (List.mem_of_getElem? (i := 137) rfl)) (ty := (.object "java/lang/Object")) (by decide) rfl rfl (g := (mkF m 16 #[.val (.ref ob0), .val (.int q0), .val (.ref ob1), .val (.ref ob2), .val .null] [(.ref ob2), (.ref ob0)])) rfl rfl (hb hby d22_16)
  have Fw4 := ((PF_ob0_value.other W2 (Or.inr (slot_ne (Or.inl (hw _ (List.mem_of_getElem? (i := 149) rfl))) (Or.inr (hw _ (List.mem_of_getElem? (i := 145) rfl))) (by decide) (t := (.object "java/lang/Object")) (t' := .int) (by decide) (by decide)))).other W3 (Or.inr (slot_ne (Or.inl (hw _ (List.mem_of_getElem? (i := 149) rfl))) (Or.inr (hw _ (List.mem_of_getElem? (i := 147) rfl))) (by decide) (t := (.object "java/lang/Object")) (t' := (.object "java/lang/Object")) (by decide) (by decide)))).same W4
  have N4 := Fr.snoc X4 N3 g_ob0
  have O4 := O3.wr W4 g_ob0
  have KK4 : Keep h0 h4 [ob0] := KK3.wr W4 (Or.inl (List.mem_of_getElem? (i := 0) rfl))
  have J5 := (((PF_ob0_next.other W2 (Or.inr (slot_ne (Or.inl (hw _ (List.mem_of_getElem? (i := 151) rfl))) (Or.inr (hw _ (List.mem_of_getElem? (i := 145) rfl))) (by decide) (t := (.object "java/util/HashMap$Node")) (t' := .int) (by decide) (by decide)))).other W3 (Or.inr (slot_ne (Or.inl (hw _ (List.mem_of_getElem? (i := 151) rfl))) (Or.inr (hw _ (List.mem_of_getElem? (i := 147) rfl))) (by decide) (t := (.object "java/util/HashMap$Node")) (t' := (.object "java/lang/Object")) (by decide) (by decide)))).other W4 (Or.inr (slot_ne (Or.inl (hw _ (List.mem_of_getElem? (i := 151) rfl))) (Or.inl (hw _ (List.mem_of_getElem? (i := 149) rfl))) (by decide) (t := (.object "java/util/HashMap$Node")) (t' := (.object "java/lang/Object")) (by decide) (by decide))))
  have J6 := (((PE_ob0.wr W2).wr W3).wr W4)
  obtain ⟨T7, h7, X7, e7, W7, st7⟩ := putF X4 hx hZ hown (host := "") (Or.inl (hw _ (List.mem_of_getElem? (i := 150) rfl))) Via.refl e4 J5 J6 (Or.inl (hw _ (List.mem_of_getElem? (i := 151) rfl))) (hw _ (List.mem_of_getElem? (i := 137) rfl)) (ty := (.object "java/util/HashMap$Node")) (by decide) rfl rfl (g := (mkF m 22 #[.val (.ref ob0), .val (.int q0), .val (.ref ob1), .val (.ref ob2), .val .null] [.null, (.ref ob0)])) rfl rfl (hb hby d22_22)
  have Fw7 := J5.same W7
  have N7 := Fr.snoc X7 N4 g_ob0
  have O7 := O4.wr W7 g_ob0
  have KK7 : Keep h0 h7 [ob0] := KK4.wr W7 (Or.inl (List.mem_of_getElem? (i := 0) rfl))
  have J8 := (((Fw2.other W3 (Or.inr (slot_ne (Or.inr (hw _ (List.mem_of_getElem? (i := 145) rfl))) (Or.inr (hw _ (List.mem_of_getElem? (i := 147) rfl))) (by decide) (t := .int) (t' := (.object "java/lang/Object")) (by decide) (by decide)))).other W4 (Or.inr (slot_ne (Or.inr (hw _ (List.mem_of_getElem? (i := 145) rfl))) (Or.inl (hw _ (List.mem_of_getElem? (i := 149) rfl))) (by decide) (t := .int) (t' := (.object "java/lang/Object")) (by decide) (by decide)))).other W7 (Or.inr (slot_ne (Or.inr (hw _ (List.mem_of_getElem? (i := 145) rfl))) (Or.inl (hw _ (List.mem_of_getElem? (i := 151) rfl))) (by decide) (t := .int) (t' := (.object "java/util/HashMap$Node")) (by decide) (by decide))))
  obtain ⟨fs, hr, hrun, hended, hW, hsame⟩ := X7.leave (v := none) (fun _ => rfl)
  refine ⟨_, _, pre0 _ ?_, hrun, hended, _, _, rfl, ?_, ⟨_, rfl⟩, hW, hsame.mono (by decide) (by decide)⟩
  · show Steps p.tables e below (s₁.setTop (mkF m 0 #[.val (.ref ob0), .val (.int q0), .val (.ref ob1), .val (.ref ob2), .val .null] [])) _
    refine XS.aloadN X0.here hx rfl (hb hby d22_0) rfl rfl ?_
    show Steps p.tables e below (s₁.setTop (mkF m 1 #[.val (.ref ob0), .val (.int q0), .val (.ref ob1), .val (.ref ob2), .val .null] [(.ref ob0)])) _
    refine st1 _ ?_
    show Steps p.tables e below (T1.setTop (mkF m 4 #[.val (.ref ob0), .val (.int q0), .val (.ref ob1), .val (.ref ob2), .val .null] [])) _
    refine XS.aloadN X1.here hx rfl (hb hby d22_4) rfl rfl ?_
    show Steps p.tables e below (T1.setTop (mkF m 5 #[.val (.ref ob0), .val (.int q0), .val (.ref ob1), .val (.ref ob2), .val .null] [(.ref ob0)])) _
    refine XS.iloadN X1.here hx rfl (hb hby d22_5) rfl ?_
    show Steps p.tables e below (T1.setTop (mkF m 6 #[.val (.ref ob0), .val (.int q0), .val (.ref ob1), .val (.ref ob2), .val .null] [(.int q0), (.ref ob0)])) _
    refine st2 _ ?_
    show Steps p.tables e below (T2.setTop (mkF m 9 #[.val (.ref ob0), .val (.int q0), .val (.ref ob1), .val (.ref ob2), .val .null] [])) _
    refine XS.aloadN X2.here hx rfl (hb hby d22_9) rfl rfl ?_
    show Steps p.tables e below (T2.setTop (mkF m 10 #[.val (.ref ob0), .val (.int q0), .val (.ref ob1), .val (.ref ob2), .val .null] [(.ref ob0)])) _
    refine XS.aloadN X2.here hx rfl (hb hby d22_10) rfl rfl ?_
    show Steps p.tables e below (T2.setTop (mkF m 11 #[.val (.ref ob0), .val (.int q0), .val (.ref ob1), .val (.ref ob2), .val .null] [(.ref ob1), (.ref ob0)])) _
    refine st3 _ ?_
    show Steps p.tables e below (T3.setTop (mkF m 14 #[.val (.ref ob0), .val (.int q0), .val (.ref ob1), .val (.ref ob2), .val .null] [])) _
    refine XS.aloadN X3.here hx rfl (hb hby d22_14) rfl rfl ?_
    show Steps p.tables e below (T3.setTop (mkF m 15 #[.val (.ref ob0), .val (.int q0), .val (.ref ob1), .val (.ref ob2), .val .null] [(.ref ob0)])) _
    refine XS.aloadN X3.here hx rfl (hb hby d22_15) rfl rfl ?_
    show Steps p.tables e below (T3.setTop (mkF m 16 #[.val (.ref ob0), .val (.int q0), .val (.ref ob1), .val (.ref ob2), .val .null] [(.ref ob2), (.ref ob0)])) _
    refine st4 _ ?_
    show Steps p.tables e below (T4.setTop (mkF m 19 #[.val (.ref ob0), .val (.int q0), .val (.ref ob1), .val (.ref ob2), .val .null] [])) _
    refine XS.aloadN X4.here hx rfl (hb hby d22_19) rfl rfl ?_
    show Steps p.tables e below (T4.setTop (mkF m 20 #[.val (.ref ob0), .val (.int q0), .val (.ref ob1), .val (.ref ob2), .val .null] [(.ref ob0)])) _
    refine XS.aload X4.here hx rfl (hb hby d22_20) rfl rfl ?_
    show Steps p.tables e below (T4.setTop (mkF m 22 #[.val (.ref ob0), .val (.int q0), .val (.ref ob1), .val (.ref ob2), .val .null] [.null, (.ref ob0)])) _
    refine st7 _ ?_
    show Steps p.tables e below (T7.setTop (mkF m 25 #[.val (.ref ob0), .val (.int q0), .val (.ref ob1), .val (.ref ob2), .val .null] [])) _
    exact X7.returnOut hx Bd.returns (hb hby d22_25) hr
  · have eH : (T7.setFrames fs).heap = h7 := e7; rw [eH]; exact ⟨rfl, N7, KK7, O7, (J6.wr W7), J8, ((Fw3.other W4 (Or.inr (slot_ne (Or.inr (hw _ (List.mem_of_getElem? (i := 147) rfl))) (Or.inl (hw _ (List.mem_of_getElem? (i := 149) rfl))) (by decide) (t := (.object "java/lang/Object")) (t' := (.object "java/lang/Object")) (by decide) (by decide)))).other W7 (Or.inr (slot_ne (Or.inr (hw _ (List.mem_of_getElem? (i := 147) rfl))) (Or.inl (hw _ (List.mem_of_getElem? (i := 151) rfl))) (by decide) (t := (.object "java/lang/Object")) (t' := (.object "java/util/HashMap$Node")) (by decide) (by decide)))), (Fw4.other W7 (Or.inr (slot_ne (Or.inl (hw _ (List.mem_of_getElem? (i := 149) rfl))) (Or.inl (hw _ (List.mem_of_getElem? (i := 151) rfl))) (by decide) (t := (.object "java/lang/Object")) (t' := (.object "java/util/HashMap$Node")) (by decide) (by decide)))), Fw7, trivial⟩
theorem pd257 : parseMethodDescriptor "(ILjava/lang/Object;Ljava/lang/Object;Ljava/util/HashMap$Node;)V" = some ⟨[.int, (.object "java/lang/Object"), (.object "java/lang/Object"), (.object "java/util/HashMap$Node")], none⟩ := by decide +kernel
theorem d21_9 : decode jdk_69_method_46_code 9 = .ok (.invokespecial 375, 3) := by decide +kernel
theorem d21_12 : decode jdk_69_method_46_code 12 = .ok (.areturn, 1) := by decide +kernel
theorem ef261 (m : MethodId) (x0 : Addr) (x1 : Int32) (x2 : Addr) (x3 : Addr) : entryFrame m #[(.ref x0), (.int x1), (.ref x2), (.ref x3), .null] 5 = mkF m 0 #[.val (.ref x0), .val (.int x1), .val (.ref x2), .val (.ref x3), .val .null] [] := by first | (simp [entryFrame, mkF, argsToLocals, Value.category]; done) | rfl
def Q21_16 (Z : State) (ob0 : Addr) (q0 : Int32) (ob1 : Addr) (ob2 : Addr) (h0 : Heap) (n0 : Nat) (v : Option Value) (h : Heap) (L : List Loc) : Prop := ∃ b1 : Addr, v = some (.ref b1) ∧ Fr n0 L ∧ Keep h0 h [] ∧ Old Z n0 h ∧ h0.size ≤ b1 ∧ Exa Z h b1 "java/util/HashMap$Node" ∧ Fld Z h b1 "java/util/HashMap$Node" "hash" "I" (.int q0) ∧ Fld Z h b1 "java/util/HashMap$Node" "key" "Ljava/lang/Object;" (.ref ob1) ∧ Fld Z h b1 "java/util/HashMap$Node" "value" "Ljava/lang/Object;" (.ref ob2) ∧ Fld Z h b1 "java/util/HashMap$Node" "next" "Ljava/util/HashMap$Node;" .null ∧ True
set_option maxRecDepth 65536 in
set_option maxHeartbeats 40000000 in
theorem rm21_16 (l : Launch) (Z : State) (a0 : Array Value) (hw : ∀ d ∈ tables_1, d.before a0 Z = true) (ws : List Jvm.Cond) (ob0 : Addr) (q0 : Int32) (ob1 : Addr) (ob2 : Addr) (h0 : Heap) (n0 : Nat) (Z0 : n0 ≤ h0.size) (O0 : Old Z n0 h0) (PE_ob0 : Exa Z h0 ob0 "java/util/HashMap") (PF_ob0_modCount : Fld Z h0 ob0 "java/util/HashMap" "modCount" "I" (.int (0 : Int32))) (PF_ob0_size : Fld Z h0 ob0 "java/util/HashMap" "size" "I" (.int (0 : Int32))) :
    MetFree l (⟨"java/util/HashMap", "newNode", "(ILjava/lang/Object;Ljava/lang/Object;Ljava/util/HashMap$Node;)Ljava/util/HashMap$Node;"⟩ : MethodName) (head1 (Jvm.Cond.code (⟨"java/util/HashMap", "newNode", "(ILjava/lang/Object;Ljava/lang/Object;Ljava/util/HashMap$Node;)Ljava/util/HashMap$Node;"⟩ : MethodName) jdk_69_method_46_code 5 (some (.object "java/util/HashMap$Node")) :: ws) ({ frames := 2, cells := 1, slots := 4, locals := 29 } : Room)) (fun a U => a = #[(.ref ob0), (.int q0), (.ref ob1), (.ref ob2), .null] ∧ Z.Warmed39 U.vm ∧ U.heap = h0) (fun _ _ _ _ _ => True) (fun _ U o U' => ∃ v L, o = .returned v ∧ Q21_16 Z  ob0 q0 ob1 ob2 h0 n0 v U'.heap L ∧ FrameEnd U o U' L ({ frames := 2, cells := 1, slots := 4, locals := 29 } : Room).cells ({ frames := 2, cells := 1, slots := 4, locals := 29 } : Room).slots) := by
  refine MetFree.of_bodySF (plainFor_of_name pn31) hisR ?_
  intro p e s m args below meth c s₁ Bd hml0 hP hK
  obtain ⟨rfl, hZ, hh⟩ := hP
  have hx := Bd.exec
  have hby := Bd.bytes
  have hml : c.maxLocals = 5 := hml0
  have hown : s.vm.findClass "java/util/HashMap" = some m.cls := findClass_of_methodNamed Bd.named
  have hnm := (name_of_methodNamed Bd.named Bd.method).1
  have X0 : Stand p l e ({ frames := 2, cells := 1, slots := 4, locals := 29 } : Room) s m #[(.ref ob0), (.int q0), (.ref ob1), (.ref ob2), .null] below meth c s₁ [] 0 0 := Stand.of_body Bd
  have e0 : s₁.heap = h0 := by rw [← hh, Bd.state]; rfl
  have N0 := Fr.nil n0
  have pre0 : ∀ t, Steps p.tables e below (s₁.setTop (mkF m 0 #[.val (.ref ob0), .val (.int q0), .val (.ref ob1), .val (.ref ob2), .val .null] [])) t → Steps p.tables e below (s₁.setTop (entryFrame m #[(.ref ob0), (.int q0), (.ref ob1), (.ref ob2), .null] 5)) t := fun t k => castTop (ef261 m ob0 q0 ob1 ob2) k
  obtain ⟨T1, h1, X1, e1, E1, A1, D1, -, st1⟩ := newO X0 hx hZ hown (hw _ (List.mem_of_getElem? (i := 115) rfl)) (hw _ (List.mem_of_getElem? (i := 137) rfl)) (hw _ (List.mem_of_getElem? (i := 138) rfl)) e0 (g := (mkF m 0 #[.val (.ref ob0), .val (.int q0), .val (.ref ob1), .val (.ref ob2), .val .null] [])) rfl (hb hby d21_0) (by decide) (by decide)
  obtain ⟨b1, gg1⟩ : ∃ z, z = h0.size := ⟨_, rfl⟩
  rw [← gg1] at A1 D1 st1
  have bo_b1 : h0.size ≤ b1 := Nat.le_of_eq gg1.symm
  have g_b1 : n0 ≤ b1 := Nat.le_trans (own_n0 O0) bo_b1
  have sz_b1 : h0.size ≤ b1 := Nat.le_trans (Keep.refl h0 []).1 bo_b1
  have KK1 : Keep h0 h1 [] := (Keep.refl h0 []).ext E1
  have O1 := O0.ext E1
  have lb_b1 : b1 < h1.size := A1.lt
  have F_hash_b1 : Fld Z h1 b1 "java/util/HashMap$Node" "hash" "I" (.int (0 : Int32)) := D1 (Or.inr (hw _ (List.mem_of_getElem? (i := 145) rfl))) (ty := .int) (by decide)
  have F_key_b1 : Fld Z h1 b1 "java/util/HashMap$Node" "key" "Ljava/lang/Object;" .null := D1 (Or.inr (hw _ (List.mem_of_getElem? (i := 147) rfl))) (ty := (.object "java/lang/Object")) (by decide)
  have F_value_b1 : Fld Z h1 b1 "java/util/HashMap$Node" "value" "Ljava/lang/Object;" .null := D1 (Or.inl (hw _ (List.mem_of_getElem? (i := 149) rfl))) (ty := (.object "java/lang/Object")) (by decide)
  have F_next_b1 : Fld Z h1 b1 "java/util/HashMap$Node" "next" "Ljava/util/HashMap$Node;" .null := D1 (Or.inl (hw _ (List.mem_of_getElem? (i := 151) rfl))) (ty := (.object "java/util/HashMap$Node")) (by decide)
  obtain ⟨_, _, ⟨T2, L2, k2, n2⟩, -, X2, ⟨Lc2, hQ2, l2, y2, z2⟩, st2⟩ := X1.specialBack hx (y := (⟨"java/util/HashMap$Node", "<init>", "(ILjava/lang/Object;Ljava/lang/Object;Ljava/util/HashMap$Node;)V"⟩ : MethodName)) rfl hown (mvT hZ (hw _ (List.mem_of_getElem? (i := 139) rfl))) (mvT hZ (hw _ (List.mem_of_getElem? (i := 140) rfl))) (mvT hZ (hw _ (List.mem_of_getElem? (i := 142) rfl))) (by decide) (backOf (W := 1) (rm22_15 l Z a0 hw []  b1 q0 ob1 ob2 h1 n0 (own_n0 O1) O1 A1 F_hash_b1 F_key_b1 F_value_b1 F_next_b1 g_b1) hZ (hw _ (List.mem_of_getElem? (i := 142) rfl)) (hw _ (List.mem_of_getElem? (i := 138) rfl)) (by decide) (by decide)) (g := (mkF m 9 #[.val (.ref ob0), .val (.int q0), .val (.ref ob1), .val (.ref ob2), .val .null] [.null, (.ref ob2), (.ref ob1), (.int q0), (.ref b1), (.ref b1)])) rfl (by rw [hml]; rfl) (Steps.refl _) (a := b1) (argsL := [(.int q0), (.ref ob1), (.ref ob2), .null]) (rest := [(.ref b1)]) (lenOf pd257 rfl) rfl (by show 2 * 0 + _ ≤ _; exact Nat.le_of_eq rfl) (hb hby d21_9) (fun _ _ => ⟨rfl, e1, (by decide : 1 + 0 ≤ _), (by decide : 4 + 0 ≤ _)⟩)
  dsimp only [Pt.U, Pt.locs, Pt.cells, Pt.slots] at X2 l2 y2 z2 st2 hQ2
  subst l2 y2 z2
  obtain ⟨rfl, N2q, K2, O2, pf2_0, pf2_1, pf2_2, pf2_3, pf2_4, -⟩ := hQ2
  have KK2 : Keep h0 T2.heap [] := KK1.trans K2 (allS (Or.inr sz_b1) all0)
  have N2 := Fr.app N0 N2q
  obtain ⟨fs, hr, hrun, hended, hW, hsame⟩ := X2.leave (v := some (.ref b1)) (fun h => by rw [Bd.returns] at h; cases h)
  refine ⟨_, _, pre0 _ ?_, hrun, hended, _, _, rfl, ?_, ⟨_, rfl⟩, hW, hsame.mono (by decide) (by decide)⟩
  · show Steps p.tables e below (s₁.setTop (mkF m 0 #[.val (.ref ob0), .val (.int q0), .val (.ref ob1), .val (.ref ob2), .val .null] [])) _
    refine st1 _ ?_
    show Steps p.tables e below (T1.setTop (mkF m 3 #[.val (.ref ob0), .val (.int q0), .val (.ref ob1), .val (.ref ob2), .val .null] [(.ref b1)])) _
    refine XS.dup X1.here hx rfl (hb hby d21_3) rfl rfl ?_
    show Steps p.tables e below (T1.setTop (mkF m 4 #[.val (.ref ob0), .val (.int q0), .val (.ref ob1), .val (.ref ob2), .val .null] [(.ref b1), (.ref b1)])) _
    refine XS.iloadN X1.here hx rfl (hb hby d21_4) rfl ?_
    show Steps p.tables e below (T1.setTop (mkF m 5 #[.val (.ref ob0), .val (.int q0), .val (.ref ob1), .val (.ref ob2), .val .null] [(.int q0), (.ref b1), (.ref b1)])) _
    refine XS.aloadN X1.here hx rfl (hb hby d21_5) rfl rfl ?_
    show Steps p.tables e below (T1.setTop (mkF m 6 #[.val (.ref ob0), .val (.int q0), .val (.ref ob1), .val (.ref ob2), .val .null] [(.ref ob1), (.int q0), (.ref b1), (.ref b1)])) _
    refine XS.aloadN X1.here hx rfl (hb hby d21_6) rfl rfl ?_
    show Steps p.tables e below (T1.setTop (mkF m 7 #[.val (.ref ob0), .val (.int q0), .val (.ref ob1), .val (.ref ob2), .val .null] [(.ref ob2), (.ref ob1), (.int q0), (.ref b1), (.ref b1)])) _
    refine XS.aload X1.here hx rfl (hb hby d21_7) rfl rfl ?_
    show Steps p.tables e below (T1.setTop (mkF m 9 #[.val (.ref ob0), .val (.int q0), .val (.ref ob1), .val (.ref ob2), .val .null] [.null, (.ref ob2), (.ref ob1), (.int q0), (.ref b1), (.ref b1)])) _
    refine st2.trans ?_
    show Steps p.tables e below (T2.setTop (mkF m 12 #[.val (.ref ob0), .val (.int q0), .val (.ref ob1), .val (.ref ob2), .val .null] [(.ref b1)])) _
    jvm_step X2.here [X2.here.top, hx, (hb hby d21_12), X2.method', Bd.returns, Value.isRef, FieldType.isReference]
    first | (intro acts; rw [hr _ acts rfl rfl rfl]) | rw [hr _ _ rfl rfl rfl]
    exact Steps.refl _
  · exact ⟨b1, rfl, N2, KK2, O2, sz_b1, pf2_0, pf2_1, pf2_2, pf2_3, pf2_4, trivial⟩
theorem pd262 : parseMethodDescriptor "(ILjava/lang/Object;Ljava/lang/Object;Ljava/util/HashMap$Node;)Ljava/util/HashMap$Node;" = some ⟨[.int, (.object "java/lang/Object"), (.object "java/lang/Object"), (.object "java/util/HashMap$Node")], some (.object "java/util/HashMap$Node")⟩ := by decide +kernel
theorem d14_286 : decode jdk_69_method_35_code 286 = .ok (.invokevirtual 186, 3) := by decide +kernel
theorem d14_289 : decode jdk_69_method_35_code 289 = .ok (.aastore, 1) := by decide +kernel
theorem d14_290 : decode jdk_69_method_35_code 290 = .ok (.iload 8, 2) := by decide +kernel
theorem d14_292 : decode jdk_69_method_35_code 292 = .ok (.bipush 7, 2) := by decide +kernel
theorem d14_294 : decode jdk_69_method_35_code 294 = .ok (.if_icmp .lt 10, 3) := by decide +kernel
theorem d14_304 : decode jdk_69_method_35_code 304 = .ok (.aload_n 0, 1) := by decide +kernel
theorem d14_305 : decode jdk_69_method_35_code 305 = .ok (.iload 11, 2) := by decide +kernel
theorem d14_307 : decode jdk_69_method_35_code 307 = .ok (.iconst 1, 1) := by decide +kernel
theorem d14_308 : decode jdk_69_method_35_code 308 = .ok (.iadd, 1) := by decide +kernel
theorem d14_309 : decode jdk_69_method_35_code 309 = .ok (.putfield 202, 3) := by decide +kernel
theorem d14_312 : decode jdk_69_method_35_code 312 = .ok (.aload_n 0, 1) := by decide +kernel
theorem d14_313 : decode jdk_69_method_35_code 313 = .ok (.dup, 1) := by decide +kernel
theorem d14_314 : decode jdk_69_method_35_code 314 = .ok (.getfield 156, 3) := by decide +kernel
theorem d14_317 : decode jdk_69_method_35_code 317 = .ok (.iconst 1, 1) := by decide +kernel
theorem d14_318 : decode jdk_69_method_35_code 318 = .ok (.iadd, 1) := by decide +kernel
theorem d14_319 : decode jdk_69_method_35_code 319 = .ok (.putfield 156, 3) := by decide +kernel
theorem d14_322 : decode jdk_69_method_35_code 322 = .ok (.aload_n 0, 1) := by decide +kernel
theorem d14_323 : decode jdk_69_method_35_code 323 = .ok (.iconst 1, 1) := by decide +kernel
theorem d23_0 : decode jdk_69_method_52_code 0 = .ok (.return_, 1) := by decide +kernel
theorem ef283 (m : MethodId) (x0 : Addr) (x1 : Int32) : entryFrame m #[(.ref x0), (.int x1)] 2 = mkF m 0 #[.val (.ref x0), .val (.int x1)] [] := by first | (simp [entryFrame, mkF, argsToLocals, Value.category]; done) | rfl
def Q23_17 (Z : State) (ob0 : Addr) (h0 : Heap) (n0 : Nat) (v : Option Value) (h : Heap) (L : List Loc) : Prop := v = none ∧ Fr n0 L ∧ h = h0
set_option maxRecDepth 65536 in
set_option maxHeartbeats 40000000 in
theorem rm23_17 (l : Launch) (Z : State) (a0 : Array Value) (hw : ∀ d ∈ tables_1, d.before a0 Z = true) (ws : List Jvm.Cond) (ob0 : Addr) (h0 : Heap) (n0 : Nat) (Z0 : n0 ≤ h0.size) (O0 : Old Z n0 h0) (PE_ob0 : Exa Z h0 ob0 "java/util/HashMap") (PF_ob0_modCount : Fld Z h0 ob0 "java/util/HashMap" "modCount" "I" (.int (1 : Int32))) (PF_ob0_size : Fld Z h0 ob0 "java/util/HashMap" "size" "I" (.int (1 : Int32))) :
    MetFree l (⟨"java/util/HashMap", "afterNodeInsertion", "(Z)V"⟩ : MethodName) (head1 (Jvm.Cond.code (⟨"java/util/HashMap", "afterNodeInsertion", "(Z)V"⟩ : MethodName) jdk_69_method_52_code 2 none :: ws) ({ frames := 0, cells := 0, slots := 0, locals := 0 } : Room)) (fun a U => a = #[(.ref ob0), (.int (1 : Int32))] ∧ Z.Warmed39 U.vm ∧ U.heap = h0) (fun _ _ _ _ _ => True) (fun _ U o U' => ∃ v L, o = .returned v ∧ Q23_17 Z  ob0 h0 n0 v U'.heap L ∧ FrameEnd U o U' L ({ frames := 0, cells := 0, slots := 0, locals := 0 } : Room).cells ({ frames := 0, cells := 0, slots := 0, locals := 0 } : Room).slots) := by
  refine MetFree.of_bodySF (plainFor_of_name pn31) hisR ?_
  intro p e s m args below meth c s₁ Bd hml0 hP hK
  obtain ⟨rfl, hZ, hh⟩ := hP
  have hx := Bd.exec
  have hby := Bd.bytes
  have hml : c.maxLocals = 2 := hml0
  have hown : s.vm.findClass "java/util/HashMap" = some m.cls := findClass_of_methodNamed Bd.named
  have hnm := (name_of_methodNamed Bd.named Bd.method).1
  have X0 : Stand p l e ({ frames := 0, cells := 0, slots := 0, locals := 0 } : Room) s m #[(.ref ob0), (.int (1 : Int32))] below meth c s₁ [] 0 0 := Stand.of_body Bd
  have e0 : s₁.heap = h0 := by rw [← hh, Bd.state]; rfl
  have N0 := Fr.nil n0
  have pre0 : ∀ t, Steps p.tables e below (s₁.setTop (mkF m 0 #[.val (.ref ob0), .val (.int (1 : Int32))] [])) t → Steps p.tables e below (s₁.setTop (entryFrame m #[(.ref ob0), (.int (1 : Int32))] 2)) t := fun t k => castTop (ef283 m ob0 (1 : Int32)) k
  obtain ⟨fs, hr, hrun, hended, hW, hsame⟩ := X0.leave (v := none) (fun _ => rfl)
  refine ⟨_, _, pre0 _ ?_, hrun, hended, _, _, rfl, ?_, ⟨_, rfl⟩, hW, hsame.mono (by decide) (by decide)⟩
  · show Steps p.tables e below (s₁.setTop (mkF m 0 #[.val (.ref ob0), .val (.int (1 : Int32))] [])) _
    exact X0.returnOut hx Bd.returns (hb hby d23_0) hr
  · exact ⟨rfl, N0, e0⟩
theorem pd284 : parseMethodDescriptor "(Z)V" = some ⟨[.boolean], none⟩ := by decide +kernel
theorem d14_324 : decode jdk_69_method_35_code 324 = .ok (.invokevirtual 205, 3) := by decide +kernel
theorem d14_327 : decode jdk_69_method_35_code 327 = .ok (.aload 12, 2) := by decide +kernel
theorem d14_329 : decode jdk_69_method_35_code 329 = .ok (.areturn, 1) := by decide +kernel
set_option maxRecDepth 65536 in
set_option maxHeartbeats 40000000 in
theorem ciC {p : Program} {l : Launch} {e : Env} {s : State} {m : MethodId} {args : Array Value} {below : List Frame} {meth : Method} {c : Code} {T0 : State} {locs : List Loc} {Z : State} {a0 : Array Value} {h0 : Heap} {n0 : Nat} (hm : Addr) (key : Addr) (fn : Addr) (hh : Int32) (tb : Addr) (n16 : Int32) (ix : Int32) (val : Addr) (k_tb : ClassId) (ft : Nat → Value)
    (X0 : Stand p l e ({ frames := 5, cells := 2, slots := 20, locals := 120 } : Room) s m args below meth c T0 locs 1 16) (hx : p.tables.exec = Jvm.exec) (hZ : Z.Warmed39 s.vm) (hw : ∀ d ∈ tables_1, d.before a0 Z = true) (hby : c.code = jdk_69_method_35_code) (hml : c.maxLocals = 13) (hown : s.vm.findClass "java/util/HashMap" = some m.cls) (e0 : T0.heap = h0) (N0 : Fr n0 locs) (O0 : Old Z n0 h0) (OX : Ovr Z k_tb "java/util/HashMap$Node") (PE_hm : Exa Z h0 hm "java/util/HashMap") (PF_hm_modCount : Fld Z h0 hm "java/util/HashMap" "modCount" "I" (.int (0 : Int32))) (PF_hm_size : Fld Z h0 hm "java/util/HashMap" "size" "I" (.int (0 : Int32))) (PA_tb : Ars Z h0 tb k_tb (.object "java/util/HashMap$Node") (16 : Nat) ft) (ne_hm_tb : hm ≠ tb) (g_tb : n0 ≤ tb) (g_hm : n0 ≤ hm) (hin289 : ¬ (ix < 0 ∨ (16 : Nat) ≤ (ix).toNatClampNeg)) (hret : meth.sig.returnType = some (.object "java/lang/Object")) (hlk : meth.locks = false) {entry : State} (pre0 : ∀ t, Steps p.tables e below (T0.setTop (mkF m 207 #[.val (.ref hm), .val (.ref key), .val (.ref fn), .val (.int hh), .val (.ref tb), .val .null, .val (.int n16), .val (.int ix), .val (.int (0 : Int32)), .val .null, .val .null, .val (.int (0 : Int32)), .unset] [(.ref val)])) t → Steps p.tables e below entry t) :
    ∃ s₂ o, Steps p.tables e below entry s₂ ∧ s₂.status = .running ∧ Ended s₂ below o ∧ ∃ v L, o = .returned v ∧ QKp Z (some (.ref val)) [tb, hm] h0 n0 v s₂.heap L ∧ FrameEnd s o s₂ L ({ frames := 5, cells := 2, slots := 20, locals := 120 } : Room).cells ({ frames := 5, cells := 2, slots := 20, locals := 120 } : Room).slots := by
  obtain ⟨T1, X1, e1, st1⟩ := getF X0 hx hZ hown (host := "") (Or.inl (hw _ (List.mem_of_getElem? (i := 117) rfl))) Via.refl e0 PF_hm_modCount (g := (mkF m 212 #[.val (.ref hm), .val (.ref key), .val (.ref fn), .val (.int hh), .val (.ref tb), .val .null, .val (.int n16), .val (.int ix), .val (.int (0 : Int32)), .val .null, .val .null, .val (.int (0 : Int32)), .val (.ref val)] [(.ref hm), (.int (0 : Int32))])) rfl rfl (hb hby d14_212)
  obtain ⟨cq2, kq2, q2a, q2b, q2c⟩ := isOf hZ e1 PE_hm
  obtain ⟨_, _, ⟨T2, L2, k2, n2⟩, -, X2, ⟨Lc2, hQ2, l2, y2, z2⟩, st2⟩ := X1.virtualBack hx (y := (⟨"java/util/HashMap", "newNode", "(ILjava/lang/Object;Ljava/lang/Object;Ljava/util/HashMap$Node;)Ljava/util/HashMap$Node;"⟩ : MethodName)) (z := (⟨"java/util/HashMap", "newNode", "(ILjava/lang/Object;Ljava/lang/Object;Ljava/util/HashMap$Node;)Ljava/util/HashMap$Node;"⟩ : MethodName)) hown (mvT hZ (hw _ (List.mem_of_getElem? (i := 132) rfl))) (mvT hZ (hw _ (List.mem_of_getElem? (i := 133) rfl))) (notFace_of_selects (args := #[]) (mvT hZ (hw _ (List.mem_of_getElem? (i := 135) rfl)))) (mvT hZ (hw _ (List.mem_of_getElem? (i := 135) rfl))) (mvT hZ (hw _ (List.mem_of_getElem? (i := 134) rfl))) (by decide) (backOf (W := 2) (rm21_16 l Z a0 hw []  hm hh key val h0 n0 (own_n0 O0) O0 PE_hm PF_hm_modCount PF_hm_size) hZ (hw _ (List.mem_of_getElem? (i := 136) rfl)) (hw _ (List.mem_of_getElem? (i := 18) rfl)) (by decide) (by decide)) q2a q2c (g := (mkF m 286 #[.val (.ref hm), .val (.ref key), .val (.ref fn), .val (.int hh), .val (.ref tb), .val .null, .val (.int n16), .val (.int ix), .val (.int (0 : Int32)), .val .null, .val .null, .val (.int (0 : Int32)), .val (.ref val)] [.null, (.ref val), (.ref key), (.int hh), (.ref hm), (.int ix), (.ref tb)])) rfl (by rw [hml]; rfl) (Steps.refl _) (argsL := [(.int hh), (.ref key), (.ref val), .null]) (rest := [(.int ix), (.ref tb)]) (lenOf pd262 rfl) rfl (by show 2 * 0 + _ ≤ _; exact Nat.le_of_eq rfl) (hb hby d14_286) (fun _ _ => ⟨rfl, e1, (by decide : 1 + 1 ≤ _), (by decide : 16 + 4 ≤ _)⟩)
  dsimp only [Pt.U, Pt.locs, Pt.cells, Pt.slots] at X2 l2 y2 z2 st2 hQ2
  subst l2 y2 z2
  obtain ⟨b2_0, rfl, N2q, K2, O2, pz_b2_0, pf2_0, pf2_1, pf2_2, pf2_3, pf2_4, -⟩ := hQ2
  have bo_b2_0 : h0.size ≤ b2_0 := pz_b2_0
  have g_b2_0 : n0 ≤ b2_0 := Nat.le_trans (own_n0 O0) bo_b2_0
  have sz_b2_0 : h0.size ≤ b2_0 := Nat.le_trans (Keep.refl h0 [tb, hm]).1 bo_b2_0
  have KK2 : Keep h0 T2.heap [tb, hm] := (Keep.refl h0 [tb, hm]).trans K2 all0
  have N2 := Fr.app N0 N2q
  obtain ⟨ac3, aA3, aq3, aS3, aN3, aH3⟩ := id (PA_tb.keep K2 nin0)
  obtain ⟨T4, h4, X4, e4, W4, st4⟩ := stR X2 hx hZ rfl aA3 (j := ix) (by rw [aS3]; exact hin289) rfl (Sto.ofV aA3 aq3 OX (Ins.self pf2_0)) (g := (mkF m 289 #[.val (.ref hm), .val (.ref key), .val (.ref fn), .val (.int hh), .val (.ref tb), .val .null, .val (.int n16), .val (.int ix), .val (.int (0 : Int32)), .val .null, .val .null, .val (.int (0 : Int32)), .val (.ref val)] [(.ref b2_0), (.int ix), (.ref tb)])) rfl rfl (hb hby d14_289)
  have A_4 : Ars Z h4 tb k_tb (.object "java/util/HashMap$Node") (16 : Nat) (own_upd ft (ix).toNatClampNeg (.ref b2_0)) := Ars.set aA3 aq3 aS3 aN3 aH3 W4
  have N4 := Fr.snoc X4 N2 g_tb
  have O4 := O2.wr W4 g_tb
  have KK4 : Keep h0 h4 [tb, hm] := KK2.wr W4 (Or.inl (List.mem_of_getElem? (i := 0) rfl))
  obtain ⟨T5, h5, X5, e5, W5, st5⟩ := putF X4 hx hZ hown (host := "") (Or.inl (hw _ (List.mem_of_getElem? (i := 117) rfl))) Via.refl e4 ((PF_hm_modCount.keep K2 nin0).other W4 (Or.inl ne_hm_tb)) ((PE_hm.keep K2).wr W4) (Or.inl (hw _ (List.mem_of_getElem? (i := 118) rfl))) (hw _ (List.mem_of_getElem? (i := 17) rfl)) (ty := .int) (by decide) rfl rfl (g := (mkF m 309 #[.val (.ref hm), .val (.ref key), .val (.ref fn), .val (.int hh), .val (.ref tb), .val .null, .val (.int n16), .val (.int ix), .val (.int (0 : Int32)), .val .null, .val .null, .val (.int (0 : Int32)), .val (.ref val)] [(.int (1 : Int32)), (.ref hm)])) rfl rfl (hb hby d14_309)
  have Fw5 := ((PF_hm_modCount.keep K2 nin0).other W4 (Or.inl ne_hm_tb)).same W5
  have N5 := Fr.snoc X5 N4 g_hm
  have O5 := O4.wr W5 g_hm
  have KK5 : Keep h0 h5 [tb, hm] := KK4.wr W5 (Or.inl (List.mem_of_getElem? (i := 1) rfl))
  have J6 := (((PF_hm_size.keep K2 nin0).other W4 (Or.inl ne_hm_tb)).other W5 (Or.inr (slot_ne (Or.inl (hw _ (List.mem_of_getElem? (i := 105) rfl))) (Or.inl (hw _ (List.mem_of_getElem? (i := 118) rfl))) (by decide) (t := .int) (t' := .int) (by decide) (by decide))))
  obtain ⟨T7, X7, e7, st7⟩ := getF X5 hx hZ hown (host := "") (Or.inl (hw _ (List.mem_of_getElem? (i := 104) rfl))) Via.refl e5 J6 (g := (mkF m 314 #[.val (.ref hm), .val (.ref key), .val (.ref fn), .val (.int hh), .val (.ref tb), .val .null, .val (.int n16), .val (.int ix), .val (.int (0 : Int32)), .val .null, .val .null, .val (.int (0 : Int32)), .val (.ref val)] [(.ref hm), (.ref hm)])) rfl rfl (hb hby d14_314)
  have J8 := (((PE_hm.keep K2).wr W4).wr W5)
  obtain ⟨T9, h9, X9, e9, W9, st9⟩ := putF X7 hx hZ hown (host := "") (Or.inl (hw _ (List.mem_of_getElem? (i := 104) rfl))) Via.refl e7 J6 J8 (Or.inl (hw _ (List.mem_of_getElem? (i := 105) rfl))) (hw _ (List.mem_of_getElem? (i := 17) rfl)) (ty := .int) (by decide) rfl rfl (g := (mkF m 319 #[.val (.ref hm), .val (.ref key), .val (.ref fn), .val (.int hh), .val (.ref tb), .val .null, .val (.int n16), .val (.int ix), .val (.int (0 : Int32)), .val .null, .val .null, .val (.int (0 : Int32)), .val (.ref val)] [(.int (1 : Int32)), (.ref hm)])) rfl rfl (hb hby d14_319)
  have Fw9 := J6.same W9
  have N9 := Fr.snoc X9 N5 g_hm
  have O9 := O5.wr W9 g_hm
  have KK9 : Keep h0 h9 [tb, hm] := KK5.wr W9 (Or.inl (List.mem_of_getElem? (i := 1) rfl))
  obtain ⟨cq10, kq10, q10a, q10b, q10c⟩ := isOf hZ e9 (J8.wr W9)
  obtain ⟨_, _, ⟨T10, L10, k10, n10⟩, -, X10, ⟨Lc10, hQ10, l10, y10, z10⟩, st10⟩ := X9.virtualBack hx (y := (⟨"java/util/HashMap", "afterNodeInsertion", "(Z)V"⟩ : MethodName)) (z := (⟨"java/util/HashMap", "afterNodeInsertion", "(Z)V"⟩ : MethodName)) hown (mvT hZ (hw _ (List.mem_of_getElem? (i := 152) rfl))) (mvT hZ (hw _ (List.mem_of_getElem? (i := 153) rfl))) (notFace_of_selects (args := #[]) (mvT hZ (hw _ (List.mem_of_getElem? (i := 155) rfl)))) (mvT hZ (hw _ (List.mem_of_getElem? (i := 155) rfl))) (mvT hZ (hw _ (List.mem_of_getElem? (i := 154) rfl))) (by decide) (backOf (W := 0) (rm23_17 l Z a0 hw []  hm h9 n0 (own_n0 O9) O9 (J8.wr W9) (Fw5.other W9 (Or.inr (slot_ne (Or.inl (hw _ (List.mem_of_getElem? (i := 118) rfl))) (Or.inl (hw _ (List.mem_of_getElem? (i := 105) rfl))) (by decide) (t := .int) (t' := .int) (by decide) (by decide)))) Fw9) hZ (hw _ (List.mem_of_getElem? (i := 156) rfl)) (hw _ (List.mem_of_getElem? (i := 18) rfl)) (by decide) (by decide)) q10a q10c (g := (mkF m 324 #[.val (.ref hm), .val (.ref key), .val (.ref fn), .val (.int hh), .val (.ref tb), .val .null, .val (.int n16), .val (.int ix), .val (.int (0 : Int32)), .val .null, .val .null, .val (.int (0 : Int32)), .val (.ref val)] [(.int (1 : Int32)), (.ref hm)])) rfl (by rw [hml]; rfl) (Steps.refl _) (argsL := [(.int (1 : Int32))]) (rest := []) (lenOf pd284 rfl) rfl (by show 2 * 0 + _ ≤ _; exact Nat.le_of_eq rfl) (hb hby d14_324) (fun _ _ => ⟨rfl, e9, (by decide : 2 + 0 ≤ _), (by decide : 20 + 0 ≤ _)⟩)
  dsimp only [Pt.U, Pt.locs, Pt.cells, Pt.slots] at X10 l10 y10 z10 st10 hQ10
  subst l10 y10 z10
  obtain ⟨rfl, N10q, e10⟩ := hQ10
  have N10 := Fr.app N9 N10q
  obtain ⟨fs, hr, hrun, hended, hW, hsame⟩ := X10.leave (v := some (.ref val)) (fun h => by rw [hret] at h; cases h) hlk
  refine ⟨_, _, pre0 _ ?_, hrun, hended, _, _, rfl, ?_, ⟨_, rfl⟩, hW, hsame.mono (by decide) (by decide)⟩
  · show Steps p.tables e below (T0.setTop (mkF m 207 #[.val (.ref hm), .val (.ref key), .val (.ref fn), .val (.int hh), .val (.ref tb), .val .null, .val (.int n16), .val (.int ix), .val (.int (0 : Int32)), .val .null, .val .null, .val (.int (0 : Int32)), .unset] [(.ref val)])) _
    refine XS.astore X0.here hx rfl (hb hby d14_207) rfl rfl (l' := #[.val (.ref hm), .val (.ref key), .val (.ref fn), .val (.int hh), .val (.ref tb), .val .null, .val (.int n16), .val (.int ix), .val (.int (0 : Int32)), .val .null, .val .null, .val (.int (0 : Int32)), .val (.ref val)]) rfl ?_
    show Steps p.tables e below (T0.setTop (mkF m 209 #[.val (.ref hm), .val (.ref key), .val (.ref fn), .val (.int hh), .val (.ref tb), .val .null, .val (.int n16), .val (.int ix), .val (.int (0 : Int32)), .val .null, .val .null, .val (.int (0 : Int32)), .val (.ref val)] [])) _
    refine XS.iload X0.here hx rfl (hb hby d14_209) rfl ?_
    show Steps p.tables e below (T0.setTop (mkF m 211 #[.val (.ref hm), .val (.ref key), .val (.ref fn), .val (.int hh), .val (.ref tb), .val .null, .val (.int n16), .val (.int ix), .val (.int (0 : Int32)), .val .null, .val .null, .val (.int (0 : Int32)), .val (.ref val)] [(.int (0 : Int32))])) _
    refine XS.aloadN X0.here hx rfl (hb hby d14_211) rfl rfl ?_
    show Steps p.tables e below (T0.setTop (mkF m 212 #[.val (.ref hm), .val (.ref key), .val (.ref fn), .val (.int hh), .val (.ref tb), .val .null, .val (.int n16), .val (.int ix), .val (.int (0 : Int32)), .val .null, .val .null, .val (.int (0 : Int32)), .val (.ref val)] [(.ref hm), (.int (0 : Int32))])) _
    refine st1 _ ?_
    show Steps p.tables e below (T1.setTop (mkF m 215 #[.val (.ref hm), .val (.ref key), .val (.ref fn), .val (.int hh), .val (.ref tb), .val .null, .val (.int n16), .val (.int ix), .val (.int (0 : Int32)), .val .null, .val .null, .val (.int (0 : Int32)), .val (.ref val)] [(.int (0 : Int32)), (.int (0 : Int32))])) _
    refine XS.icmpYes X1.here hx rfl (pc0 := 215) (pc' := 226) rfl (hb hby d14_215) rfl (teq (by decide : (0 : Int32) = (0 : Int32))).1 (by decide) (by decide) ?_
    show Steps p.tables e below (T1.setTop (mkF m 226 #[.val (.ref hm), .val (.ref key), .val (.ref fn), .val (.int hh), .val (.ref tb), .val .null, .val (.int n16), .val (.int ix), .val (.int (0 : Int32)), .val .null, .val .null, .val (.int (0 : Int32)), .val (.ref val)] [])) _
    refine XS.aload X1.here hx rfl (hb hby d14_226) rfl rfl ?_
    show Steps p.tables e below (T1.setTop (mkF m 228 #[.val (.ref hm), .val (.ref key), .val (.ref fn), .val (.int hh), .val (.ref tb), .val .null, .val (.int n16), .val (.int ix), .val (.int (0 : Int32)), .val .null, .val .null, .val (.int (0 : Int32)), .val (.ref val)] [(.ref val)])) _
    refine XS.ifnonnullYes X1.here hx rfl (pc0 := 228) (pc' := 233) rfl (hb hby d14_228) rfl (by decide) (by decide) ?_
    show Steps p.tables e below (T1.setTop (mkF m 233 #[.val (.ref hm), .val (.ref key), .val (.ref fn), .val (.int hh), .val (.ref tb), .val .null, .val (.int n16), .val (.int ix), .val (.int (0 : Int32)), .val .null, .val .null, .val (.int (0 : Int32)), .val (.ref val)] [])) _
    refine XS.aload X1.here hx rfl (hb hby d14_233) rfl rfl ?_
    show Steps p.tables e below (T1.setTop (mkF m 235 #[.val (.ref hm), .val (.ref key), .val (.ref fn), .val (.int hh), .val (.ref tb), .val .null, .val (.int n16), .val (.int ix), .val (.int (0 : Int32)), .val .null, .val .null, .val (.int (0 : Int32)), .val (.ref val)] [.null])) _
    refine XS.ifnullYes X1.here hx rfl (pc0 := 235) (pc' := 254) rfl (hb hby d14_235) rfl (by decide) (by decide) ?_
    show Steps p.tables e below (T1.setTop (mkF m 254 #[.val (.ref hm), .val (.ref key), .val (.ref fn), .val (.int hh), .val (.ref tb), .val .null, .val (.int n16), .val (.int ix), .val (.int (0 : Int32)), .val .null, .val .null, .val (.int (0 : Int32)), .val (.ref val)] [])) _
    refine XS.aload X1.here hx rfl (hb hby d14_254) rfl rfl ?_
    show Steps p.tables e below (T1.setTop (mkF m 256 #[.val (.ref hm), .val (.ref key), .val (.ref fn), .val (.int hh), .val (.ref tb), .val .null, .val (.int n16), .val (.int ix), .val (.int (0 : Int32)), .val .null, .val .null, .val (.int (0 : Int32)), .val (.ref val)] [.null])) _
    refine XS.ifnullYes X1.here hx rfl (pc0 := 256) (pc' := 275) rfl (hb hby d14_256) rfl (by decide) (by decide) ?_
    show Steps p.tables e below (T1.setTop (mkF m 275 #[.val (.ref hm), .val (.ref key), .val (.ref fn), .val (.int hh), .val (.ref tb), .val .null, .val (.int n16), .val (.int ix), .val (.int (0 : Int32)), .val .null, .val .null, .val (.int (0 : Int32)), .val (.ref val)] [])) _
    refine XS.aload X1.here hx rfl (hb hby d14_275) rfl rfl ?_
    show Steps p.tables e below (T1.setTop (mkF m 277 #[.val (.ref hm), .val (.ref key), .val (.ref fn), .val (.int hh), .val (.ref tb), .val .null, .val (.int n16), .val (.int ix), .val (.int (0 : Int32)), .val .null, .val .null, .val (.int (0 : Int32)), .val (.ref val)] [(.ref tb)])) _
    refine XS.iload X1.here hx rfl (hb hby d14_277) rfl ?_
    show Steps p.tables e below (T1.setTop (mkF m 279 #[.val (.ref hm), .val (.ref key), .val (.ref fn), .val (.int hh), .val (.ref tb), .val .null, .val (.int n16), .val (.int ix), .val (.int (0 : Int32)), .val .null, .val .null, .val (.int (0 : Int32)), .val (.ref val)] [(.int ix), (.ref tb)])) _
    refine XS.aloadN X1.here hx rfl (hb hby d14_279) rfl rfl ?_
    show Steps p.tables e below (T1.setTop (mkF m 280 #[.val (.ref hm), .val (.ref key), .val (.ref fn), .val (.int hh), .val (.ref tb), .val .null, .val (.int n16), .val (.int ix), .val (.int (0 : Int32)), .val .null, .val .null, .val (.int (0 : Int32)), .val (.ref val)] [(.ref hm), (.int ix), (.ref tb)])) _
    refine XS.iloadN X1.here hx rfl (hb hby d14_280) rfl ?_
    show Steps p.tables e below (T1.setTop (mkF m 281 #[.val (.ref hm), .val (.ref key), .val (.ref fn), .val (.int hh), .val (.ref tb), .val .null, .val (.int n16), .val (.int ix), .val (.int (0 : Int32)), .val .null, .val .null, .val (.int (0 : Int32)), .val (.ref val)] [(.int hh), (.ref hm), (.int ix), (.ref tb)])) _
    refine XS.aloadN X1.here hx rfl (hb hby d14_281) rfl rfl ?_
    show Steps p.tables e below (T1.setTop (mkF m 282 #[.val (.ref hm), .val (.ref key), .val (.ref fn), .val (.int hh), .val (.ref tb), .val .null, .val (.int n16), .val (.int ix), .val (.int (0 : Int32)), .val .null, .val .null, .val (.int (0 : Int32)), .val (.ref val)] [(.ref key), (.int hh), (.ref hm), (.int ix), (.ref tb)])) _
    refine XS.aload X1.here hx rfl (hb hby d14_282) rfl rfl ?_
    show Steps p.tables e below (T1.setTop (mkF m 284 #[.val (.ref hm), .val (.ref key), .val (.ref fn), .val (.int hh), .val (.ref tb), .val .null, .val (.int n16), .val (.int ix), .val (.int (0 : Int32)), .val .null, .val .null, .val (.int (0 : Int32)), .val (.ref val)] [(.ref val), (.ref key), (.int hh), (.ref hm), (.int ix), (.ref tb)])) _
    refine XS.aload X1.here hx rfl (hb hby d14_284) rfl rfl ?_
    show Steps p.tables e below (T1.setTop (mkF m 286 #[.val (.ref hm), .val (.ref key), .val (.ref fn), .val (.int hh), .val (.ref tb), .val .null, .val (.int n16), .val (.int ix), .val (.int (0 : Int32)), .val .null, .val .null, .val (.int (0 : Int32)), .val (.ref val)] [.null, (.ref val), (.ref key), (.int hh), (.ref hm), (.int ix), (.ref tb)])) _
    refine st2.trans ?_
    show Steps p.tables e below (T2.setTop (mkF m 289 #[.val (.ref hm), .val (.ref key), .val (.ref fn), .val (.int hh), .val (.ref tb), .val .null, .val (.int n16), .val (.int ix), .val (.int (0 : Int32)), .val .null, .val .null, .val (.int (0 : Int32)), .val (.ref val)] [(.ref b2_0), (.int ix), (.ref tb)])) _
    refine st4 _ ?_
    show Steps p.tables e below (T4.setTop (mkF m 290 #[.val (.ref hm), .val (.ref key), .val (.ref fn), .val (.int hh), .val (.ref tb), .val .null, .val (.int n16), .val (.int ix), .val (.int (0 : Int32)), .val .null, .val .null, .val (.int (0 : Int32)), .val (.ref val)] [])) _
    refine XS.iload X4.here hx rfl (hb hby d14_290) rfl ?_
    show Steps p.tables e below (T4.setTop (mkF m 292 #[.val (.ref hm), .val (.ref key), .val (.ref fn), .val (.int hh), .val (.ref tb), .val .null, .val (.int n16), .val (.int ix), .val (.int (0 : Int32)), .val .null, .val .null, .val (.int (0 : Int32)), .val (.ref val)] [(.int (0 : Int32))])) _
    refine XS.bipush X4.here hx rfl (hb hby d14_292) ?_
    show Steps p.tables e below (T4.setTop (mkF m 294 #[.val (.ref hm), .val (.ref key), .val (.ref fn), .val (.int hh), .val (.ref tb), .val .null, .val (.int n16), .val (.int ix), .val (.int (0 : Int32)), .val .null, .val .null, .val (.int (0 : Int32)), .val (.ref val)] [(.int (7 : Int32)), (.int (0 : Int32))])) _
    refine XS.icmpYes X4.here hx rfl (pc0 := 294) (pc' := 304) rfl (hb hby d14_294) rfl (tlt (by decide : (0 : Int32) < (7 : Int32))).1 (by decide) (by decide) ?_
    show Steps p.tables e below (T4.setTop (mkF m 304 #[.val (.ref hm), .val (.ref key), .val (.ref fn), .val (.int hh), .val (.ref tb), .val .null, .val (.int n16), .val (.int ix), .val (.int (0 : Int32)), .val .null, .val .null, .val (.int (0 : Int32)), .val (.ref val)] [])) _
    refine XS.aloadN X4.here hx rfl (hb hby d14_304) rfl rfl ?_
    show Steps p.tables e below (T4.setTop (mkF m 305 #[.val (.ref hm), .val (.ref key), .val (.ref fn), .val (.int hh), .val (.ref tb), .val .null, .val (.int n16), .val (.int ix), .val (.int (0 : Int32)), .val .null, .val .null, .val (.int (0 : Int32)), .val (.ref val)] [(.ref hm)])) _
    refine XS.iload X4.here hx rfl (hb hby d14_305) rfl ?_
    show Steps p.tables e below (T4.setTop (mkF m 307 #[.val (.ref hm), .val (.ref key), .val (.ref fn), .val (.int hh), .val (.ref tb), .val .null, .val (.int n16), .val (.int ix), .val (.int (0 : Int32)), .val .null, .val .null, .val (.int (0 : Int32)), .val (.ref val)] [(.int (0 : Int32)), (.ref hm)])) _
    refine XS.iconst X4.here hx rfl (hb hby d14_307) ?_
    show Steps p.tables e below (T4.setTop (mkF m 308 #[.val (.ref hm), .val (.ref key), .val (.ref fn), .val (.int hh), .val (.ref tb), .val .null, .val (.int n16), .val (.int ix), .val (.int (0 : Int32)), .val .null, .val .null, .val (.int (0 : Int32)), .val (.ref val)] [(.int (1 : Int32)), (.int (0 : Int32)), (.ref hm)])) _
    refine XS.iadd X4.here hx rfl (hb hby d14_308) rfl ?_
    rw [show ((0 : Int32) + (1 : Int32)) = (1 : Int32) from by decide]
    show Steps p.tables e below (T4.setTop (mkF m 309 #[.val (.ref hm), .val (.ref key), .val (.ref fn), .val (.int hh), .val (.ref tb), .val .null, .val (.int n16), .val (.int ix), .val (.int (0 : Int32)), .val .null, .val .null, .val (.int (0 : Int32)), .val (.ref val)] [(.int (1 : Int32)), (.ref hm)])) _
    refine st5 _ ?_
    show Steps p.tables e below (T5.setTop (mkF m 312 #[.val (.ref hm), .val (.ref key), .val (.ref fn), .val (.int hh), .val (.ref tb), .val .null, .val (.int n16), .val (.int ix), .val (.int (0 : Int32)), .val .null, .val .null, .val (.int (0 : Int32)), .val (.ref val)] [])) _
    refine XS.aloadN X5.here hx rfl (hb hby d14_312) rfl rfl ?_
    show Steps p.tables e below (T5.setTop (mkF m 313 #[.val (.ref hm), .val (.ref key), .val (.ref fn), .val (.int hh), .val (.ref tb), .val .null, .val (.int n16), .val (.int ix), .val (.int (0 : Int32)), .val .null, .val .null, .val (.int (0 : Int32)), .val (.ref val)] [(.ref hm)])) _
    refine XS.dup X5.here hx rfl (hb hby d14_313) rfl rfl ?_
    show Steps p.tables e below (T5.setTop (mkF m 314 #[.val (.ref hm), .val (.ref key), .val (.ref fn), .val (.int hh), .val (.ref tb), .val .null, .val (.int n16), .val (.int ix), .val (.int (0 : Int32)), .val .null, .val .null, .val (.int (0 : Int32)), .val (.ref val)] [(.ref hm), (.ref hm)])) _
    refine st7 _ ?_
    show Steps p.tables e below (T7.setTop (mkF m 317 #[.val (.ref hm), .val (.ref key), .val (.ref fn), .val (.int hh), .val (.ref tb), .val .null, .val (.int n16), .val (.int ix), .val (.int (0 : Int32)), .val .null, .val .null, .val (.int (0 : Int32)), .val (.ref val)] [(.int (0 : Int32)), (.ref hm)])) _
    refine XS.iconst X7.here hx rfl (hb hby d14_317) ?_
    show Steps p.tables e below (T7.setTop (mkF m 318 #[.val (.ref hm), .val (.ref key), .val (.ref fn), .val (.int hh), .val (.ref tb), .val .null, .val (.int n16), .val (.int ix), .val (.int (0 : Int32)), .val .null, .val .null, .val (.int (0 : Int32)), .val (.ref val)] [(.int (1 : Int32)), (.int (0 : Int32)), (.ref hm)])) _
    refine XS.iadd X7.here hx rfl (hb hby d14_318) rfl ?_
    rw [show ((0 : Int32) + (1 : Int32)) = (1 : Int32) from by decide]
    show Steps p.tables e below (T7.setTop (mkF m 319 #[.val (.ref hm), .val (.ref key), .val (.ref fn), .val (.int hh), .val (.ref tb), .val .null, .val (.int n16), .val (.int ix), .val (.int (0 : Int32)), .val .null, .val .null, .val (.int (0 : Int32)), .val (.ref val)] [(.int (1 : Int32)), (.ref hm)])) _
    refine st9 _ ?_
    show Steps p.tables e below (T9.setTop (mkF m 322 #[.val (.ref hm), .val (.ref key), .val (.ref fn), .val (.int hh), .val (.ref tb), .val .null, .val (.int n16), .val (.int ix), .val (.int (0 : Int32)), .val .null, .val .null, .val (.int (0 : Int32)), .val (.ref val)] [])) _
    refine XS.aloadN X9.here hx rfl (hb hby d14_322) rfl rfl ?_
    show Steps p.tables e below (T9.setTop (mkF m 323 #[.val (.ref hm), .val (.ref key), .val (.ref fn), .val (.int hh), .val (.ref tb), .val .null, .val (.int n16), .val (.int ix), .val (.int (0 : Int32)), .val .null, .val .null, .val (.int (0 : Int32)), .val (.ref val)] [(.ref hm)])) _
    refine XS.iconst X9.here hx rfl (hb hby d14_323) ?_
    show Steps p.tables e below (T9.setTop (mkF m 324 #[.val (.ref hm), .val (.ref key), .val (.ref fn), .val (.int hh), .val (.ref tb), .val .null, .val (.int n16), .val (.int ix), .val (.int (0 : Int32)), .val .null, .val .null, .val (.int (0 : Int32)), .val (.ref val)] [(.int (1 : Int32)), (.ref hm)])) _
    refine st10.trans ?_
    show Steps p.tables e below (T10.setTop (mkF m 327 #[.val (.ref hm), .val (.ref key), .val (.ref fn), .val (.int hh), .val (.ref tb), .val .null, .val (.int n16), .val (.int ix), .val (.int (0 : Int32)), .val .null, .val .null, .val (.int (0 : Int32)), .val (.ref val)] [])) _
    refine XS.aload X10.here hx rfl (hb hby d14_327) rfl rfl ?_
    show Steps p.tables e below (T10.setTop (mkF m 329 #[.val (.ref hm), .val (.ref key), .val (.ref fn), .val (.int hh), .val (.ref tb), .val .null, .val (.int n16), .val (.int ix), .val (.int (0 : Int32)), .val .null, .val .null, .val (.int (0 : Int32)), .val (.ref val)] [(.ref val)])) _
    jvm_step X10.here [X10.here.top, hx, (hb hby d14_329), X10.method', hret, Value.isRef, FieldType.isReference]
    first | (intro acts; rw [hr _ acts rfl rfl rfl]) | rw [hr _ _ rfl rfl rfl]
    exact Steps.refl _
  · exact ⟨rfl, N10, (by have eH : (T10.setFrames fs).heap = h9 := e10; rw [eH]; exact ⟨KK9, O9⟩)⟩
theorem d7_0 : decode prog_12_method_5_code 0 = .ok (.iload_n 1, 1) := by decide +kernel
theorem d7_1 : decode prog_12_method_5_code 1 = .ok (.ifCond .eq 15, 3) := by decide +kernel
theorem d7_4 : decode prog_12_method_5_code 4 = .ok (.iload_n 2, 1) := by decide +kernel
theorem d7_5 : decode prog_12_method_5_code 5 = .ok (.ifCond .eq 11, 3) := by decide +kernel
theorem d7_8 : decode prog_12_method_5_code 8 = .ok (.iload_n 1, 1) := by decide +kernel
theorem d7_9 : decode prog_12_method_5_code 9 = .ok (.iload_n 2, 1) := by decide +kernel
theorem d8_0 : decode prog_12_method_2_code 0 = .ok (.iload_n 0, 1) := by decide +kernel
theorem d8_1 : decode prog_12_method_2_code 1 = .ok (.iconst 1, 1) := by decide +kernel
theorem d8_2 : decode prog_12_method_2_code 2 = .ok (.ixor, 1) := by decide +kernel
theorem d8_3 : decode prog_12_method_2_code 3 = .ok (.ireturn, 1) := by decide +kernel
theorem ef300 (m : MethodId) (x0 : Int32) : entryFrame m #[(.int x0)] 1 = mkF m 0 #[.val (.int x0)] [] := by first | (simp [entryFrame, mkF, argsToLocals, Value.category]; done) | rfl
def Q8_19 (Z : State) (q0 : Int32) (h0 : Heap) (n0 : Nat) (v : Option Value) (h : Heap) (L : List Loc) : Prop := v = some (.int (q0 ^^^ (1 : Int32))) ∧ Fr n0 L ∧ h = h0
set_option maxRecDepth 65536 in
set_option maxHeartbeats 40000000 in
theorem rm8_19 (l : Launch) (Z : State) (a0 : Array Value) (hw : ∀ d ∈ tables_1, d.before a0 Z = true) (ws : List Jvm.Cond) (q0 : Int32) (h0 : Heap) (n0 : Nat) (Z0 : n0 ≤ h0.size) (O0 : Old Z n0 h0) :
    MetFree l (⟨"com/example/minos/minos/analysis/Circuit", "not", "(I)I"⟩ : MethodName) (head1 (Jvm.Cond.code (⟨"com/example/minos/minos/analysis/Circuit", "not", "(I)I"⟩ : MethodName) prog_12_method_2_code 1 (some .int) :: ws) ({ frames := 0, cells := 0, slots := 0, locals := 0 } : Room)) (fun a U => a = #[(.int q0)] ∧ Z.Warmed39 U.vm ∧ U.heap = h0) (fun _ _ _ _ _ => True) (fun _ U o U' => ∃ v L, o = .returned v ∧ Q8_19 Z  q0 h0 n0 v U'.heap L ∧ FrameEnd U o U' L ({ frames := 0, cells := 0, slots := 0, locals := 0 } : Room).cells ({ frames := 0, cells := 0, slots := 0, locals := 0 } : Room).slots) := by
  refine MetFree.of_bodySF (plainFor_of_name pn37) hisR ?_
  intro p e s m args below meth c s₁ Bd hml0 hP hK
  obtain ⟨rfl, hZ, hh⟩ := hP
  have hx := Bd.exec
  have hby := Bd.bytes
  have hml : c.maxLocals = 1 := hml0
  have hown : s.vm.findClass "com/example/minos/minos/analysis/Circuit" = some m.cls := findClass_of_methodNamed Bd.named
  have hnm := (name_of_methodNamed Bd.named Bd.method).1
  have X0 : Stand p l e ({ frames := 0, cells := 0, slots := 0, locals := 0 } : Room) s m #[(.int q0)] below meth c s₁ [] 0 0 := Stand.of_body Bd
  have e0 : s₁.heap = h0 := by rw [← hh, Bd.state]; rfl
  have N0 := Fr.nil n0
  have pre0 : ∀ t, Steps p.tables e below (s₁.setTop (mkF m 0 #[.val (.int q0)] [])) t → Steps p.tables e below (s₁.setTop (entryFrame m #[(.int q0)] 1)) t := fun t k => castTop (ef300 m q0) k
  obtain ⟨fs, hr, hrun, hended, hW, hsame⟩ := X0.leave (v := some (.int (q0 ^^^ (1 : Int32)))) (fun h => by rw [Bd.returns] at h; cases h)
  refine ⟨_, _, pre0 _ ?_, hrun, hended, _, _, rfl, ?_, ⟨_, rfl⟩, hW, hsame.mono (by decide) (by decide)⟩
  · show Steps p.tables e below (s₁.setTop (mkF m 0 #[.val (.int q0)] [])) _
    refine XS.iloadN X0.here hx rfl (hb hby d8_0) rfl ?_
    show Steps p.tables e below (s₁.setTop (mkF m 1 #[.val (.int q0)] [(.int q0)])) _
    refine XS.iconst X0.here hx rfl (hb hby d8_1) ?_
    show Steps p.tables e below (s₁.setTop (mkF m 2 #[.val (.int q0)] [(.int (1 : Int32)), (.int q0)])) _
    refine XS.ixor X0.here hx rfl (hb hby d8_2) rfl ?_
    show Steps p.tables e below (s₁.setTop (mkF m 3 #[.val (.int q0)] [(.int (q0 ^^^ (1 : Int32)))])) _
    exact Jvm.RoadKit.retI X0 hx Bd.returns (hb hby d8_3) hr
  · exact ⟨rfl, N0, e0⟩
theorem pd301 : parseMethodDescriptor "(I)I" = some ⟨[.int], some .int⟩ := by decide +kernel
theorem d7_10 : decode prog_12_method_5_code 10 = .ok (.invokestatic 31, 3) := by decide +kernel
theorem d7_13 : decode prog_12_method_5_code 13 = .ok (.if_icmp .ne 8, 3) := by decide +kernel
theorem d7_21 : decode prog_12_method_5_code 21 = .ok (.iload_n 1, 1) := by decide +kernel
theorem d7_22 : decode prog_12_method_5_code 22 = .ok (.iconst 1, 1) := by decide +kernel
theorem d7_23 : decode prog_12_method_5_code 23 = .ok (.if_icmp .eq 8, 3) := by decide +kernel
theorem d7_26 : decode prog_12_method_5_code 26 = .ok (.iload_n 1, 1) := by decide +kernel
theorem d7_27 : decode prog_12_method_5_code 27 = .ok (.iload_n 2, 1) := by decide +kernel
theorem d7_28 : decode prog_12_method_5_code 28 = .ok (.if_icmp .ne 8, 3) := by decide +kernel
theorem d7_36 : decode prog_12_method_5_code 36 = .ok (.iload_n 2, 1) := by decide +kernel
theorem d7_37 : decode prog_12_method_5_code 37 = .ok (.iconst 1, 1) := by decide +kernel
theorem d7_38 : decode prog_12_method_5_code 38 = .ok (.if_icmp .ne 8, 3) := by decide +kernel
theorem d7_46 : decode prog_12_method_5_code 46 = .ok (.iload_n 1, 1) := by decide +kernel
theorem d7_47 : decode prog_12_method_5_code 47 = .ok (.iload_n 2, 1) := by decide +kernel
theorem d9_0 : decode jdk_29_method_69_code 0 = .ok (.iload_n 0, 1) := by decide +kernel
theorem d9_1 : decode jdk_29_method_69_code 1 = .ok (.iload_n 1, 1) := by decide +kernel
theorem d9_2 : decode jdk_29_method_69_code 2 = .ok (.if_icmp .gt 7, 3) := by decide +kernel
theorem d9_5 : decode jdk_29_method_69_code 5 = .ok (.iload_n 0, 1) := by decide +kernel
theorem d9_6 : decode jdk_29_method_69_code 6 = .ok (.goto 4, 3) := by decide +kernel
theorem d9_10 : decode jdk_29_method_69_code 10 = .ok (.ireturn, 1) := by decide +kernel
theorem ef322 (m : MethodId) (x0 : Int32) (x1 : Int32) : entryFrame m #[(.int x0), (.int x1)] 2 = mkF m 0 #[.val (.int x0), .val (.int x1)] [] := by first | (simp [entryFrame, mkF, argsToLocals, Value.category]; done) | rfl
def Q9_20 (Z : State) (q0 : Int32) (q1 : Int32) (h0 : Heap) (n0 : Nat) (v : Option Value) (h : Heap) (L : List Loc) : Prop := v = some (.int q0) ∧ Fr n0 L ∧ h = h0
set_option maxRecDepth 65536 in
set_option maxHeartbeats 40000000 in
theorem rm9_20 (l : Launch) (Z : State) (a0 : Array Value) (hw : ∀ d ∈ tables_1, d.before a0 Z = true) (ws : List Jvm.Cond) (q0 : Int32) (q1 : Int32) (h0 : Heap) (n0 : Nat) (Z0 : n0 ≤ h0.size) (O0 : Old Z n0 h0) (hd0 : ¬ (q1 < q0)) :
    MetFree l (⟨"java/lang/Math", "min", "(II)I"⟩ : MethodName) (head1 (Jvm.Cond.code (⟨"java/lang/Math", "min", "(II)I"⟩ : MethodName) jdk_29_method_69_code 2 (some .int) :: ws) ({ frames := 0, cells := 0, slots := 0, locals := 0 } : Room)) (fun a U => a = #[(.int q0), (.int q1)] ∧ Z.Warmed39 U.vm ∧ U.heap = h0) (fun _ _ _ _ _ => True) (fun _ U o U' => ∃ v L, o = .returned v ∧ Q9_20 Z  q0 q1 h0 n0 v U'.heap L ∧ FrameEnd U o U' L ({ frames := 0, cells := 0, slots := 0, locals := 0 } : Room).cells ({ frames := 0, cells := 0, slots := 0, locals := 0 } : Room).slots) := by
  refine MetFree.of_bodySF (Jvm.Free.JP.mathPlain rfl (by decide +kernel)) hisR ?_
  intro p e s m args below meth c s₁ Bd hml0 hP hK
  obtain ⟨rfl, hZ, hh⟩ := hP
  have hx := Bd.exec
  have hby := Bd.bytes
  have hml : c.maxLocals = 2 := hml0
  have hown : s.vm.findClass "java/lang/Math" = some m.cls := findClass_of_methodNamed Bd.named
  have hnm := (name_of_methodNamed Bd.named Bd.method).1
  have X0 : Stand p l e ({ frames := 0, cells := 0, slots := 0, locals := 0 } : Room) s m #[(.int q0), (.int q1)] below meth c s₁ [] 0 0 := Stand.of_body Bd
  have e0 : s₁.heap = h0 := by rw [← hh, Bd.state]; rfl
  have N0 := Fr.nil n0
  have pre0 : ∀ t, Steps p.tables e below (s₁.setTop (mkF m 0 #[.val (.int q0), .val (.int q1)] [])) t → Steps p.tables e below (s₁.setTop (entryFrame m #[(.int q0), (.int q1)] 2)) t := fun t k => castTop (ef322 m q0 q1) k
  obtain ⟨fs, hr, hrun, hended, hW, hsame⟩ := X0.leave (v := some (.int q0)) (fun h => by rw [Bd.returns] at h; cases h)
  refine ⟨_, _, pre0 _ ?_, hrun, hended, _, _, rfl, ?_, ⟨_, rfl⟩, hW, hsame.mono (by decide) (by decide)⟩
  · show Steps p.tables e below (s₁.setTop (mkF m 0 #[.val (.int q0), .val (.int q1)] [])) _
    refine XS.iloadN X0.here hx rfl (hb hby d9_0) rfl ?_
    show Steps p.tables e below (s₁.setTop (mkF m 1 #[.val (.int q0), .val (.int q1)] [(.int q0)])) _
    refine XS.iloadN X0.here hx rfl (hb hby d9_1) rfl ?_
    show Steps p.tables e below (s₁.setTop (mkF m 2 #[.val (.int q0), .val (.int q1)] [(.int q1), (.int q0)])) _
    refine XS.icmpNo X0.here hx rfl (hb hby d9_2) rfl (flt hd0).2.2.1 ?_
    show Steps p.tables e below (s₁.setTop (mkF m 5 #[.val (.int q0), .val (.int q1)] [])) _
    refine XS.iloadN X0.here hx rfl (hb hby d9_5) rfl ?_
    show Steps p.tables e below (s₁.setTop (mkF m 6 #[.val (.int q0), .val (.int q1)] [(.int q0)])) _
    refine XS.goto X0.here hx rfl (pc0 := 6) (pc' := 10) rfl (hb hby d9_6) (by decide) (by decide) ?_
    show Steps p.tables e below (s₁.setTop (mkF m 10 #[.val (.int q0), .val (.int q1)] [(.int q0)])) _
    exact Jvm.RoadKit.retI X0 hx Bd.returns (hb hby d9_10) hr
  · exact ⟨rfl, N0, e0⟩
theorem d7_48 : decode prog_12_method_5_code 48 = .ok (.invokestatic 35, 3) := by decide +kernel
theorem d7_51 : decode prog_12_method_5_code 51 = .ok (.istore 4, 2) := by decide +kernel
theorem d7_53 : decode prog_12_method_5_code 53 = .ok (.iload_n 1, 1) := by decide +kernel
theorem d7_54 : decode prog_12_method_5_code 54 = .ok (.iload_n 2, 1) := by decide +kernel
theorem d10_0 : decode jdk_29_method_65_code 0 = .ok (.iload_n 0, 1) := by decide +kernel
theorem d10_1 : decode jdk_29_method_65_code 1 = .ok (.iload_n 1, 1) := by decide +kernel
theorem d10_2 : decode jdk_29_method_65_code 2 = .ok (.if_icmp .lt 7, 3) := by decide +kernel
theorem d10_9 : decode jdk_29_method_65_code 9 = .ok (.iload_n 1, 1) := by decide +kernel
theorem d10_10 : decode jdk_29_method_65_code 10 = .ok (.ireturn, 1) := by decide +kernel
theorem ef333 (m : MethodId) (x0 : Int32) (x1 : Int32) : entryFrame m #[(.int x0), (.int x1)] 2 = mkF m 0 #[.val (.int x0), .val (.int x1)] [] := by first | (simp [entryFrame, mkF, argsToLocals, Value.category]; done) | rfl
def Q10_21 (Z : State) (q0 : Int32) (q1 : Int32) (h0 : Heap) (n0 : Nat) (v : Option Value) (h : Heap) (L : List Loc) : Prop := v = some (.int q1) ∧ Fr n0 L ∧ h = h0
set_option maxRecDepth 65536 in
set_option maxHeartbeats 40000000 in
theorem rm10_21 (l : Launch) (Z : State) (a0 : Array Value) (hw : ∀ d ∈ tables_1, d.before a0 Z = true) (ws : List Jvm.Cond) (q0 : Int32) (q1 : Int32) (h0 : Heap) (n0 : Nat) (Z0 : n0 ≤ h0.size) (O0 : Old Z n0 h0) (hd0 : q0 < q1) :
    MetFree l (⟨"java/lang/Math", "max", "(II)I"⟩ : MethodName) (head1 (Jvm.Cond.code (⟨"java/lang/Math", "max", "(II)I"⟩ : MethodName) jdk_29_method_65_code 2 (some .int) :: ws) ({ frames := 0, cells := 0, slots := 0, locals := 0 } : Room)) (fun a U => a = #[(.int q0), (.int q1)] ∧ Z.Warmed39 U.vm ∧ U.heap = h0) (fun _ _ _ _ _ => True) (fun _ U o U' => ∃ v L, o = .returned v ∧ Q10_21 Z  q0 q1 h0 n0 v U'.heap L ∧ FrameEnd U o U' L ({ frames := 0, cells := 0, slots := 0, locals := 0 } : Room).cells ({ frames := 0, cells := 0, slots := 0, locals := 0 } : Room).slots) := by
  refine MetFree.of_bodySF (Jvm.Free.JP.mathPlain rfl (by decide +kernel)) hisR ?_
  intro p e s m args below meth c s₁ Bd hml0 hP hK
  obtain ⟨rfl, hZ, hh⟩ := hP
  have hx := Bd.exec
  have hby := Bd.bytes
  have hml : c.maxLocals = 2 := hml0
  have hown : s.vm.findClass "java/lang/Math" = some m.cls := findClass_of_methodNamed Bd.named
  have hnm := (name_of_methodNamed Bd.named Bd.method).1
  have X0 : Stand p l e ({ frames := 0, cells := 0, slots := 0, locals := 0 } : Room) s m #[(.int q0), (.int q1)] below meth c s₁ [] 0 0 := Stand.of_body Bd
  have e0 : s₁.heap = h0 := by rw [← hh, Bd.state]; rfl
  have N0 := Fr.nil n0
  have pre0 : ∀ t, Steps p.tables e below (s₁.setTop (mkF m 0 #[.val (.int q0), .val (.int q1)] [])) t → Steps p.tables e below (s₁.setTop (entryFrame m #[(.int q0), (.int q1)] 2)) t := fun t k => castTop (ef333 m q0 q1) k
  obtain ⟨fs, hr, hrun, hended, hW, hsame⟩ := X0.leave (v := some (.int q1)) (fun h => by rw [Bd.returns] at h; cases h)
  refine ⟨_, _, pre0 _ ?_, hrun, hended, _, _, rfl, ?_, ⟨_, rfl⟩, hW, hsame.mono (by decide) (by decide)⟩
  · show Steps p.tables e below (s₁.setTop (mkF m 0 #[.val (.int q0), .val (.int q1)] [])) _
    refine XS.iloadN X0.here hx rfl (hb hby d10_0) rfl ?_
    show Steps p.tables e below (s₁.setTop (mkF m 1 #[.val (.int q0), .val (.int q1)] [(.int q0)])) _
    refine XS.iloadN X0.here hx rfl (hb hby d10_1) rfl ?_
    show Steps p.tables e below (s₁.setTop (mkF m 2 #[.val (.int q0), .val (.int q1)] [(.int q1), (.int q0)])) _
    refine XS.icmpYes X0.here hx rfl (pc0 := 2) (pc' := 9) rfl (hb hby d10_2) rfl (tlt hd0).1 (by decide) (by decide) ?_
    show Steps p.tables e below (s₁.setTop (mkF m 9 #[.val (.int q0), .val (.int q1)] [])) _
    refine XS.iloadN X0.here hx rfl (hb hby d10_9) rfl ?_
    show Steps p.tables e below (s₁.setTop (mkF m 10 #[.val (.int q0), .val (.int q1)] [(.int q1)])) _
    exact Jvm.RoadKit.retI X0 hx Bd.returns (hb hby d10_10) hr
  · exact ⟨rfl, N0, e0⟩
theorem d7_55 : decode prog_12_method_5_code 55 = .ok (.invokestatic 40, 3) := by decide +kernel
theorem d7_58 : decode prog_12_method_5_code 58 = .ok (.istore 5, 2) := by decide +kernel
theorem d7_60 : decode prog_12_method_5_code 60 = .ok (.aload_n 0, 1) := by decide +kernel
theorem d7_61 : decode prog_12_method_5_code 61 = .ok (.getfield 23, 3) := by decide +kernel
theorem d7_64 : decode prog_12_method_5_code 64 = .ok (.iload 4, 2) := by decide +kernel
theorem d7_66 : decode prog_12_method_5_code 66 = .ok (.i2l, 1) := by decide +kernel
theorem d7_67 : decode prog_12_method_5_code 67 = .ok (.bipush 32, 2) := by decide +kernel
theorem d7_69 : decode prog_12_method_5_code 69 = .ok (.lshl, 1) := by decide +kernel
theorem d7_70 : decode prog_12_method_5_code 70 = .ok (.iload 5, 2) := by decide +kernel
theorem d7_72 : decode prog_12_method_5_code 72 = .ok (.i2l, 1) := by decide +kernel
theorem d7_73 : decode prog_12_method_5_code 73 = .ok (.lor, 1) := by decide +kernel
theorem d11_0 : decode jdk_35_method_24_code 0 = .ok (.sipush 128, 3) := by decide +kernel
theorem d11_3 : decode jdk_35_method_24_code 3 = .ok (.istore_n 2, 1) := by decide +kernel
theorem d11_4 : decode jdk_35_method_24_code 4 = .ok (.lload_n 0, 1) := by decide +kernel
theorem d11_5 : decode jdk_35_method_24_code 5 = .ok (.ldc2_w 230, 3) := by decide +kernel
theorem d11_8 : decode jdk_35_method_24_code 8 = .ok (.lcmp, 1) := by decide +kernel
theorem d11_9 : decode jdk_35_method_24_code 9 = .ok (.ifCond .lt 22, 3) := by decide +kernel
theorem d11_12 : decode jdk_35_method_24_code 12 = .ok (.lload_n 0, 1) := by decide +kernel
theorem d11_13 : decode jdk_35_method_24_code 13 = .ok (.ldc2_w 232, 3) := by decide +kernel
theorem d11_16 : decode jdk_35_method_24_code 16 = .ok (.lcmp, 1) := by decide +kernel
theorem d11_17 : decode jdk_35_method_24_code 17 = .ok (.ifCond .gt 14, 3) := by decide +kernel
theorem d11_31 : decode jdk_35_method_24_code 31 = .ok (.new 1, 3) := by decide +kernel
theorem d11_34 : decode jdk_35_method_24_code 34 = .ok (.dup, 1) := by decide +kernel
theorem d11_35 : decode jdk_35_method_24_code 35 = .ok (.lload_n 0, 1) := by decide +kernel
theorem d12_0 : decode jdk_35_method_26_code 0 = .ok (.aload_n 0, 1) := by decide +kernel
theorem d13_0 : decode jdk_18_method_1_code 0 = .ok (.aload_n 0, 1) := by decide +kernel
theorem d13_1 : decode jdk_18_method_1_code 1 = .ok (.invokespecial 1, 3) := by decide +kernel
theorem d13_4 : decode jdk_18_method_1_code 4 = .ok (.return_, 1) := by decide +kernel
theorem ef363 (m : MethodId) (x0 : Addr) : entryFrame m #[(.ref x0)] 1 = mkF m 0 #[.val (.ref x0)] [] := by first | (simp [entryFrame, mkF, argsToLocals, Value.category]; done) | rfl
theorem pn364 : plainName "java/lang/Number" = true := by first | (simp [plainName, overriddenIn]; done) | decide +kernel
def Q13_22 (Z : State) (ob0 : Addr) (h0 : Heap) (n0 : Nat) (v : Option Value) (h : Heap) (L : List Loc) : Prop := v = none ∧ Fr n0 L ∧ h = h0
set_option maxRecDepth 65536 in
set_option maxHeartbeats 40000000 in
theorem rm13_22 (l : Launch) (Z : State) (a0 : Array Value) (hw : ∀ d ∈ tables_1, d.before a0 Z = true) (ws : List Jvm.Cond) (ob0 : Addr) (h0 : Heap) (n0 : Nat) (Z0 : n0 ≤ h0.size) (O0 : Old Z n0 h0) (PE_ob0 : Exa Z h0 ob0 "java/lang/Long") (PF_ob0_value : Fld Z h0 ob0 "java/lang/Long" "value" "J" (.long (0 : Int64))) :
    MetFree l (⟨"java/lang/Number", "<init>", "()V"⟩ : MethodName) (head1 (Jvm.Cond.code (⟨"java/lang/Number", "<init>", "()V"⟩ : MethodName) jdk_18_method_1_code 1 none :: ws) ({ frames := 1, cells := 0, slots := 0, locals := 12 } : Room)) (fun a U => a = #[(.ref ob0)] ∧ Z.Warmed39 U.vm ∧ U.heap = h0) (fun _ _ _ _ _ => True) (fun _ U o U' => ∃ v L, o = .returned v ∧ Q13_22 Z  ob0 h0 n0 v U'.heap L ∧ FrameEnd U o U' L ({ frames := 1, cells := 0, slots := 0, locals := 12 } : Room).cells ({ frames := 1, cells := 0, slots := 0, locals := 12 } : Room).slots) := by
  refine MetFree.of_bodySF (plainFor_of_name pn364) hisR ?_
  intro p e s m args below meth c s₁ Bd hml0 hP hK
  obtain ⟨rfl, hZ, hh⟩ := hP
  have hx := Bd.exec
  have hby := Bd.bytes
  have hml : c.maxLocals = 1 := hml0
  have hown : s.vm.findClass "java/lang/Number" = some m.cls := findClass_of_methodNamed Bd.named
  have hnm := (name_of_methodNamed Bd.named Bd.method).1
  have X0 : Stand p l e ({ frames := 1, cells := 0, slots := 0, locals := 12 } : Room) s m #[(.ref ob0)] below meth c s₁ [] 0 0 := Stand.of_body Bd
  have e0 : s₁.heap = h0 := by rw [← hh, Bd.state]; rfl
  have N0 := Fr.nil n0
  have pre0 : ∀ t, Steps p.tables e below (s₁.setTop (mkF m 0 #[.val (.ref ob0)] [])) t → Steps p.tables e below (s₁.setTop (entryFrame m #[(.ref ob0)] 1)) t := fun t k => castTop (ef363 m ob0) k
  obtain ⟨T1, X1, e1, st1⟩ := initO X0 hx hZ hown (hw _ (List.mem_of_getElem? (i := 76) rfl)) (hw _ (List.mem_of_getElem? (i := 7) rfl)) (hw _ (List.mem_of_getElem? (i := 8) rfl)) e0 (g := (mkF m 1 #[.val (.ref ob0)] [(.ref ob0)])) rfl (by rw [hml]; rfl) rfl (hb hby d13_1) (by decide) (W := 0) (by show 2 * 0 + _ ≤ _; exact Nat.le_of_eq rfl) (by decide)
  obtain ⟨fs, hr, hrun, hended, hW, hsame⟩ := X1.leave (v := none) (fun _ => rfl)
  refine ⟨_, _, pre0 _ ?_, hrun, hended, _, _, rfl, ?_, ⟨_, rfl⟩, hW, hsame.mono (by decide) (by decide)⟩
  · show Steps p.tables e below (s₁.setTop (mkF m 0 #[.val (.ref ob0)] [])) _
    refine XS.aloadN X0.here hx rfl (hb hby d13_0) rfl rfl ?_
    show Steps p.tables e below (s₁.setTop (mkF m 1 #[.val (.ref ob0)] [(.ref ob0)])) _
    refine st1 _ ?_
    show Steps p.tables e below (T1.setTop (mkF m 4 #[.val (.ref ob0)] [])) _
    exact X1.returnOut hx Bd.returns (hb hby d13_4) hr
  · exact ⟨rfl, N0, e1⟩
theorem d12_1 : decode jdk_35_method_26_code 1 = .ok (.invokespecial 270, 3) := by decide +kernel
theorem d12_4 : decode jdk_35_method_26_code 4 = .ok (.aload_n 0, 1) := by decide +kernel
theorem d12_5 : decode jdk_35_method_26_code 5 = .ok (.lload_n 1, 1) := by decide +kernel
theorem d12_6 : decode jdk_35_method_26_code 6 = .ok (.putfield 273, 3) := by decide +kernel
theorem d12_9 : decode jdk_35_method_26_code 9 = .ok (.return_, 1) := by decide +kernel
theorem ef371 (m : MethodId) (x0 : Addr) (x1 : Int64) : entryFrame m #[(.ref x0), (.long x1)] 3 = mkF m 0 #[.val (.ref x0), .val (.long x1), .second] [] := by first | (simp [entryFrame, mkF, argsToLocals, Value.category]; done) | rfl
def Q12_23 (Z : State) (ob0 : Addr) (q0 : Int64) (h0 : Heap) (n0 : Nat) (v : Option Value) (h : Heap) (L : List Loc) : Prop := v = none ∧ Fr n0 L ∧ Keep h0 h [ob0] ∧ Old Z n0 h ∧ Exa Z h ob0 "java/lang/Long" ∧ Fld Z h ob0 "java/lang/Long" "value" "J" (.long q0) ∧ True
set_option maxRecDepth 65536 in
set_option maxHeartbeats 40000000 in
theorem rm12_23 (l : Launch) (Z : State) (a0 : Array Value) (hw : ∀ d ∈ tables_1, d.before a0 Z = true) (ws : List Jvm.Cond) (ob0 : Addr) (q0 : Int64) (h0 : Heap) (n0 : Nat) (Z0 : n0 ≤ h0.size) (O0 : Old Z n0 h0) (PE_ob0 : Exa Z h0 ob0 "java/lang/Long") (PF_ob0_value : Fld Z h0 ob0 "java/lang/Long" "value" "J" (.long (0 : Int64))) (g_ob0 : n0 ≤ ob0) :
    MetFree l (⟨"java/lang/Long", "<init>", "(J)V"⟩ : MethodName) (head1 (Jvm.Cond.code (⟨"java/lang/Long", "<init>", "(J)V"⟩ : MethodName) jdk_35_method_26_code 3 none :: ws) ({ frames := 2, cells := 0, slots := 0, locals := 24 } : Room)) (fun a U => a = #[(.ref ob0), (.long q0)] ∧ Z.Warmed39 U.vm ∧ U.heap = h0) (fun _ _ _ _ _ => True) (fun _ U o U' => ∃ v L, o = .returned v ∧ Q12_23 Z  ob0 q0 h0 n0 v U'.heap L ∧ FrameEnd U o U' L ({ frames := 2, cells := 0, slots := 0, locals := 24 } : Room).cells ({ frames := 2, cells := 0, slots := 0, locals := 24 } : Room).slots) := by
  refine MetFree.of_bodySF (plainFor_of_name pn114) hisR ?_
  intro p e s m args below meth c s₁ Bd hml0 hP hK
  obtain ⟨rfl, hZ, hh⟩ := hP
  have hx := Bd.exec
  have hby := Bd.bytes
  have hml : c.maxLocals = 3 := hml0
  have hown : s.vm.findClass "java/lang/Long" = some m.cls := findClass_of_methodNamed Bd.named
  have hnm := (name_of_methodNamed Bd.named Bd.method).1
  have X0 : Stand p l e ({ frames := 2, cells := 0, slots := 0, locals := 24 } : Room) s m #[(.ref ob0), (.long q0)] below meth c s₁ [] 0 0 := Stand.of_body Bd
  have e0 : s₁.heap = h0 := by rw [← hh, Bd.state]; rfl
  have N0 := Fr.nil n0
  have pre0 : ∀ t, Steps p.tables e below (s₁.setTop (mkF m 0 #[.val (.ref ob0), .val (.long q0), .second] [])) t → Steps p.tables e below (s₁.setTop (entryFrame m #[(.ref ob0), (.long q0)] 3)) t := fun t k => castTop (ef371 m ob0 q0) k
  obtain ⟨_, _, ⟨T1, L1, k1, n1⟩, -, X1, ⟨Lc1, hQ1, l1, y1, z1⟩, st1⟩ := X0.specialBack hx (y := (⟨"java/lang/Number", "<init>", "()V"⟩ : MethodName)) rfl hown (mvT hZ (hw _ (List.mem_of_getElem? (i := 70) rfl))) (mvT hZ (hw _ (List.mem_of_getElem? (i := 71) rfl))) (mvT hZ (hw _ (List.mem_of_getElem? (i := 75) rfl))) (by decide) (backOf (W := 0) (rm13_22 l Z a0 hw []  ob0 h0 n0 (own_n0 O0) O0 PE_ob0 PF_ob0_value) hZ (hw _ (List.mem_of_getElem? (i := 75) rfl)) (hw _ (List.mem_of_getElem? (i := 74) rfl)) (by decide) (by decide)) (g := (mkF m 1 #[.val (.ref ob0), .val (.long q0), .second] [(.ref ob0)])) rfl (by rw [hml]; rfl) (Steps.refl _) (a := ob0) (argsL := []) (rest := []) (lenOf pd23 rfl) rfl (by show 2 * 0 + _ ≤ _; exact Nat.le_of_eq rfl) (hb hby d12_1) (fun _ _ => ⟨rfl, e0, (by decide : 0 + 0 ≤ _), (by decide : 0 + 0 ≤ _)⟩)
  dsimp only [Pt.U, Pt.locs, Pt.cells, Pt.slots] at X1 l1 y1 z1 st1 hQ1
  subst l1 y1 z1
  obtain ⟨rfl, N1q, e1⟩ := hQ1
  have N1 := Fr.app N0 N1q
  obtain ⟨T2, h2, X2, e2, W2, st2⟩ := putF X1 hx hZ hown (host := "") (Or.inl (hw _ (List.mem_of_getElem? (i := 77) rfl))) Via.refl e1 PF_ob0_value PE_ob0 (Or.inr ⟨(hw _ (List.mem_of_getElem? (i := 78) rfl)), rfl, hnm⟩) (hw _ (List.mem_of_getElem? (i := 65) rfl)) (ty := .long) (by decide) rfl rfl (g := (mkF m 6 #[.val (.ref ob0), .val (.long q0), .second] [(.long q0), (.ref ob0)])) rfl rfl (hb hby d12_6)
  have Fw2 := PF_ob0_value.same W2
  have N2 := Fr.snoc X2 N1 g_ob0
  have O2 := O0.wr W2 g_ob0
  have KK2 : Keep h0 h2 [ob0] := (Keep.refl h0 [ob0]).wr W2 (Or.inl (List.mem_of_getElem? (i := 0) rfl))
  obtain ⟨fs, hr, hrun, hended, hW, hsame⟩ := X2.leave (v := none) (fun _ => rfl)
  refine ⟨_, _, pre0 _ ?_, hrun, hended, _, _, rfl, ?_, ⟨_, rfl⟩, hW, hsame.mono (by decide) (by decide)⟩
  · show Steps p.tables e below (s₁.setTop (mkF m 0 #[.val (.ref ob0), .val (.long q0), .second] [])) _
    refine XS.aloadN X0.here hx rfl (hb hby d12_0) rfl rfl ?_
    show Steps p.tables e below (s₁.setTop (mkF m 1 #[.val (.ref ob0), .val (.long q0), .second] [(.ref ob0)])) _
    refine st1.trans ?_
    show Steps p.tables e below (T1.setTop (mkF m 4 #[.val (.ref ob0), .val (.long q0), .second] [])) _
    refine XS.aloadN X1.here hx rfl (hb hby d12_4) rfl rfl ?_
    show Steps p.tables e below (T1.setTop (mkF m 5 #[.val (.ref ob0), .val (.long q0), .second] [(.ref ob0)])) _
    refine XS.lloadN X1.here hx rfl (hb hby d12_5) rfl ?_
    show Steps p.tables e below (T1.setTop (mkF m 6 #[.val (.ref ob0), .val (.long q0), .second] [(.long q0), (.ref ob0)])) _
    refine st2 _ ?_
    show Steps p.tables e below (T2.setTop (mkF m 9 #[.val (.ref ob0), .val (.long q0), .second] [])) _
    exact X2.returnOut hx Bd.returns (hb hby d12_9) hr
  · have eH : (T2.setFrames fs).heap = h2 := e2; rw [eH]; exact ⟨rfl, N2, KK2, O2, (PE_ob0.wr W2), Fw2, trivial⟩
theorem pd372 : parseMethodDescriptor "(J)V" = some ⟨[.long], none⟩ := by decide +kernel
theorem d11_36 : decode jdk_35_method_24_code 36 = .ok (.invokespecial 240, 3) := by decide +kernel
theorem d11_39 : decode jdk_35_method_24_code 39 = .ok (.areturn, 1) := by decide +kernel
theorem ef376 (m : MethodId) (x0 : Int64) : entryFrame m #[(.long x0)] 3 = mkF m 0 #[.val (.long x0), .second, .unset] [] := by first | (simp [entryFrame, mkF, argsToLocals, Value.category]; done) | rfl
def Q11_24 (Z : State) (q0 : Int64) (h0 : Heap) (n0 : Nat) (v : Option Value) (h : Heap) (L : List Loc) : Prop := ∃ b1 : Addr, v = some (.ref b1) ∧ Fr n0 L ∧ Keep h0 h [] ∧ Old Z n0 h ∧ h0.size ≤ b1 ∧ Exa Z h b1 "java/lang/Long" ∧ Fld Z h b1 "java/lang/Long" "value" "J" (.long q0) ∧ True
set_option maxRecDepth 65536 in
set_option maxHeartbeats 40000000 in
theorem rm11_24 (l : Launch) (Z : State) (a0 : Array Value) (hw : ∀ d ∈ tables_1, d.before a0 Z = true) (ws : List Jvm.Cond) (q0 : Int64) (h0 : Heap) (n0 : Nat) (Z0 : n0 ≤ h0.size) (O0 : Old Z n0 h0) (hd0 : ¬ (q0 < (-128 : Int64))) (hd1 : (127 : Int64) < q0) :
    MetFree l (⟨"java/lang/Long", "valueOf", "(J)Ljava/lang/Long;"⟩ : MethodName) (head1 (Jvm.Cond.code (⟨"java/lang/Long", "valueOf", "(J)Ljava/lang/Long;"⟩ : MethodName) jdk_35_method_24_code 3 (some (.object "java/lang/Long")) :: ws) ({ frames := 3, cells := 1, slots := 1, locals := 39 } : Room)) (fun a U => a = #[(.long q0)] ∧ Z.Warmed39 U.vm ∧ U.heap = h0) (fun _ _ _ _ _ => True) (fun _ U o U' => ∃ v L, o = .returned v ∧ Q11_24 Z  q0 h0 n0 v U'.heap L ∧ FrameEnd U o U' L ({ frames := 3, cells := 1, slots := 1, locals := 39 } : Room).cells ({ frames := 3, cells := 1, slots := 1, locals := 39 } : Room).slots) := by
  refine MetFree.of_bodySF (plainFor_of_name pn114) hisR ?_
  intro p e s m args below meth c s₁ Bd hml0 hP hK
  obtain ⟨rfl, hZ, hh⟩ := hP
  have hx := Bd.exec
  have hby := Bd.bytes
  have hml : c.maxLocals = 3 := hml0
  have hown : s.vm.findClass "java/lang/Long" = some m.cls := findClass_of_methodNamed Bd.named
  have hnm := (name_of_methodNamed Bd.named Bd.method).1
  have X0 : Stand p l e ({ frames := 3, cells := 1, slots := 1, locals := 39 } : Room) s m #[(.long q0)] below meth c s₁ [] 0 0 := Stand.of_body Bd
  have e0 : s₁.heap = h0 := by rw [← hh, Bd.state]; rfl
  have N0 := Fr.nil n0
  have pre0 : ∀ t, Steps p.tables e below (s₁.setTop (mkF m 0 #[.val (.long q0), .second, .unset] [])) t → Steps p.tables e below (s₁.setTop (entryFrame m #[(.long q0)] 3)) t := fun t k => castTop (ef376 m q0) k
  obtain ⟨T1, h1, X1, e1, E1, A1, D1, -, st1⟩ := newO X0 hx hZ hown (hw _ (List.mem_of_getElem? (i := 64) rfl)) (hw _ (List.mem_of_getElem? (i := 65) rfl)) (hw _ (List.mem_of_getElem? (i := 60) rfl)) e0 (g := (mkF m 31 #[.val (.long q0), .second, .val (.int (128 : Int32))] [])) rfl (hb hby d11_31) (by decide) (by decide)
  obtain ⟨b1, gg1⟩ : ∃ z, z = h0.size := ⟨_, rfl⟩
  rw [← gg1] at A1 D1 st1
  have bo_b1 : h0.size ≤ b1 := Nat.le_of_eq gg1.symm
  have g_b1 : n0 ≤ b1 := Nat.le_trans (own_n0 O0) bo_b1
  have sz_b1 : h0.size ≤ b1 := Nat.le_trans (Keep.refl h0 []).1 bo_b1
  have KK1 : Keep h0 h1 [] := (Keep.refl h0 []).ext E1
  have O1 := O0.ext E1
  have lb_b1 : b1 < h1.size := A1.lt
  have F_value_b1 : Fld Z h1 b1 "java/lang/Long" "value" "J" (.long (0 : Int64)) := D1 (Or.inr (hw _ (List.mem_of_getElem? (i := 78) rfl))) (ty := .long) (by decide)
  obtain ⟨_, _, ⟨T2, L2, k2, n2⟩, -, X2, ⟨Lc2, hQ2, l2, y2, z2⟩, st2⟩ := X1.specialBack hx (y := (⟨"java/lang/Long", "<init>", "(J)V"⟩ : MethodName)) rfl hown (mvT hZ (hw _ (List.mem_of_getElem? (i := 66) rfl))) (mvT hZ (hw _ (List.mem_of_getElem? (i := 67) rfl))) (mvT hZ (hw _ (List.mem_of_getElem? (i := 69) rfl))) (by decide) (backOf (W := 1) (rm12_23 l Z a0 hw []  b1 q0 h1 n0 (own_n0 O1) O1 A1 F_value_b1 g_b1) hZ (hw _ (List.mem_of_getElem? (i := 69) rfl)) (hw _ (List.mem_of_getElem? (i := 60) rfl)) (by decide) (by decide)) (g := (mkF m 36 #[.val (.long q0), .second, .val (.int (128 : Int32))] [(.long q0), (.ref b1), (.ref b1)])) rfl (by rw [hml]; rfl) (Steps.refl _) (a := b1) (argsL := [(.long q0)]) (rest := [(.ref b1)]) (lenOf pd372 rfl) rfl (by show 2 * 0 + _ ≤ _; exact Nat.le_of_eq rfl) (hb hby d11_36) (fun _ _ => ⟨rfl, e1, (by decide : 1 + 0 ≤ _), (by decide : 1 + 0 ≤ _)⟩)
  dsimp only [Pt.U, Pt.locs, Pt.cells, Pt.slots] at X2 l2 y2 z2 st2 hQ2
  subst l2 y2 z2
  obtain ⟨rfl, N2q, K2, O2, pf2_0, pf2_1, -⟩ := hQ2
  have KK2 : Keep h0 T2.heap [] := KK1.trans K2 (allS (Or.inr sz_b1) all0)
  have N2 := Fr.app N0 N2q
  obtain ⟨fs, hr, hrun, hended, hW, hsame⟩ := X2.leave (v := some (.ref b1)) (fun h => by rw [Bd.returns] at h; cases h)
  refine ⟨_, _, pre0 _ ?_, hrun, hended, _, _, rfl, ?_, ⟨_, rfl⟩, hW, hsame.mono (by decide) (by decide)⟩
  · show Steps p.tables e below (s₁.setTop (mkF m 0 #[.val (.long q0), .second, .unset] [])) _
    refine XS.sipush X0.here hx rfl (hb hby d11_0) ?_
    show Steps p.tables e below (s₁.setTop (mkF m 3 #[.val (.long q0), .second, .unset] [(.int (128 : Int32))])) _
    refine XS.istoreN X0.here hx rfl (hb hby d11_3) rfl (l' := #[.val (.long q0), .second, .val (.int (128 : Int32))]) rfl ?_
    show Steps p.tables e below (s₁.setTop (mkF m 4 #[.val (.long q0), .second, .val (.int (128 : Int32))] [])) _
    refine XS.lloadN X0.here hx rfl (hb hby d11_4) rfl ?_
    show Steps p.tables e below (s₁.setTop (mkF m 5 #[.val (.long q0), .second, .val (.int (128 : Int32))] [(.long q0)])) _
    refine X0.ldc2Long hx hown (mvT hZ (hw _ (List.mem_of_getElem? (i := 62) rfl))) (g := (mkF m 5 #[.val (.long q0), .second, .val (.int (128 : Int32))] [(.long q0)])) rfl (hb hby d11_5) _ ?_
    show Steps p.tables e below (s₁.setTop (mkF m 8 #[.val (.long q0), .second, .val (.int (128 : Int32))] [(.long (-128 : Int64)), (.long q0)])) _
    refine XS.lcmp X0.here hx rfl (hb hby d11_8) rfl ?_
    show Steps p.tables e below (s₁.setTop (mkF m 9 #[.val (.long q0), .second, .val (.int (128 : Int32))] [(.int (lcmpW q0 (-128 : Int64)))])) _
    refine XS.ifNo X0.here hx rfl (hb hby d11_9) rfl ((if0 _ _).trans (flt (fun q => hd0 ((lw_lt q0 (-128 : Int64)).mp q))).1) ?_
    show Steps p.tables e below (s₁.setTop (mkF m 12 #[.val (.long q0), .second, .val (.int (128 : Int32))] [])) _
    refine XS.lloadN X0.here hx rfl (hb hby d11_12) rfl ?_
    show Steps p.tables e below (s₁.setTop (mkF m 13 #[.val (.long q0), .second, .val (.int (128 : Int32))] [(.long q0)])) _
    refine X0.ldc2Long hx hown (mvT hZ (hw _ (List.mem_of_getElem? (i := 63) rfl))) (g := (mkF m 13 #[.val (.long q0), .second, .val (.int (128 : Int32))] [(.long q0)])) rfl (hb hby d11_13) _ ?_
    show Steps p.tables e below (s₁.setTop (mkF m 16 #[.val (.long q0), .second, .val (.int (128 : Int32))] [(.long (127 : Int64)), (.long q0)])) _
    refine XS.lcmp X0.here hx rfl (hb hby d11_16) rfl ?_
    show Steps p.tables e below (s₁.setTop (mkF m 17 #[.val (.long q0), .second, .val (.int (128 : Int32))] [(.int (lcmpW q0 (127 : Int64)))])) _
    refine XS.ifYes X0.here hx rfl (pc0 := 17) (pc' := 31) rfl (hb hby d11_17) rfl ((if0 _ _).trans (tlt ((lw_gt q0 (127 : Int64)).mpr hd1)).2.2.1) (by decide) (by decide) ?_
    show Steps p.tables e below (s₁.setTop (mkF m 31 #[.val (.long q0), .second, .val (.int (128 : Int32))] [])) _
    refine st1 _ ?_
    show Steps p.tables e below (T1.setTop (mkF m 34 #[.val (.long q0), .second, .val (.int (128 : Int32))] [(.ref b1)])) _
    refine XS.dup X1.here hx rfl (hb hby d11_34) rfl rfl ?_
    show Steps p.tables e below (T1.setTop (mkF m 35 #[.val (.long q0), .second, .val (.int (128 : Int32))] [(.ref b1), (.ref b1)])) _
    refine XS.lloadN X1.here hx rfl (hb hby d11_35) rfl ?_
    show Steps p.tables e below (T1.setTop (mkF m 36 #[.val (.long q0), .second, .val (.int (128 : Int32))] [(.long q0), (.ref b1), (.ref b1)])) _
    refine st2.trans ?_
    show Steps p.tables e below (T2.setTop (mkF m 39 #[.val (.long q0), .second, .val (.int (128 : Int32))] [(.ref b1)])) _
    jvm_step X2.here [X2.here.top, hx, (hb hby d11_39), X2.method', Bd.returns, Value.isRef, FieldType.isReference]
    first | (intro acts; rw [hr _ acts rfl rfl rfl]) | rw [hr _ _ rfl rfl rfl]
    exact Steps.refl _
  · exact ⟨b1, rfl, N2, KK2, O2, sz_b1, pf2_0, pf2_1, trivial⟩
theorem pd377 : parseMethodDescriptor "(J)Ljava/lang/Long;" = some ⟨[.long], some (.object "java/lang/Long")⟩ := by decide +kernel
theorem d7_74 : decode prog_12_method_5_code 74 = .ok (.invokestatic 43, 3) := by decide +kernel
theorem d7_77 : decode prog_12_method_5_code 77 = .ok (.aload_n 0, 1) := by decide +kernel
theorem d7_78 : decode prog_12_method_5_code 78 = .ok (.iload 4, 2) := by decide +kernel
theorem d7_80 : decode prog_12_method_5_code 80 = .ok (.iload 5, 2) := by decide +kernel
set_option maxRecDepth 65536 in
set_option maxHeartbeats 40000000 in
theorem anA {p : Program} {l : Launch} {e : Env} {s : State} {m : MethodId} {args : Array Value} {below : List Frame} {meth : Method} {c : Code} {T0 : State} {locs : List Loc} {Z : State} {a0 : Array Value} {h0 : Heap} {n0 : Nat} (ob0 : Addr) (q0 : Int32) (q1 : Int32) (hm : Addr)
    (X0 : Stand p l e ({ frames := 7, cells := 4, slots := 24, locals := 3120 } : Room) s m args below meth c T0 locs 0 0) (hx : p.tables.exec = Jvm.exec) (hZ : Z.Warmed39 s.vm) (hw : ∀ d ∈ tables_1, d.before a0 Z = true) (hby : c.code = prog_12_method_5_code) (hml : c.maxLocals = 6) (hown : s.vm.findClass "com/example/minos/minos/analysis/Circuit" = some m.cls) (e0 : T0.heap = h0) (N0 : Fr n0 locs) (O0 : Old Z n0 h0) (PE_ob0 : Exa Z h0 ob0 "com/example/minos/minos/analysis/Circuit") (PF_ob0_gates : Fld Z h0 ob0 "com/example/minos/minos/analysis/Circuit" "gates" "Ljava/util/Map;" (.ref hm)) (hd0 : ¬ (q0 = (0 : Int32))) (hd1 : ¬ (q1 = (0 : Int32))) (hd2 : ¬ (q0 = (q1 ^^^ (1 : Int32)))) (hd3 : ¬ (q0 = (1 : Int32))) (hd4 : ¬ (q0 = q1)) (hd5 : ¬ (q1 = (1 : Int32))) (hd6 : ¬ (q1 < q0)) (hd7 : q0 < q1) (hd8 : ¬ ((((q0.toInt64) <<< ((32 : Int32) &&& 0x3f).toInt64) ||| (q1.toInt64)) < (-128 : Int64))) (hd9 : (127 : Int64) < (((q0.toInt64) <<< ((32 : Int32) &&& 0x3f).toInt64) ||| (q1.toInt64))) :
    ∃ (T' : State) (locs' : List Loc) (b5_0 : Addr), Stand p l e ({ frames := 7, cells := 4, slots := 24, locals := 3120 } : Room) s m args below meth c T' locs' 1 1 ∧ Fr n0 locs' ∧ Keep h0 T'.heap [] ∧ Old Z n0 T'.heap ∧ h0.size ≤ b5_0 ∧ Exa Z T'.heap b5_0 "java/lang/Long" ∧ Fld Z T'.heap b5_0 "java/lang/Long" "value" "J" (.long (((q0.toInt64) <<< ((32 : Int32) &&& 0x3f).toInt64) ||| (q1.toInt64))) ∧ True ∧ ∀ t, Steps p.tables e below (T'.setTop (mkF m 82 #[.val (.ref ob0), .val (.int q0), .val (.int q1), .unset, .val (.int q0), .val (.int q1)] [(.int q1), (.int q0), (.ref ob0), (.ref b5_0), (.ref hm)])) t → Steps p.tables e below (T0.setTop (mkF m 0 #[.val (.ref ob0), .val (.int q0), .val (.int q1), .unset, .unset, .unset] [])) t := by
  obtain ⟨_, _, ⟨T1, L1, k1, n1⟩, -, X1, ⟨Lc1, hQ1, l1, y1, z1⟩, st1⟩ := Jvm.LawKit.callS X0 hx (y := (⟨"com/example/minos/minos/analysis/Circuit", "not", "(I)I"⟩ : MethodName)) hown (mvT hZ (hw _ (List.mem_of_getElem? (i := 48) rfl))) (mvT hZ (hw _ (List.mem_of_getElem? (i := 49) rfl))) (mvT hZ (hw _ (List.mem_of_getElem? (i := 2) rfl))) (mvT hZ (hw _ (List.mem_of_getElem? (i := 50) rfl))) (by decide) (backOf (W := 1) (rm8_19 l Z a0 hw []  q1 h0 n0 (own_n0 O0) O0) hZ (hw _ (List.mem_of_getElem? (i := 50) rfl)) (hw _ (List.mem_of_getElem? (i := 2) rfl)) (by decide) (by decide)) (g := (mkF m 10 #[.val (.ref ob0), .val (.int q0), .val (.int q1), .unset, .unset, .unset] [(.int q1), (.int q0)])) rfl (by rw [hml]; rfl) (argsL := [(.int q1)]) (rest := [(.int q0)]) (lenOf pd301 rfl) rfl (by show 2 * 0 + _ ≤ _; exact Nat.le_of_eq rfl) (hb hby d7_10) (fun _ _ => ⟨rfl, e0, (by decide : 0 + 0 ≤ _), (by decide : 0 + 0 ≤ _)⟩)
  dsimp only [Pt.U, Pt.locs, Pt.cells, Pt.slots] at X1 l1 y1 z1 st1 hQ1
  subst l1 y1 z1
  obtain ⟨rfl, N1q, e1⟩ := hQ1
  have N1 := Fr.app N0 N1q
  obtain ⟨_, _, ⟨T2, L2, k2, n2⟩, -, X2, ⟨Lc2, hQ2, l2, y2, z2⟩, st2⟩ := Jvm.LawKit.callS X1 hx (y := (⟨"java/lang/Math", "min", "(II)I"⟩ : MethodName)) hown (mvT hZ (hw _ (List.mem_of_getElem? (i := 51) rfl))) (mvT hZ (hw _ (List.mem_of_getElem? (i := 52) rfl))) (mvT hZ (hw _ (List.mem_of_getElem? (i := 53) rfl))) (mvT hZ (hw _ (List.mem_of_getElem? (i := 54) rfl))) (by decide) (backOf (W := 0) (rm9_20 l Z a0 hw []  q0 q1 h0 n0 (own_n0 O0) O0 hd6) hZ (hw _ (List.mem_of_getElem? (i := 54) rfl)) (hw _ (List.mem_of_getElem? (i := 53) rfl)) (by decide) (by decide)) (g := (mkF m 48 #[.val (.ref ob0), .val (.int q0), .val (.int q1), .unset, .unset, .unset] [(.int q1), (.int q0)])) rfl (by rw [hml]; rfl) (argsL := [(.int q0), (.int q1)]) (rest := []) (lenOf pd70 rfl) rfl (by show 2 * 0 + _ ≤ _; exact Nat.le_of_eq rfl) (hb hby d7_48) (fun _ _ => ⟨rfl, e1, (by decide : 0 + 0 ≤ _), (by decide : 0 + 0 ≤ _)⟩)
  dsimp only [Pt.U, Pt.locs, Pt.cells, Pt.slots] at X2 l2 y2 z2 st2 hQ2
  subst l2 y2 z2
  obtain ⟨rfl, N2q, e2⟩ := hQ2
  have N2 := Fr.app N1 N2q
  obtain ⟨_, _, ⟨T3, L3, k3, n3⟩, -, X3, ⟨Lc3, hQ3, l3, y3, z3⟩, st3⟩ := Jvm.LawKit.callS X2 hx (y := (⟨"java/lang/Math", "max", "(II)I"⟩ : MethodName)) hown (mvT hZ (hw _ (List.mem_of_getElem? (i := 55) rfl))) (mvT hZ (hw _ (List.mem_of_getElem? (i := 56) rfl))) (mvT hZ (hw _ (List.mem_of_getElem? (i := 53) rfl))) (mvT hZ (hw _ (List.mem_of_getElem? (i := 57) rfl))) (by decide) (backOf (W := 0) (rm10_21 l Z a0 hw []  q0 q1 h0 n0 (own_n0 O0) O0 hd7) hZ (hw _ (List.mem_of_getElem? (i := 57) rfl)) (hw _ (List.mem_of_getElem? (i := 53) rfl)) (by decide) (by decide)) (g := (mkF m 55 #[.val (.ref ob0), .val (.int q0), .val (.int q1), .unset, .val (.int q0), .unset] [(.int q1), (.int q0)])) rfl (by rw [hml]; rfl) (argsL := [(.int q0), (.int q1)]) (rest := []) (lenOf pd70 rfl) rfl (by show 2 * 0 + _ ≤ _; exact Nat.le_of_eq rfl) (hb hby d7_55) (fun _ _ => ⟨rfl, e2, (by decide : 0 + 0 ≤ _), (by decide : 0 + 0 ≤ _)⟩)
  dsimp only [Pt.U, Pt.locs, Pt.cells, Pt.slots] at X3 l3 y3 z3 st3 hQ3
  subst l3 y3 z3
  obtain ⟨rfl, N3q, e3⟩ := hQ3
  have N3 := Fr.app N2 N3q
  obtain ⟨T4, X4, e4, st4⟩ := getF X3 hx hZ hown (host := "") (Or.inl (hw _ (List.mem_of_getElem? (i := 32) rfl))) Via.refl e3 PF_ob0_gates (g := (mkF m 61 #[.val (.ref ob0), .val (.int q0), .val (.int q1), .unset, .val (.int q0), .val (.int q1)] [(.ref ob0)])) rfl rfl (hb hby d7_61)
  obtain ⟨_, _, ⟨T5, L5, k5, n5⟩, -, X5, ⟨Lc5, hQ5, l5, y5, z5⟩, st5⟩ := Jvm.LawKit.callS X4 hx (y := (⟨"java/lang/Long", "valueOf", "(J)Ljava/lang/Long;"⟩ : MethodName)) hown (mvT hZ (hw _ (List.mem_of_getElem? (i := 58) rfl))) (mvT hZ (hw _ (List.mem_of_getElem? (i := 59) rfl))) (mvT hZ (hw _ (List.mem_of_getElem? (i := 60) rfl))) (mvT hZ (hw _ (List.mem_of_getElem? (i := 61) rfl))) (by decide) (backOf (W := 1) (rm11_24 l Z a0 hw []  (((q0.toInt64) <<< ((32 : Int32) &&& 0x3f).toInt64) ||| (q1.toInt64)) h0 n0 (own_n0 O0) O0 hd8 hd9) hZ (hw _ (List.mem_of_getElem? (i := 61) rfl)) (hw _ (List.mem_of_getElem? (i := 60) rfl)) (by decide) (by decide)) (g := (mkF m 74 #[.val (.ref ob0), .val (.int q0), .val (.int q1), .unset, .val (.int q0), .val (.int q1)] [(.long (((q0.toInt64) <<< ((32 : Int32) &&& 0x3f).toInt64) ||| (q1.toInt64))), (.ref hm)])) rfl (by rw [hml]; rfl) (argsL := [(.long (((q0.toInt64) <<< ((32 : Int32) &&& 0x3f).toInt64) ||| (q1.toInt64)))]) (rest := [(.ref hm)]) (lenOf pd377 rfl) rfl (by show 2 * 0 + _ ≤ _; exact Nat.le_of_eq rfl) (hb hby d7_74) (fun _ _ => ⟨rfl, e4, (by decide : 0 + 1 ≤ _), (by decide : 0 + 1 ≤ _)⟩)
  dsimp only [Pt.U, Pt.locs, Pt.cells, Pt.slots] at X5 l5 y5 z5 st5 hQ5
  subst l5 y5 z5
  obtain ⟨b5_0, rfl, N5q, K5, O5, pz_b5_0, pf5_0, pf5_1, -⟩ := hQ5
  have bo_b5_0 : h0.size ≤ b5_0 := pz_b5_0
  have g_b5_0 : n0 ≤ b5_0 := Nat.le_trans (own_n0 O0) bo_b5_0
  have sz_b5_0 : h0.size ≤ b5_0 := Nat.le_trans (Keep.refl h0 []).1 bo_b5_0
  have KK5 : Keep h0 T5.heap [] := (Keep.refl h0 []).trans K5 all0
  have N5 := Fr.app N3 N5q
  refine ⟨T5, _, b5_0, X5, N5, KK5, O5, sz_b5_0, pf5_0, pf5_1, trivial, fun t kt => ?_⟩
  show Steps p.tables e below (T0.setTop (mkF m 0 #[.val (.ref ob0), .val (.int q0), .val (.int q1), .unset, .unset, .unset] [])) _
  refine XS.iloadN X0.here hx rfl (hb hby d7_0) rfl ?_
  show Steps p.tables e below (T0.setTop (mkF m 1 #[.val (.ref ob0), .val (.int q0), .val (.int q1), .unset, .unset, .unset] [(.int q0)])) _
  refine XS.ifNo X0.here hx rfl (hb hby d7_1) rfl ((if0 _ _).trans (feq hd0).1) ?_
  show Steps p.tables e below (T0.setTop (mkF m 4 #[.val (.ref ob0), .val (.int q0), .val (.int q1), .unset, .unset, .unset] [])) _
  refine XS.iloadN X0.here hx rfl (hb hby d7_4) rfl ?_
  show Steps p.tables e below (T0.setTop (mkF m 5 #[.val (.ref ob0), .val (.int q0), .val (.int q1), .unset, .unset, .unset] [(.int q1)])) _
  refine XS.ifNo X0.here hx rfl (hb hby d7_5) rfl ((if0 _ _).trans (feq hd1).1) ?_
  show Steps p.tables e below (T0.setTop (mkF m 8 #[.val (.ref ob0), .val (.int q0), .val (.int q1), .unset, .unset, .unset] [])) _
  refine XS.iloadN X0.here hx rfl (hb hby d7_8) rfl ?_
  show Steps p.tables e below (T0.setTop (mkF m 9 #[.val (.ref ob0), .val (.int q0), .val (.int q1), .unset, .unset, .unset] [(.int q0)])) _
  refine XS.iloadN X0.here hx rfl (hb hby d7_9) rfl ?_
  show Steps p.tables e below (T0.setTop (mkF m 10 #[.val (.ref ob0), .val (.int q0), .val (.int q1), .unset, .unset, .unset] [(.int q1), (.int q0)])) _
  refine st1 _ ?_
  show Steps p.tables e below (T1.setTop (mkF m 13 #[.val (.ref ob0), .val (.int q0), .val (.int q1), .unset, .unset, .unset] [(.int (q1 ^^^ (1 : Int32))), (.int q0)])) _
  refine XS.icmpYes X1.here hx rfl (pc0 := 13) (pc' := 21) rfl (hb hby d7_13) rfl (feq hd2).2 (by decide) (by decide) ?_
  show Steps p.tables e below (T1.setTop (mkF m 21 #[.val (.ref ob0), .val (.int q0), .val (.int q1), .unset, .unset, .unset] [])) _
  refine XS.iloadN X1.here hx rfl (hb hby d7_21) rfl ?_
  show Steps p.tables e below (T1.setTop (mkF m 22 #[.val (.ref ob0), .val (.int q0), .val (.int q1), .unset, .unset, .unset] [(.int q0)])) _
  refine XS.iconst X1.here hx rfl (hb hby d7_22) ?_
  show Steps p.tables e below (T1.setTop (mkF m 23 #[.val (.ref ob0), .val (.int q0), .val (.int q1), .unset, .unset, .unset] [(.int (1 : Int32)), (.int q0)])) _
  refine XS.icmpNo X1.here hx rfl (hb hby d7_23) rfl (feq hd3).1 ?_
  show Steps p.tables e below (T1.setTop (mkF m 26 #[.val (.ref ob0), .val (.int q0), .val (.int q1), .unset, .unset, .unset] [])) _
  refine XS.iloadN X1.here hx rfl (hb hby d7_26) rfl ?_
  show Steps p.tables e below (T1.setTop (mkF m 27 #[.val (.ref ob0), .val (.int q0), .val (.int q1), .unset, .unset, .unset] [(.int q0)])) _
  refine XS.iloadN X1.here hx rfl (hb hby d7_27) rfl ?_
  show Steps p.tables e below (T1.setTop (mkF m 28 #[.val (.ref ob0), .val (.int q0), .val (.int q1), .unset, .unset, .unset] [(.int q1), (.int q0)])) _
  refine XS.icmpYes X1.here hx rfl (pc0 := 28) (pc' := 36) rfl (hb hby d7_28) rfl (feq hd4).2 (by decide) (by decide) ?_
  show Steps p.tables e below (T1.setTop (mkF m 36 #[.val (.ref ob0), .val (.int q0), .val (.int q1), .unset, .unset, .unset] [])) _
  refine XS.iloadN X1.here hx rfl (hb hby d7_36) rfl ?_
  show Steps p.tables e below (T1.setTop (mkF m 37 #[.val (.ref ob0), .val (.int q0), .val (.int q1), .unset, .unset, .unset] [(.int q1)])) _
  refine XS.iconst X1.here hx rfl (hb hby d7_37) ?_
  show Steps p.tables e below (T1.setTop (mkF m 38 #[.val (.ref ob0), .val (.int q0), .val (.int q1), .unset, .unset, .unset] [(.int (1 : Int32)), (.int q1)])) _
  refine XS.icmpYes X1.here hx rfl (pc0 := 38) (pc' := 46) rfl (hb hby d7_38) rfl (feq hd5).2 (by decide) (by decide) ?_
  show Steps p.tables e below (T1.setTop (mkF m 46 #[.val (.ref ob0), .val (.int q0), .val (.int q1), .unset, .unset, .unset] [])) _
  refine XS.iloadN X1.here hx rfl (hb hby d7_46) rfl ?_
  show Steps p.tables e below (T1.setTop (mkF m 47 #[.val (.ref ob0), .val (.int q0), .val (.int q1), .unset, .unset, .unset] [(.int q0)])) _
  refine XS.iloadN X1.here hx rfl (hb hby d7_47) rfl ?_
  show Steps p.tables e below (T1.setTop (mkF m 48 #[.val (.ref ob0), .val (.int q0), .val (.int q1), .unset, .unset, .unset] [(.int q1), (.int q0)])) _
  refine st2 _ ?_
  show Steps p.tables e below (T2.setTop (mkF m 51 #[.val (.ref ob0), .val (.int q0), .val (.int q1), .unset, .unset, .unset] [(.int q0)])) _
  refine XS.istore X2.here hx rfl (hb hby d7_51) rfl (l' := #[.val (.ref ob0), .val (.int q0), .val (.int q1), .unset, .val (.int q0), .unset]) rfl ?_
  show Steps p.tables e below (T2.setTop (mkF m 53 #[.val (.ref ob0), .val (.int q0), .val (.int q1), .unset, .val (.int q0), .unset] [])) _
  refine XS.iloadN X2.here hx rfl (hb hby d7_53) rfl ?_
  show Steps p.tables e below (T2.setTop (mkF m 54 #[.val (.ref ob0), .val (.int q0), .val (.int q1), .unset, .val (.int q0), .unset] [(.int q0)])) _
  refine XS.iloadN X2.here hx rfl (hb hby d7_54) rfl ?_
  show Steps p.tables e below (T2.setTop (mkF m 55 #[.val (.ref ob0), .val (.int q0), .val (.int q1), .unset, .val (.int q0), .unset] [(.int q1), (.int q0)])) _
  refine st3 _ ?_
  show Steps p.tables e below (T3.setTop (mkF m 58 #[.val (.ref ob0), .val (.int q0), .val (.int q1), .unset, .val (.int q0), .unset] [(.int q1)])) _
  refine XS.istore X3.here hx rfl (hb hby d7_58) rfl (l' := #[.val (.ref ob0), .val (.int q0), .val (.int q1), .unset, .val (.int q0), .val (.int q1)]) rfl ?_
  show Steps p.tables e below (T3.setTop (mkF m 60 #[.val (.ref ob0), .val (.int q0), .val (.int q1), .unset, .val (.int q0), .val (.int q1)] [])) _
  refine XS.aloadN X3.here hx rfl (hb hby d7_60) rfl rfl ?_
  show Steps p.tables e below (T3.setTop (mkF m 61 #[.val (.ref ob0), .val (.int q0), .val (.int q1), .unset, .val (.int q0), .val (.int q1)] [(.ref ob0)])) _
  refine st4 _ ?_
  show Steps p.tables e below (T4.setTop (mkF m 64 #[.val (.ref ob0), .val (.int q0), .val (.int q1), .unset, .val (.int q0), .val (.int q1)] [(.ref hm)])) _
  refine XS.iload X4.here hx rfl (hb hby d7_64) rfl ?_
  show Steps p.tables e below (T4.setTop (mkF m 66 #[.val (.ref ob0), .val (.int q0), .val (.int q1), .unset, .val (.int q0), .val (.int q1)] [(.int q0), (.ref hm)])) _
  refine XS.i2l X4.here hx rfl (hb hby d7_66) rfl ?_
  show Steps p.tables e below (T4.setTop (mkF m 67 #[.val (.ref ob0), .val (.int q0), .val (.int q1), .unset, .val (.int q0), .val (.int q1)] [(.long (q0.toInt64)), (.ref hm)])) _
  refine XS.bipush X4.here hx rfl (hb hby d7_67) ?_
  show Steps p.tables e below (T4.setTop (mkF m 69 #[.val (.ref ob0), .val (.int q0), .val (.int q1), .unset, .val (.int q0), .val (.int q1)] [(.int (32 : Int32)), (.long (q0.toInt64)), (.ref hm)])) _
  refine XS.lshl X4.here hx rfl (hb hby d7_69) rfl ?_
  show Steps p.tables e below (T4.setTop (mkF m 70 #[.val (.ref ob0), .val (.int q0), .val (.int q1), .unset, .val (.int q0), .val (.int q1)] [(.long ((q0.toInt64) <<< ((32 : Int32) &&& 0x3f).toInt64)), (.ref hm)])) _
  refine XS.iload X4.here hx rfl (hb hby d7_70) rfl ?_
  show Steps p.tables e below (T4.setTop (mkF m 72 #[.val (.ref ob0), .val (.int q0), .val (.int q1), .unset, .val (.int q0), .val (.int q1)] [(.int q1), (.long ((q0.toInt64) <<< ((32 : Int32) &&& 0x3f).toInt64)), (.ref hm)])) _
  refine XS.i2l X4.here hx rfl (hb hby d7_72) rfl ?_
  show Steps p.tables e below (T4.setTop (mkF m 73 #[.val (.ref ob0), .val (.int q0), .val (.int q1), .unset, .val (.int q0), .val (.int q1)] [(.long (q1.toInt64)), (.long ((q0.toInt64) <<< ((32 : Int32) &&& 0x3f).toInt64)), (.ref hm)])) _
  refine XS.lor X4.here hx rfl (hb hby d7_73) rfl ?_
  show Steps p.tables e below (T4.setTop (mkF m 74 #[.val (.ref ob0), .val (.int q0), .val (.int q1), .unset, .val (.int q0), .val (.int q1)] [(.long (((q0.toInt64) <<< ((32 : Int32) &&& 0x3f).toInt64) ||| (q1.toInt64))), (.ref hm)])) _
  refine st5 _ ?_
  show Steps p.tables e below (T5.setTop (mkF m 77 #[.val (.ref ob0), .val (.int q0), .val (.int q1), .unset, .val (.int q0), .val (.int q1)] [(.ref b5_0), (.ref hm)])) _
  refine XS.aloadN X5.here hx rfl (hb hby d7_77) rfl rfl ?_
  show Steps p.tables e below (T5.setTop (mkF m 78 #[.val (.ref ob0), .val (.int q0), .val (.int q1), .unset, .val (.int q0), .val (.int q1)] [(.ref ob0), (.ref b5_0), (.ref hm)])) _
  refine XS.iload X5.here hx rfl (hb hby d7_78) rfl ?_
  show Steps p.tables e below (T5.setTop (mkF m 80 #[.val (.ref ob0), .val (.int q0), .val (.int q1), .unset, .val (.int q0), .val (.int q1)] [(.int q0), (.ref ob0), (.ref b5_0), (.ref hm)])) _
  refine XS.iload X5.here hx rfl (hb hby d7_80) rfl ?_
  show Steps p.tables e below (T5.setTop (mkF m 82 #[.val (.ref ob0), .val (.int q0), .val (.int q1), .unset, .val (.int q0), .val (.int q1)] [(.int q1), (.int q0), (.ref ob0), (.ref b5_0), (.ref hm)])) _
  exact kt
theorem d7_92 : decode prog_12_method_5_code 92 = .ok (.checkcast 59, 3) := by decide +kernel
theorem d24_0 : decode jdk_33_method_27_code 0 = .ok (.aload_n 0, 1) := by decide +kernel
theorem d24_1 : decode jdk_33_method_27_code 1 = .ok (.getfield 205, 3) := by decide +kernel
theorem d24_4 : decode jdk_33_method_27_code 4 = .ok (.ireturn, 1) := by decide +kernel
theorem ef388 (m : MethodId) (x0 : Addr) : entryFrame m #[(.ref x0)] 1 = mkF m 0 #[.val (.ref x0)] [] := by first | (simp [entryFrame, mkF, argsToLocals, Value.category]; done) | rfl
def Q24_26 (Z : State) (ob0 : Addr) (q0 : Int32) (h0 : Heap) (n0 : Nat) (v : Option Value) (h : Heap) (L : List Loc) : Prop := v = some (.int q0) ∧ Fr n0 L ∧ h = h0
set_option maxRecDepth 65536 in
set_option maxHeartbeats 40000000 in
theorem rm24_26 (l : Launch) (Z : State) (a0 : Array Value) (hw : ∀ d ∈ tables_1, d.before a0 Z = true) (ws : List Jvm.Cond) (ob0 : Addr) (q0 : Int32) (h0 : Heap) (n0 : Nat) (Z0 : n0 ≤ h0.size) (O0 : Old Z n0 h0) (PE_ob0 : Exa Z h0 ob0 "java/lang/Integer") (PF_ob0_value : Fld Z h0 ob0 "java/lang/Integer" "value" "I" (.int q0)) :
    MetFree l (⟨"java/lang/Integer", "intValue", "()I"⟩ : MethodName) (head1 (Jvm.Cond.code (⟨"java/lang/Integer", "intValue", "()I"⟩ : MethodName) jdk_33_method_27_code 1 (some .int) :: ws) ({ frames := 0, cells := 0, slots := 0, locals := 0 } : Room)) (fun a U => a = #[(.ref ob0)] ∧ Z.Warmed39 U.vm ∧ U.heap = h0) (fun _ _ _ _ _ => True) (fun _ U o U' => ∃ v L, o = .returned v ∧ Q24_26 Z  ob0 q0 h0 n0 v U'.heap L ∧ FrameEnd U o U' L ({ frames := 0, cells := 0, slots := 0, locals := 0 } : Room).cells ({ frames := 0, cells := 0, slots := 0, locals := 0 } : Room).slots) := by
  refine MetFree.of_bodySF (plainFor_of_name pn88) hisR ?_
  intro p e s m args below meth c s₁ Bd hml0 hP hK
  obtain ⟨rfl, hZ, hh⟩ := hP
  have hx := Bd.exec
  have hby := Bd.bytes
  have hml : c.maxLocals = 1 := hml0
  have hown : s.vm.findClass "java/lang/Integer" = some m.cls := findClass_of_methodNamed Bd.named
  have hnm := (name_of_methodNamed Bd.named Bd.method).1
  have X0 : Stand p l e ({ frames := 0, cells := 0, slots := 0, locals := 0 } : Room) s m #[(.ref ob0)] below meth c s₁ [] 0 0 := Stand.of_body Bd
  have e0 : s₁.heap = h0 := by rw [← hh, Bd.state]; rfl
  have N0 := Fr.nil n0
  have pre0 : ∀ t, Steps p.tables e below (s₁.setTop (mkF m 0 #[.val (.ref ob0)] [])) t → Steps p.tables e below (s₁.setTop (entryFrame m #[(.ref ob0)] 1)) t := fun t k => castTop (ef388 m ob0) k
  obtain ⟨T1, X1, e1, st1⟩ := getF X0 hx hZ hown (host := "") (Or.inl (hw _ (List.mem_of_getElem? (i := 164) rfl))) Via.refl e0 PF_ob0_value (g := (mkF m 1 #[.val (.ref ob0)] [(.ref ob0)])) rfl rfl (hb hby d24_1)
  obtain ⟨fs, hr, hrun, hended, hW, hsame⟩ := X1.leave (v := some (.int q0)) (fun h => by rw [Bd.returns] at h; cases h)
  refine ⟨_, _, pre0 _ ?_, hrun, hended, _, _, rfl, ?_, ⟨_, rfl⟩, hW, hsame.mono (by decide) (by decide)⟩
  · show Steps p.tables e below (s₁.setTop (mkF m 0 #[.val (.ref ob0)] [])) _
    refine XS.aloadN X0.here hx rfl (hb hby d24_0) rfl rfl ?_
    show Steps p.tables e below (s₁.setTop (mkF m 1 #[.val (.ref ob0)] [(.ref ob0)])) _
    refine st1 _ ?_
    show Steps p.tables e below (T1.setTop (mkF m 4 #[.val (.ref ob0)] [(.int q0)])) _
    exact Jvm.RoadKit.retI X1 hx Bd.returns (hb hby d24_4) hr
  · exact ⟨rfl, N0, e1⟩
theorem d7_95 : decode prog_12_method_5_code 95 = .ok (.invokevirtual 61, 3) := by decide +kernel
theorem d7_98 : decode prog_12_method_5_code 98 = .ok (.istore_n 3, 1) := by decide +kernel
theorem d7_99 : decode prog_12_method_5_code 99 = .ok (.iload_n 3, 1) := by decide +kernel
theorem d7_100 : decode prog_12_method_5_code 100 = .ok (.ireturn, 1) := by decide +kernel
set_option maxRecDepth 65536 in
set_option maxHeartbeats 40000000 in
theorem anB {p : Program} {l : Launch} {e : Env} {s : State} {m : MethodId} {args : Array Value} {below : List Frame} {meth : Method} {c : Code} {T0 : State} {locs : List Loc} {Z : State} {a0 : Array Value} {h0 : Heap} {n0 : Nat} (ob0 : Addr) (q0 : Int32) (q1 : Int32) (lo : Int32) (hi : Int32) (val : Addr) (iv : Int32)
    (X0 : Stand p l e ({ frames := 7, cells := 4, slots := 24, locals := 3120 } : Room) s m args below meth c T0 locs 4 24) (hx : p.tables.exec = Jvm.exec) (hZ : Z.Warmed39 s.vm) (hw : ∀ d ∈ tables_1, d.before a0 Z = true) (hby : c.code = prog_12_method_5_code) (hml : c.maxLocals = 6) (hown : s.vm.findClass "com/example/minos/minos/analysis/Circuit" = some m.cls) (e0 : T0.heap = h0) (N0 : Fr n0 locs) (O0 : Old Z n0 h0) (PE_val : Exa Z h0 val "java/lang/Integer") (PF_val_value : Fld Z h0 val "java/lang/Integer" "value" "I" (.int iv)) (hret : meth.sig.returnType = some .int) (hlk : meth.locks = false) {entry : State} (pre0 : ∀ t, Steps p.tables e below (T0.setTop (mkF m 92 #[.val (.ref ob0), .val (.int q0), .val (.int q1), .unset, .val (.int lo), .val (.int hi)] [(.ref val)])) t → Steps p.tables e below entry t) :
    ∃ s₂ o, Steps p.tables e below entry s₂ ∧ s₂.status = .running ∧ Ended s₂ below o ∧ ∃ v L, o = .returned v ∧ QV (some (.int iv)) h0 n0 v s₂.heap L ∧ FrameEnd s o s₂ L ({ frames := 7, cells := 4, slots := 24, locals := 3120 } : Room).cells ({ frames := 7, cells := 4, slots := 24, locals := 3120 } : Room).slots := by
  obtain ⟨T1, X1, e1, st1⟩ := castY X0 hx hZ hown (hw _ (List.mem_of_getElem? (i := 157) rfl)) e0 (Ins.self PE_val) (g := (mkF m 92 #[.val (.ref ob0), .val (.int q0), .val (.int q1), .unset, .val (.int lo), .val (.int hi)] [(.ref val)])) rfl rfl (hb hby d7_92)
  obtain ⟨cq2, kq2, q2a, q2b, q2c⟩ := isOf hZ e1 PE_val
  obtain ⟨_, _, ⟨T2, L2, k2, n2⟩, -, X2, ⟨Lc2, hQ2, l2, y2, z2⟩, st2⟩ := X1.virtualBack hx (y := (⟨"java/lang/Integer", "intValue", "()I"⟩ : MethodName)) (z := (⟨"java/lang/Integer", "intValue", "()I"⟩ : MethodName)) hown (mvT hZ (hw _ (List.mem_of_getElem? (i := 159) rfl))) (mvT hZ (hw _ (List.mem_of_getElem? (i := 160) rfl))) (notFace_of_selects (args := #[]) (mvT hZ (hw _ (List.mem_of_getElem? (i := 162) rfl)))) (mvT hZ (hw _ (List.mem_of_getElem? (i := 162) rfl))) (mvT hZ (hw _ (List.mem_of_getElem? (i := 161) rfl))) (by decide) (backOf (W := 0) (rm24_26 l Z a0 hw []  val iv h0 n0 (own_n0 O0) O0 PE_val PF_val_value) hZ (hw _ (List.mem_of_getElem? (i := 163) rfl)) (hw _ (List.mem_of_getElem? (i := 127) rfl)) (by decide) (by decide)) q2a q2c (g := (mkF m 95 #[.val (.ref ob0), .val (.int q0), .val (.int q1), .unset, .val (.int lo), .val (.int hi)] [(.ref val)])) rfl (by rw [hml]; rfl) (Steps.refl _) (argsL := []) (rest := []) (lenOf pd120 rfl) rfl (by show 2 * 0 + _ ≤ _; exact Nat.le_of_eq rfl) (hb hby d7_95) (fun _ _ => ⟨rfl, e1, (by decide : 4 + 0 ≤ _), (by decide : 24 + 0 ≤ _)⟩)
  dsimp only [Pt.U, Pt.locs, Pt.cells, Pt.slots] at X2 l2 y2 z2 st2 hQ2
  subst l2 y2 z2
  obtain ⟨rfl, N2q, e2⟩ := hQ2
  have N2 := Fr.app N0 N2q
  obtain ⟨fs, hr, hrun, hended, hW, hsame⟩ := X2.leave (v := some (.int iv)) (fun h => by rw [hret] at h; cases h) hlk
  refine ⟨_, _, pre0 _ ?_, hrun, hended, _, _, rfl, ?_, ⟨_, rfl⟩, hW, hsame.mono (by decide) (by decide)⟩
  · show Steps p.tables e below (T0.setTop (mkF m 92 #[.val (.ref ob0), .val (.int q0), .val (.int q1), .unset, .val (.int lo), .val (.int hi)] [(.ref val)])) _
    refine st1 _ ?_
    show Steps p.tables e below (T1.setTop (mkF m 95 #[.val (.ref ob0), .val (.int q0), .val (.int q1), .unset, .val (.int lo), .val (.int hi)] [(.ref val)])) _
    refine st2.trans ?_
    show Steps p.tables e below (T2.setTop (mkF m 98 #[.val (.ref ob0), .val (.int q0), .val (.int q1), .unset, .val (.int lo), .val (.int hi)] [(.int iv)])) _
    refine XS.istoreN X2.here hx rfl (hb hby d7_98) rfl (l' := #[.val (.ref ob0), .val (.int q0), .val (.int q1), .val (.int iv), .val (.int lo), .val (.int hi)]) rfl ?_
    show Steps p.tables e below (T2.setTop (mkF m 99 #[.val (.ref ob0), .val (.int q0), .val (.int q1), .val (.int iv), .val (.int lo), .val (.int hi)] [])) _
    refine XS.iloadN X2.here hx rfl (hb hby d7_99) rfl ?_
    show Steps p.tables e below (T2.setTop (mkF m 100 #[.val (.ref ob0), .val (.int q0), .val (.int q1), .val (.int iv), .val (.int lo), .val (.int hi)] [(.int iv)])) _
    exact Jvm.RoadKit.retI X2 hx hret (hb hby d7_100) hr
  · exact ⟨rfl, N2, e2⟩
set_option maxRecDepth 65536 in
set_option maxHeartbeats 40000000 in
theorem lA {p : Program} {l : Launch} {e : Env} {s : State} {m : MethodId} {args : Array Value} {below : List Frame} {meth : Method} {c : Code} {T0 : State} {locs : List Loc} {Z : State} {a0 : Array Value} {h0 : Heap} {n0 : Nat} (p1 : Int32) (p2 : Int32) (p3 : Int32)
    (X0 : Stand p l e room_1 s m args below meth c T0 locs 0 0) (hx : p.tables.exec = Jvm.exec) (hZ : Z.Warmed39 s.vm) (hw : ∀ d ∈ tables_1, d.before a0 Z = true) (hby : c.code = code) (hml : c.maxLocals = 12) (hown : s.vm.findClass "com/example/minos/minos/analysis/CircuitIsGatePinLaw" = some m.cls) (e0 : T0.heap = h0) (N0 : Fr n0 locs) (O0 : Old Z n0 h0) :
    ∃ (T' : State) (locs' : List Loc) (b1 : Addr), Stand p l e room_1 s m args below meth c T' locs' 1 4 ∧ Fr n0 locs' ∧ Keep h0 T'.heap [] ∧ Old Z n0 T'.heap ∧ h0.size ≤ b1 ∧ Exa Z T'.heap b1 "com/example/minos/minos/analysis/Circuit" ∧ Fld Z T'.heap b1 "com/example/minos/minos/analysis/Circuit" "first" "[I" .null ∧ Fld Z T'.heap b1 "com/example/minos/minos/analysis/Circuit" "second" "[I" .null ∧ Fld Z T'.heap b1 "com/example/minos/minos/analysis/Circuit" "nodes" "I" (.int (0 : Int32)) ∧ Fld Z T'.heap b1 "com/example/minos/minos/analysis/Circuit" "gates" "Ljava/util/Map;" .null ∧ True ∧ ∀ t, Steps p.tables e below (T'.setTop (mkF m 4 #[.val (.int p1), .val (.int p2), .val (.int p3), .unset, .unset, .unset, .unset, .unset, .unset, .unset, .unset, .unset] [(.ref b1), (.ref b1)])) t → Steps p.tables e below (T0.setTop (mkF m 0 #[.val (.int p1), .val (.int p2), .val (.int p3), .unset, .unset, .unset, .unset, .unset, .unset, .unset, .unset, .unset] [])) t := by
  obtain ⟨T1, h1, X1, e1, E1, A1, D1, -, st1⟩ := newO X0 hx hZ hown (hw _ (List.mem_of_getElem? (i := 0) rfl)) (hw _ (List.mem_of_getElem? (i := 1) rfl)) (hw _ (List.mem_of_getElem? (i := 2) rfl)) e0 (g := (mkF m 0 #[.val (.int p1), .val (.int p2), .val (.int p3), .unset, .unset, .unset, .unset, .unset, .unset, .unset, .unset, .unset] [])) rfl (hb hby at_0) (by decide) (by decide)
  obtain ⟨b1, gg1⟩ : ∃ z, z = h0.size := ⟨_, rfl⟩
  rw [← gg1] at A1 D1 st1
  have bo_b1 : h0.size ≤ b1 := Nat.le_of_eq gg1.symm
  have g_b1 : n0 ≤ b1 := Nat.le_trans (own_n0 O0) bo_b1
  have sz_b1 : h0.size ≤ b1 := Nat.le_trans (Keep.refl h0 []).1 bo_b1
  have KK1 : Keep h0 h1 [] := (Keep.refl h0 []).ext E1
  have O1 := O0.ext E1
  have lb_b1 : b1 < h1.size := A1.lt
  have F_first_b1 : Fld Z h1 b1 "com/example/minos/minos/analysis/Circuit" "first" "[I" .null := D1 (Or.inl (hw _ (List.mem_of_getElem? (i := 11) rfl))) (ty := (.array .int)) (by decide)
  have F_second_b1 : Fld Z h1 b1 "com/example/minos/minos/analysis/Circuit" "second" "[I" .null := D1 (Or.inl (hw _ (List.mem_of_getElem? (i := 13) rfl))) (ty := (.array .int)) (by decide)
  have F_nodes_b1 : Fld Z h1 b1 "com/example/minos/minos/analysis/Circuit" "nodes" "I" (.int (0 : Int32)) := D1 (Or.inl (hw _ (List.mem_of_getElem? (i := 15) rfl))) (ty := .int) (by decide)
  have F_gates_b1 : Fld Z h1 b1 "com/example/minos/minos/analysis/Circuit" "gates" "Ljava/util/Map;" .null := D1 (Or.inr (hw _ (List.mem_of_getElem? (i := 33) rfl))) (ty := (.object "java/util/Map")) (by decide)
  refine ⟨T1, _, b1, X1, N0, (by rw [e1]; exact KK1), (by rw [e1]; exact O1), sz_b1, (by rw [e1]; exact A1), (by rw [e1]; exact F_first_b1), (by rw [e1]; exact F_second_b1), (by rw [e1]; exact F_nodes_b1), (by rw [e1]; exact F_gates_b1), trivial, fun t kt => ?_⟩
  show Steps p.tables e below (T0.setTop (mkF m 0 #[.val (.int p1), .val (.int p2), .val (.int p3), .unset, .unset, .unset, .unset, .unset, .unset, .unset, .unset, .unset] [])) _
  refine st1 _ ?_
  show Steps p.tables e below (T1.setTop (mkF m 3 #[.val (.int p1), .val (.int p2), .val (.int p3), .unset, .unset, .unset, .unset, .unset, .unset, .unset, .unset, .unset] [(.ref b1)])) _
  refine XS.dup X1.here hx rfl (hb hby at_3) rfl rfl ?_
  show Steps p.tables e below (T1.setTop (mkF m 4 #[.val (.int p1), .val (.int p2), .val (.int p3), .unset, .unset, .unset, .unset, .unset, .unset, .unset, .unset, .unset] [(.ref b1), (.ref b1)])) _
  exact kt
set_option maxRecDepth 65536 in
set_option maxHeartbeats 4000000 in
theorem cI {p : Program} {l : Launch} {e : Env} {s : State} {m : MethodId} {args : Array Value} {below : List Frame} {meth : Method} {c : Code} {T0 : State} {locs : List Loc} {cells slots : Nat} {Z : State} {a0 : Array Value} {h0 : Heap} {Ls : Array Slot} (ob : Addr) (y : Addr)
    (X0 : Stand p l e room_1 s m args below meth c T0 locs cells slots) (hx : p.tables.exec = Jvm.exec) (hZ : Z.Warmed39 s.vm) (hw : ∀ d ∈ tables_1, d.before a0 Z = true) (hby : c.code = code) (hml : c.maxLocals = 12) (hown : s.vm.findClass "com/example/minos/minos/analysis/CircuitIsGatePinLaw" = some m.cls) (e0 : T0.heap = h0) (hsz : Ls.size = 12) {rm : Room} {Q : Option Value → Heap → List Loc → Prop}
    (M : MetFree l (⟨"com/example/minos/minos/analysis/Circuit", "<init>", "()V"⟩ : MethodName) (head1 [Jvm.Cond.code (⟨"com/example/minos/minos/analysis/Circuit", "<init>", "()V"⟩ : MethodName) prog_12_method_1_code 1 none] rm) (fun a U => a = #[(.ref ob)] ∧ Z.Warmed39 U.vm ∧ U.heap = h0) (fun _ _ _ _ _ => True) (fun _ U o U' => ∃ v L, o = .returned v ∧ Q v U'.heap L ∧ FrameEnd U o U' L rm.cells rm.slots)) (hfr : rm.frames + 1 ≤ room_1.frames) (hlo : 1 + (1 + 11) + rm.locals ≤ room_1.locals) (hce : cells + rm.cells ≤ room_1.cells) (hsl : slots + rm.slots ≤ room_1.slots) :
    ∃ (T' : State) (v : Option Value) (L : List Loc), Stand p l e room_1 s m args below meth c T' (locs ++ L) (cells + rm.cells) (slots + rm.slots) ∧ Q v T'.heap L ∧ ∀ t, Steps p.tables e below (T'.setTop (mkF m 7 Ls (v.toList ++ [(.ref y)]))) t → Steps p.tables e below (T0.setTop (mkF m 4 Ls [(.ref ob), (.ref y)])) t := by
  obtain ⟨v, _, ⟨T1, L1, k1, n1⟩, -, X1, ⟨Lc, hQ, l1, y1, z1⟩, st⟩ := X0.specialBack hx (y := (⟨"com/example/minos/minos/analysis/Circuit", "<init>", "()V"⟩ : MethodName)) rfl hown (mvT hZ (hw _ (List.mem_of_getElem? (i := 3) rfl))) (mvT hZ (hw _ (List.mem_of_getElem? (i := 4) rfl))) (mvT hZ (hw _ (List.mem_of_getElem? (i := 5) rfl))) (by decide) (backOf (W := 1) M hZ (hw _ (List.mem_of_getElem? (i := 5) rfl)) (hw _ (List.mem_of_getElem? (i := 2) rfl)) hfr hlo) (g := (mkF m 4 Ls [(.ref ob), (.ref y)])) rfl (by rw [hml]; exact hsz) (Steps.refl _) (a := ob) (argsL := []) (rest := [(.ref y)]) (lenOf pd23 rfl) rfl (by show 2 * 0 + _ ≤ _; exact Nat.le_of_eq rfl) (hb hby at_4) (fun _ _ => ⟨rfl, e0, hce, hsl⟩)
  dsimp only [Pt.U, Pt.locs, Pt.cells, Pt.slots] at X1 l1 y1 z1 st hQ
  subst l1 y1 z1
  exact ⟨T1, v, Lc, X1, hQ, fun t kt => st.trans kt⟩
theorem d5_0 : decode prog_12_method_4_code 0 = .ok (.iconst 2, 1) := by decide +kernel
theorem d5_1 : decode prog_12_method_4_code 1 = .ok (.aload_n 0, 1) := by decide +kernel
theorem d5_2 : decode prog_12_method_4_code 2 = .ok (.iconst (-1), 1) := by decide +kernel
theorem d5_3 : decode prog_12_method_4_code 3 = .ok (.iconst (-1), 1) := by decide +kernel
def Q6_29 (Z : State) (ob0 : Addr) (ob1 : Addr) (ob2 : Addr) (ob3 : Addr) (k_ob1 : ClassId) (k_ob2 : ClassId) (h0 : Heap) (n0 : Nat) (v : Option Value) (h : Heap) (L : List Loc) : Prop := v = some (.int (1 : Int32)) ∧ Fr n0 L ∧ Keep h0 h [ob1, ob2, ob0] ∧ Old Z n0 h ∧ Arv Z h ob1 k_ob1 .int (1024 : Int32) [(.int (0 : Int32)), (.int (-1 : Int32)), (.int (0 : Int32)), (.int (0 : Int32)), (.int (0 : Int32)), (.int (0 : Int32))] (.int (0 : Int32)) ∧ Arv Z h ob2 k_ob2 .int (1024 : Int32) [(.int (0 : Int32)), (.int (-1 : Int32)), (.int (0 : Int32)), (.int (0 : Int32)), (.int (0 : Int32)), (.int (0 : Int32))] (.int (0 : Int32)) ∧ Exa Z h ob0 "com/example/minos/minos/analysis/Circuit" ∧ Fld Z h ob0 "com/example/minos/minos/analysis/Circuit" "first" "[I" (.ref ob1) ∧ Fld Z h ob0 "com/example/minos/minos/analysis/Circuit" "second" "[I" (.ref ob2) ∧ Fld Z h ob0 "com/example/minos/minos/analysis/Circuit" "nodes" "I" (.int (2 : Int32)) ∧ Fld Z h ob0 "com/example/minos/minos/analysis/Circuit" "gates" "Ljava/util/Map;" (.ref ob3) ∧ True
set_option maxRecDepth 65536 in
set_option maxHeartbeats 40000000 in
theorem rm6_29 (l : Launch) (Z : State) (a0 : Array Value) (hw : ∀ d ∈ tables_1, d.before a0 Z = true) (ws : List Jvm.Cond) (ob0 : Addr) (ob1 : Addr) (ob2 : Addr) (ob3 : Addr) (k_ob1 : ClassId) (k_ob2 : ClassId) (h0 : Heap) (n0 : Nat) (Z0 : n0 ≤ h0.size) (O0 : Old Z n0 h0) (PE_ob0 : Exa Z h0 ob0 "com/example/minos/minos/analysis/Circuit") (PF_ob0_first : Fld Z h0 ob0 "com/example/minos/minos/analysis/Circuit" "first" "[I" (.ref ob1)) (PF_ob0_second : Fld Z h0 ob0 "com/example/minos/minos/analysis/Circuit" "second" "[I" (.ref ob2)) (PF_ob0_nodes : Fld Z h0 ob0 "com/example/minos/minos/analysis/Circuit" "nodes" "I" (.int (1 : Int32))) (PF_ob0_gates : Fld Z h0 ob0 "com/example/minos/minos/analysis/Circuit" "gates" "Ljava/util/Map;" (.ref ob3)) (PV_ob1 : Arv Z h0 ob1 k_ob1 .int (1024 : Int32) [(.int (0 : Int32)), (.int (0 : Int32)), (.int (0 : Int32)), (.int (0 : Int32)), (.int (0 : Int32)), (.int (0 : Int32))] (.int (0 : Int32))) (PV_ob2 : Arv Z h0 ob2 k_ob2 .int (1024 : Int32) [(.int (0 : Int32)), (.int (0 : Int32)), (.int (0 : Int32)), (.int (0 : Int32)), (.int (0 : Int32)), (.int (0 : Int32))] (.int (0 : Int32))) (ne_ob0_ob1 : ob0 ≠ ob1) (ne_ob1_ob2 : ob1 ≠ ob2) (ne_ob0_ob2 : ob0 ≠ ob2) (g_ob1 : n0 ≤ ob1) (g_ob2 : n0 ≤ ob2) (g_ob0 : n0 ≤ ob0) :
    MetFree l (⟨"com/example/minos/minos/analysis/Circuit", "add", "(II)I"⟩ : MethodName) (head1 (Jvm.Cond.code (⟨"com/example/minos/minos/analysis/Circuit", "add", "(II)I"⟩ : MethodName) prog_12_method_14_code 3 (some .int) :: ws) ({ frames := 0, cells := 0, slots := 0, locals := 0 } : Room)) (fun a U => a = #[(.ref ob0), (.int (-1 : Int32)), (.int (-1 : Int32))] ∧ Z.Warmed39 U.vm ∧ U.heap = h0) (fun _ _ _ _ _ => True) (fun _ U o U' => ∃ v L, o = .returned v ∧ Q6_29 Z  ob0 ob1 ob2 ob3 k_ob1 k_ob2 h0 n0 v U'.heap L ∧ FrameEnd U o U' L ({ frames := 0, cells := 0, slots := 0, locals := 0 } : Room).cells ({ frames := 0, cells := 0, slots := 0, locals := 0 } : Room).slots) := by
  refine MetFree.of_bodySF (plainFor_of_name pn37) hisR ?_
  intro p e s m args below meth c s₁ Bd hml0 hP hK
  obtain ⟨rfl, hZ, hh⟩ := hP
  have hx := Bd.exec
  have hby := Bd.bytes
  have hml : c.maxLocals = 3 := hml0
  have hown : s.vm.findClass "com/example/minos/minos/analysis/Circuit" = some m.cls := findClass_of_methodNamed Bd.named
  have hnm := (name_of_methodNamed Bd.named Bd.method).1
  have X0 : Stand p l e ({ frames := 0, cells := 0, slots := 0, locals := 0 } : Room) s m #[(.ref ob0), (.int (-1 : Int32)), (.int (-1 : Int32))] below meth c s₁ [] 0 0 := Stand.of_body Bd
  have e0 : s₁.heap = h0 := by rw [← hh, Bd.state]; rfl
  have N0 := Fr.nil n0
  have pre0 : ∀ t, Steps p.tables e below (s₁.setTop (mkF m 0 #[.val (.ref ob0), .val (.int (-1 : Int32)), .val (.int (-1 : Int32))] [])) t → Steps p.tables e below (s₁.setTop (entryFrame m #[(.ref ob0), (.int (-1 : Int32)), (.int (-1 : Int32))] 3)) t := fun t k => castTop (ef69 m ob0 (-1 : Int32) (-1 : Int32)) k
  obtain ⟨T1, X1, e1, st1⟩ := getF X0 hx hZ hown (host := "") (Or.inl (hw _ (List.mem_of_getElem? (i := 14) rfl))) Via.refl e0 PF_ob0_nodes (g := (mkF m 1 #[.val (.ref ob0), .val (.int (-1 : Int32)), .val (.int (-1 : Int32))] [(.ref ob0)])) rfl rfl (hb hby d6_1)
  obtain ⟨T2, X2, e2, st2⟩ := getF X1 hx hZ hown (host := "") (Or.inl (hw _ (List.mem_of_getElem? (i := 10) rfl))) Via.refl e1 PF_ob0_first (g := (mkF m 5 #[.val (.ref ob0), .val (.int (-1 : Int32)), .val (.int (-1 : Int32))] [(.ref ob0), (.int (1 : Int32))])) rfl rfl (hb hby d6_5)
  obtain ⟨ac3, aA3, aq3, aS3, aN3, aH3, aG3⟩ := id PV_ob1
  obtain ⟨T4, X4, e4, st4⟩ := getF X2 hx hZ hown (host := "") (Or.inl (hw _ (List.mem_of_getElem? (i := 10) rfl))) Via.refl e2 PF_ob0_first (g := (mkF m 47 #[.val (.ref ob0), .val (.int (-1 : Int32)), .val (.int (-1 : Int32))] [(.ref ob0)])) rfl rfl (hb hby d6_47)
  obtain ⟨T5, X5, e5, st5⟩ := getF X4 hx hZ hown (host := "") (Or.inl (hw _ (List.mem_of_getElem? (i := 14) rfl))) Via.refl e4 PF_ob0_nodes (g := (mkF m 51 #[.val (.ref ob0), .val (.int (-1 : Int32)), .val (.int (-1 : Int32))] [(.ref ob0), (.ref ob1)])) rfl rfl (hb hby d6_51)
  obtain ⟨ac6, aA6, aq6, aS6, aN6, aH6, aG6⟩ := id PV_ob1
  obtain ⟨T7, h7, X7, e7, W7, st7⟩ := stI X5 hx hZ e5 aA6 (j := (1 : Int32)) (inb_of aS6 ⟨by decide, by decide⟩) (g := (mkF m 55 #[.val (.ref ob0), .val (.int (-1 : Int32)), .val (.int (-1 : Int32))] [(.int (-1 : Int32)), (.int (1 : Int32)), (.ref ob1)])) rfl rfl (hb hby d6_55)
  have V_ob1_7 : Arv Z h7 ob1 k_ob1 .int (1024 : Int32) [(.int (0 : Int32)), (.int (-1 : Int32)), (.int (0 : Int32)), (.int (0 : Int32)), (.int (0 : Int32)), (.int (0 : Int32))] (.int (0 : Int32)) := Arv.set aA6 aq6 aS6 aN6 aH6 aG6 rfl W7 1 rfl (Nat.le_of_ble_eq_true rfl)
  have N7 := Fr.snoc X7 N0 g_ob1
  have O7 := O0.wr W7 g_ob1
  have KK7 : Keep h0 h7 [ob1, ob2, ob0] := (Keep.refl h0 [ob1, ob2, ob0]).wr W7 (Or.inl (List.mem_of_getElem? (i := 0) rfl))
  obtain ⟨T8, X8, e8, st8⟩ := getF X7 hx hZ hown (host := "") (Or.inl (hw _ (List.mem_of_getElem? (i := 12) rfl))) Via.refl e7 (PF_ob0_second.other W7 (Or.inl ne_ob0_ob1)) (g := (mkF m 57 #[.val (.ref ob0), .val (.int (-1 : Int32)), .val (.int (-1 : Int32))] [(.ref ob0)])) rfl rfl (hb hby d6_57)
  obtain ⟨T9, X9, e9, st9⟩ := getF X8 hx hZ hown (host := "") (Or.inl (hw _ (List.mem_of_getElem? (i := 14) rfl))) Via.refl e8 (PF_ob0_nodes.other W7 (Or.inl ne_ob0_ob1)) (g := (mkF m 61 #[.val (.ref ob0), .val (.int (-1 : Int32)), .val (.int (-1 : Int32))] [(.ref ob0), (.ref ob2)])) rfl rfl (hb hby d6_61)
  obtain ⟨ac10, aA10, aq10, aS10, aN10, aH10, aG10⟩ := id (PV_ob2.other W7 (Ne.symm ne_ob1_ob2))
  obtain ⟨T11, h11, X11, e11, W11, st11⟩ := stI X9 hx hZ e9 aA10 (j := (1 : Int32)) (inb_of aS10 ⟨by decide, by decide⟩) (g := (mkF m 65 #[.val (.ref ob0), .val (.int (-1 : Int32)), .val (.int (-1 : Int32))] [(.int (-1 : Int32)), (.int (1 : Int32)), (.ref ob2)])) rfl rfl (hb hby d6_65)
  have V_ob2_11 : Arv Z h11 ob2 k_ob2 .int (1024 : Int32) [(.int (0 : Int32)), (.int (-1 : Int32)), (.int (0 : Int32)), (.int (0 : Int32)), (.int (0 : Int32)), (.int (0 : Int32))] (.int (0 : Int32)) := Arv.set aA10 aq10 aS10 aN10 aH10 aG10 rfl W11 1 rfl (Nat.le_of_ble_eq_true rfl)
  have N11 := Fr.snoc X11 N7 g_ob2
  have O11 := O7.wr W11 g_ob2
  have KK11 : Keep h0 h11 [ob1, ob2, ob0] := KK7.wr W11 (Or.inl (List.mem_of_getElem? (i := 1) rfl))
  obtain ⟨T12, X12, e12, st12⟩ := getF X11 hx hZ hown (host := "") (Or.inl (hw _ (List.mem_of_getElem? (i := 14) rfl))) Via.refl e11 ((PF_ob0_nodes.other W7 (Or.inl ne_ob0_ob1)).other W11 (Or.inl ne_ob0_ob2)) (g := (mkF m 68 #[.val (.ref ob0), .val (.int (-1 : Int32)), .val (.int (-1 : Int32))] [(.ref ob0), (.ref ob0)])) rfl rfl (hb hby d6_68)
  obtain ⟨T13, h13, X13, e13, W13, st13⟩ := putF X12 hx hZ hown (host := "") (Or.inl (hw _ (List.mem_of_getElem? (i := 14) rfl))) Via.refl e12 ((PF_ob0_nodes.other W7 (Or.inl ne_ob0_ob1)).other W11 (Or.inl ne_ob0_ob2)) ((PE_ob0.wr W7).wr W11) (Or.inl (hw _ (List.mem_of_getElem? (i := 15) rfl))) (hw _ (List.mem_of_getElem? (i := 1) rfl)) (ty := .int) (by decide) rfl rfl (g := (mkF m 74 #[.val (.ref ob0), .val (.int (-1 : Int32)), .val (.int (-1 : Int32))] [(.int (2 : Int32)), (.ref ob0), (.int (1 : Int32))])) rfl rfl (hb hby d6_74)
  have Fw13 := ((PF_ob0_nodes.other W7 (Or.inl ne_ob0_ob1)).other W11 (Or.inl ne_ob0_ob2)).same W13
  have N13 := Fr.snoc X13 N11 g_ob0
  have O13 := O11.wr W13 g_ob0
  have KK13 : Keep h0 h13 [ob1, ob2, ob0] := KK11.wr W13 (Or.inl (List.mem_of_getElem? (i := 2) rfl))
  have J14 := (((PE_ob0.wr W7).wr W11).wr W13)
  have J15 := (((PF_ob0_first.other W7 (Or.inl ne_ob0_ob1)).other W11 (Or.inl ne_ob0_ob2)).other W13 (Or.inr (slot_ne (Or.inl (hw _ (List.mem_of_getElem? (i := 11) rfl))) (Or.inl (hw _ (List.mem_of_getElem? (i := 15) rfl))) (by decide) (t := (.array .int)) (t' := .int) (by decide) (by decide))))
  have J16 := (((PF_ob0_second.other W7 (Or.inl ne_ob0_ob1)).other W11 (Or.inl ne_ob0_ob2)).other W13 (Or.inr (slot_ne (Or.inl (hw _ (List.mem_of_getElem? (i := 13) rfl))) (Or.inl (hw _ (List.mem_of_getElem? (i := 15) rfl))) (by decide) (t := (.array .int)) (t' := .int) (by decide) (by decide))))
  have J17 := (((PF_ob0_gates.other W7 (Or.inl ne_ob0_ob1)).other W11 (Or.inl ne_ob0_ob2)).other W13 (Or.inr (slot_ne (Or.inr (hw _ (List.mem_of_getElem? (i := 33) rfl))) (Or.inl (hw _ (List.mem_of_getElem? (i := 15) rfl))) (by decide) (t := (.object "java/util/Map")) (t' := .int) (by decide) (by decide))))
  obtain ⟨fs, hr, hrun, hended, hW, hsame⟩ := X13.leave (v := some (.int (1 : Int32))) (fun h => by rw [Bd.returns] at h; cases h)
  refine ⟨_, _, pre0 _ ?_, hrun, hended, _, _, rfl, ?_, ⟨_, rfl⟩, hW, hsame.mono (by decide) (by decide)⟩
  · show Steps p.tables e below (s₁.setTop (mkF m 0 #[.val (.ref ob0), .val (.int (-1 : Int32)), .val (.int (-1 : Int32))] [])) _
    refine XS.aloadN X0.here hx rfl (hb hby d6_0) rfl rfl ?_
    show Steps p.tables e below (s₁.setTop (mkF m 1 #[.val (.ref ob0), .val (.int (-1 : Int32)), .val (.int (-1 : Int32))] [(.ref ob0)])) _
    refine st1 _ ?_
    show Steps p.tables e below (T1.setTop (mkF m 4 #[.val (.ref ob0), .val (.int (-1 : Int32)), .val (.int (-1 : Int32))] [(.int (1 : Int32))])) _
    refine XS.aloadN X1.here hx rfl (hb hby d6_4) rfl rfl ?_
    show Steps p.tables e below (T1.setTop (mkF m 5 #[.val (.ref ob0), .val (.int (-1 : Int32)), .val (.int (-1 : Int32))] [(.ref ob0), (.int (1 : Int32))])) _
    refine st2 _ ?_
    show Steps p.tables e below (T2.setTop (mkF m 8 #[.val (.ref ob0), .val (.int (-1 : Int32)), .val (.int (-1 : Int32))] [(.ref ob1), (.int (1 : Int32))])) _
    refine X2.arraylength hx (by rw [e2]; exact aA3.1) (State.isArrayOf_alike hZ.alike aA3.2.1) (g := (mkF m 8 #[.val (.ref ob0), .val (.int (-1 : Int32)), .val (.int (-1 : Int32))] [(.ref ob1), (.int (1 : Int32))])) rfl rfl (hb hby d6_8) _ ?_
    rw [len_of aS3 aN3]
    show Steps p.tables e below (T2.setTop (mkF m 9 #[.val (.ref ob0), .val (.int (-1 : Int32)), .val (.int (-1 : Int32))] [(.int (1024 : Int32)), (.int (1 : Int32))])) _
    refine XS.icmpYes X2.here hx rfl (pc0 := 9) (pc' := 46) rfl (hb hby d6_9) rfl (feq (by decide : ¬ ((1 : Int32) = (1024 : Int32)))).2 (by decide) (by decide) ?_
    show Steps p.tables e below (T2.setTop (mkF m 46 #[.val (.ref ob0), .val (.int (-1 : Int32)), .val (.int (-1 : Int32))] [])) _
    refine XS.aloadN X2.here hx rfl (hb hby d6_46) rfl rfl ?_
    show Steps p.tables e below (T2.setTop (mkF m 47 #[.val (.ref ob0), .val (.int (-1 : Int32)), .val (.int (-1 : Int32))] [(.ref ob0)])) _
    refine st4 _ ?_
    show Steps p.tables e below (T4.setTop (mkF m 50 #[.val (.ref ob0), .val (.int (-1 : Int32)), .val (.int (-1 : Int32))] [(.ref ob1)])) _
    refine XS.aloadN X4.here hx rfl (hb hby d6_50) rfl rfl ?_
    show Steps p.tables e below (T4.setTop (mkF m 51 #[.val (.ref ob0), .val (.int (-1 : Int32)), .val (.int (-1 : Int32))] [(.ref ob0), (.ref ob1)])) _
    refine st5 _ ?_
    show Steps p.tables e below (T5.setTop (mkF m 54 #[.val (.ref ob0), .val (.int (-1 : Int32)), .val (.int (-1 : Int32))] [(.int (1 : Int32)), (.ref ob1)])) _
    refine XS.iloadN X5.here hx rfl (hb hby d6_54) rfl ?_
    show Steps p.tables e below (T5.setTop (mkF m 55 #[.val (.ref ob0), .val (.int (-1 : Int32)), .val (.int (-1 : Int32))] [(.int (-1 : Int32)), (.int (1 : Int32)), (.ref ob1)])) _
    refine st7 _ ?_
    show Steps p.tables e below (T7.setTop (mkF m 56 #[.val (.ref ob0), .val (.int (-1 : Int32)), .val (.int (-1 : Int32))] [])) _
    refine XS.aloadN X7.here hx rfl (hb hby d6_56) rfl rfl ?_
    show Steps p.tables e below (T7.setTop (mkF m 57 #[.val (.ref ob0), .val (.int (-1 : Int32)), .val (.int (-1 : Int32))] [(.ref ob0)])) _
    refine st8 _ ?_
    show Steps p.tables e below (T8.setTop (mkF m 60 #[.val (.ref ob0), .val (.int (-1 : Int32)), .val (.int (-1 : Int32))] [(.ref ob2)])) _
    refine XS.aloadN X8.here hx rfl (hb hby d6_60) rfl rfl ?_
    show Steps p.tables e below (T8.setTop (mkF m 61 #[.val (.ref ob0), .val (.int (-1 : Int32)), .val (.int (-1 : Int32))] [(.ref ob0), (.ref ob2)])) _
    refine st9 _ ?_
    show Steps p.tables e below (T9.setTop (mkF m 64 #[.val (.ref ob0), .val (.int (-1 : Int32)), .val (.int (-1 : Int32))] [(.int (1 : Int32)), (.ref ob2)])) _
    refine XS.iloadN X9.here hx rfl (hb hby d6_64) rfl ?_
    show Steps p.tables e below (T9.setTop (mkF m 65 #[.val (.ref ob0), .val (.int (-1 : Int32)), .val (.int (-1 : Int32))] [(.int (-1 : Int32)), (.int (1 : Int32)), (.ref ob2)])) _
    refine st11 _ ?_
    show Steps p.tables e below (T11.setTop (mkF m 66 #[.val (.ref ob0), .val (.int (-1 : Int32)), .val (.int (-1 : Int32))] [])) _
    refine XS.aloadN X11.here hx rfl (hb hby d6_66) rfl rfl ?_
    show Steps p.tables e below (T11.setTop (mkF m 67 #[.val (.ref ob0), .val (.int (-1 : Int32)), .val (.int (-1 : Int32))] [(.ref ob0)])) _
    refine XS.dup X11.here hx rfl (hb hby d6_67) rfl rfl ?_
    show Steps p.tables e below (T11.setTop (mkF m 68 #[.val (.ref ob0), .val (.int (-1 : Int32)), .val (.int (-1 : Int32))] [(.ref ob0), (.ref ob0)])) _
    refine st12 _ ?_
    show Steps p.tables e below (T12.setTop (mkF m 71 #[.val (.ref ob0), .val (.int (-1 : Int32)), .val (.int (-1 : Int32))] [(.int (1 : Int32)), (.ref ob0)])) _
    refine XS.dupX1 X12.here hx rfl (hb hby d6_71) rfl rfl rfl ?_
    show Steps p.tables e below (T12.setTop (mkF m 72 #[.val (.ref ob0), .val (.int (-1 : Int32)), .val (.int (-1 : Int32))] [(.int (1 : Int32)), (.ref ob0), (.int (1 : Int32))])) _
    refine XS.iconst X12.here hx rfl (hb hby d6_72) ?_
    show Steps p.tables e below (T12.setTop (mkF m 73 #[.val (.ref ob0), .val (.int (-1 : Int32)), .val (.int (-1 : Int32))] [(.int (1 : Int32)), (.int (1 : Int32)), (.ref ob0), (.int (1 : Int32))])) _
    refine XS.iadd X12.here hx rfl (hb hby d6_73) rfl ?_
    rw [show ((1 : Int32) + (1 : Int32)) = (2 : Int32) from by decide]
    show Steps p.tables e below (T12.setTop (mkF m 74 #[.val (.ref ob0), .val (.int (-1 : Int32)), .val (.int (-1 : Int32))] [(.int (2 : Int32)), (.ref ob0), (.int (1 : Int32))])) _
    refine st13 _ ?_
    show Steps p.tables e below (T13.setTop (mkF m 77 #[.val (.ref ob0), .val (.int (-1 : Int32)), .val (.int (-1 : Int32))] [(.int (1 : Int32))])) _
    exact Jvm.RoadKit.retI X13 hx Bd.returns (hb hby d6_77) hr
  · have eH : (T13.setFrames fs).heap = h13 := e13; rw [eH]; exact ⟨rfl, N13, KK13, O13, ((V_ob1_7.other W11 ne_ob1_ob2).other W13 (Ne.symm ne_ob0_ob1)), (V_ob2_11.other W13 (Ne.symm ne_ob0_ob2)), J14, J15, J16, Fw13, J17, trivial⟩
theorem d5_4 : decode prog_12_method_4_code 4 = .ok (.invokevirtual 27, 3) := by decide +kernel
theorem d5_7 : decode prog_12_method_4_code 7 = .ok (.imul, 1) := by decide +kernel
theorem d5_8 : decode prog_12_method_4_code 8 = .ok (.ireturn, 1) := by decide +kernel
theorem ef404 (m : MethodId) (x0 : Addr) : entryFrame m #[(.ref x0)] 1 = mkF m 0 #[.val (.ref x0)] [] := by first | (simp [entryFrame, mkF, argsToLocals, Value.category]; done) | rfl
def Q5_30 (Z : State) (ob0 : Addr) (ob1 : Addr) (ob2 : Addr) (ob3 : Addr) (k_ob1 : ClassId) (k_ob2 : ClassId) (h0 : Heap) (n0 : Nat) (v : Option Value) (h : Heap) (L : List Loc) : Prop := v = some (.int (2 : Int32)) ∧ Fr n0 L ∧ Keep h0 h [ob1, ob2, ob0] ∧ Old Z n0 h ∧ Arv Z h ob1 k_ob1 .int (1024 : Int32) [(.int (0 : Int32)), (.int (-1 : Int32)), (.int (0 : Int32)), (.int (0 : Int32)), (.int (0 : Int32)), (.int (0 : Int32))] (.int (0 : Int32)) ∧ Arv Z h ob2 k_ob2 .int (1024 : Int32) [(.int (0 : Int32)), (.int (-1 : Int32)), (.int (0 : Int32)), (.int (0 : Int32)), (.int (0 : Int32)), (.int (0 : Int32))] (.int (0 : Int32)) ∧ Exa Z h ob0 "com/example/minos/minos/analysis/Circuit" ∧ Fld Z h ob0 "com/example/minos/minos/analysis/Circuit" "first" "[I" (.ref ob1) ∧ Fld Z h ob0 "com/example/minos/minos/analysis/Circuit" "second" "[I" (.ref ob2) ∧ Fld Z h ob0 "com/example/minos/minos/analysis/Circuit" "nodes" "I" (.int (2 : Int32)) ∧ Fld Z h ob0 "com/example/minos/minos/analysis/Circuit" "gates" "Ljava/util/Map;" (.ref ob3) ∧ True
set_option maxRecDepth 65536 in
set_option maxHeartbeats 40000000 in
theorem rm5_30 (l : Launch) (Z : State) (a0 : Array Value) (hw : ∀ d ∈ tables_1, d.before a0 Z = true) (ws : List Jvm.Cond) (ob0 : Addr) (ob1 : Addr) (ob2 : Addr) (ob3 : Addr) (k_ob1 : ClassId) (k_ob2 : ClassId) (h0 : Heap) (n0 : Nat) (Z0 : n0 ≤ h0.size) (O0 : Old Z n0 h0) (PE_ob0 : Exa Z h0 ob0 "com/example/minos/minos/analysis/Circuit") (PF_ob0_first : Fld Z h0 ob0 "com/example/minos/minos/analysis/Circuit" "first" "[I" (.ref ob1)) (PF_ob0_second : Fld Z h0 ob0 "com/example/minos/minos/analysis/Circuit" "second" "[I" (.ref ob2)) (PF_ob0_nodes : Fld Z h0 ob0 "com/example/minos/minos/analysis/Circuit" "nodes" "I" (.int (1 : Int32))) (PF_ob0_gates : Fld Z h0 ob0 "com/example/minos/minos/analysis/Circuit" "gates" "Ljava/util/Map;" (.ref ob3)) (PV_ob1 : Arv Z h0 ob1 k_ob1 .int (1024 : Int32) [(.int (0 : Int32)), (.int (0 : Int32)), (.int (0 : Int32)), (.int (0 : Int32)), (.int (0 : Int32)), (.int (0 : Int32))] (.int (0 : Int32))) (PV_ob2 : Arv Z h0 ob2 k_ob2 .int (1024 : Int32) [(.int (0 : Int32)), (.int (0 : Int32)), (.int (0 : Int32)), (.int (0 : Int32)), (.int (0 : Int32)), (.int (0 : Int32))] (.int (0 : Int32))) (ne_ob0_ob1 : ob0 ≠ ob1) (ne_ob1_ob2 : ob1 ≠ ob2) (ne_ob0_ob2 : ob0 ≠ ob2) (g_ob1 : n0 ≤ ob1) (g_ob2 : n0 ≤ ob2) (g_ob0 : n0 ≤ ob0) :
    MetFree l (⟨"com/example/minos/minos/analysis/Circuit", "input", "()I"⟩ : MethodName) (head1 (Jvm.Cond.code (⟨"com/example/minos/minos/analysis/Circuit", "input", "()I"⟩ : MethodName) prog_12_method_4_code 1 (some .int) :: ws) ({ frames := 1, cells := 0, slots := 0, locals := 15 } : Room)) (fun a U => a = #[(.ref ob0)] ∧ Z.Warmed39 U.vm ∧ U.heap = h0) (fun _ _ _ _ _ => True) (fun _ U o U' => ∃ v L, o = .returned v ∧ Q5_30 Z  ob0 ob1 ob2 ob3 k_ob1 k_ob2 h0 n0 v U'.heap L ∧ FrameEnd U o U' L ({ frames := 1, cells := 0, slots := 0, locals := 15 } : Room).cells ({ frames := 1, cells := 0, slots := 0, locals := 15 } : Room).slots) := by
  refine MetFree.of_bodySF (plainFor_of_name pn37) hisR ?_
  intro p e s m args below meth c s₁ Bd hml0 hP hK
  obtain ⟨rfl, hZ, hh⟩ := hP
  have hx := Bd.exec
  have hby := Bd.bytes
  have hml : c.maxLocals = 1 := hml0
  have hown : s.vm.findClass "com/example/minos/minos/analysis/Circuit" = some m.cls := findClass_of_methodNamed Bd.named
  have hnm := (name_of_methodNamed Bd.named Bd.method).1
  have X0 : Stand p l e ({ frames := 1, cells := 0, slots := 0, locals := 15 } : Room) s m #[(.ref ob0)] below meth c s₁ [] 0 0 := Stand.of_body Bd
  have e0 : s₁.heap = h0 := by rw [← hh, Bd.state]; rfl
  have N0 := Fr.nil n0
  have pre0 : ∀ t, Steps p.tables e below (s₁.setTop (mkF m 0 #[.val (.ref ob0)] [])) t → Steps p.tables e below (s₁.setTop (entryFrame m #[(.ref ob0)] 1)) t := fun t k => castTop (ef404 m ob0) k
  obtain ⟨cq1, q1a, q1b⟩ := Exa.cell PE_ob0
  obtain ⟨_, _, ⟨T1, L1, k1, n1⟩, -, X1, ⟨Lc1, hQ1, l1, y1, z1⟩, st1⟩ := X0.privateBack hx (y := (⟨"com/example/minos/minos/analysis/Circuit", "add", "(II)I"⟩ : MethodName)) hown (mvT hZ (hw _ (List.mem_of_getElem? (i := 39) rfl))) (mvT hZ (hw _ (List.mem_of_getElem? (i := 40) rfl))) (own_sel (mvT hZ (hw _ (List.mem_of_getElem? (i := 40) rfl))) (mvP hZ (hw _ (List.mem_of_getElem? (i := 41) rfl))) (mvT hZ (hw _ (List.mem_of_getElem? (i := 1) rfl))) (by decide)) (Cond.privateMethod_at (mvP hZ (hw _ (List.mem_of_getElem? (i := 41) rfl)) (args := #[]))) (mvT hZ (hw _ (List.mem_of_getElem? (i := 42) rfl))) (by decide) (backOf (W := 1) (rm6_29 l Z a0 hw []  ob0 ob1 ob2 ob3 k_ob1 k_ob2 h0 n0 (own_n0 O0) O0 PE_ob0 PF_ob0_first PF_ob0_second PF_ob0_nodes PF_ob0_gates PV_ob1 PV_ob2 ne_ob0_ob1 ne_ob1_ob2 ne_ob0_ob2 g_ob1 g_ob2 g_ob0) hZ (hw _ (List.mem_of_getElem? (i := 42) rfl)) (hw _ (List.mem_of_getElem? (i := 2) rfl)) (by decide) (by decide)) (g := (mkF m 4 #[.val (.ref ob0)] [(.int (-1 : Int32)), (.int (-1 : Int32)), (.ref ob0), (.int (2 : Int32))])) rfl (by rw [hml]; rfl) (Steps.refl _) (a := ob0) (by rw [e0]; exact q1a) q1b (argsL := [(.int (-1 : Int32)), (.int (-1 : Int32))]) (rest := [(.int (2 : Int32))]) (lenOf pd70 rfl) rfl (by show 2 * 0 + _ ≤ _; exact Nat.le_of_eq rfl) (hb hby d5_4) (fun _ _ => ⟨rfl, e0, (by decide : 0 + 0 ≤ _), (by decide : 0 + 0 ≤ _)⟩)
  dsimp only [Pt.U, Pt.locs, Pt.cells, Pt.slots] at X1 l1 y1 z1 st1 hQ1
  subst l1 y1 z1
  obtain ⟨rfl, N1q, K1, O1, pf1_0, pf1_1, pf1_2, pf1_3, pf1_4, pf1_5, pf1_6, -⟩ := hQ1
  have KK1 : Keep h0 T1.heap [ob1, ob2, ob0] := (Keep.refl h0 [ob1, ob2, ob0]).trans K1 (allS (Or.inl (List.mem_of_getElem? (i := 0) rfl)) (allS (Or.inl (List.mem_of_getElem? (i := 1) rfl)) (allS (Or.inl (List.mem_of_getElem? (i := 2) rfl)) all0)))
  have N1 := Fr.app N0 N1q
  obtain ⟨fs, hr, hrun, hended, hW, hsame⟩ := X1.leave (v := some (.int (2 : Int32))) (fun h => by rw [Bd.returns] at h; cases h)
  refine ⟨_, _, pre0 _ ?_, hrun, hended, _, _, rfl, ?_, ⟨_, rfl⟩, hW, hsame.mono (by decide) (by decide)⟩
  · show Steps p.tables e below (s₁.setTop (mkF m 0 #[.val (.ref ob0)] [])) _
    refine XS.iconst X0.here hx rfl (hb hby d5_0) ?_
    show Steps p.tables e below (s₁.setTop (mkF m 1 #[.val (.ref ob0)] [(.int (2 : Int32))])) _
    refine XS.aloadN X0.here hx rfl (hb hby d5_1) rfl rfl ?_
    show Steps p.tables e below (s₁.setTop (mkF m 2 #[.val (.ref ob0)] [(.ref ob0), (.int (2 : Int32))])) _
    refine XS.iconst X0.here hx rfl (hb hby d5_2) ?_
    show Steps p.tables e below (s₁.setTop (mkF m 3 #[.val (.ref ob0)] [(.int (-1 : Int32)), (.ref ob0), (.int (2 : Int32))])) _
    refine XS.iconst X0.here hx rfl (hb hby d5_3) ?_
    show Steps p.tables e below (s₁.setTop (mkF m 4 #[.val (.ref ob0)] [(.int (-1 : Int32)), (.int (-1 : Int32)), (.ref ob0), (.int (2 : Int32))])) _
    refine st1.trans ?_
    show Steps p.tables e below (T1.setTop (mkF m 7 #[.val (.ref ob0)] [(.int (1 : Int32)), (.int (2 : Int32))])) _
    refine XS.imul X1.here hx rfl (hb hby d5_7) rfl ?_
    rw [show ((2 : Int32) * (1 : Int32)) = (2 : Int32) from by decide]
    show Steps p.tables e below (T1.setTop (mkF m 8 #[.val (.ref ob0)] [(.int (2 : Int32))])) _
    exact Jvm.RoadKit.retI X1 hx Bd.returns (hb hby d5_8) hr
  · exact ⟨rfl, N1, KK1, O1, pf1_0, pf1_1, pf1_2, pf1_3, pf1_4, pf1_5, pf1_6, trivial⟩
def Q6_31 (Z : State) (ob0 : Addr) (ob1 : Addr) (ob2 : Addr) (ob3 : Addr) (k_ob1 : ClassId) (k_ob2 : ClassId) (h0 : Heap) (n0 : Nat) (v : Option Value) (h : Heap) (L : List Loc) : Prop := v = some (.int (2 : Int32)) ∧ Fr n0 L ∧ Keep h0 h [ob1, ob2, ob0] ∧ Old Z n0 h ∧ Arv Z h ob1 k_ob1 .int (1024 : Int32) [(.int (0 : Int32)), (.int (-1 : Int32)), (.int (-1 : Int32)), (.int (0 : Int32)), (.int (0 : Int32)), (.int (0 : Int32))] (.int (0 : Int32)) ∧ Arv Z h ob2 k_ob2 .int (1024 : Int32) [(.int (0 : Int32)), (.int (-1 : Int32)), (.int (-1 : Int32)), (.int (0 : Int32)), (.int (0 : Int32)), (.int (0 : Int32))] (.int (0 : Int32)) ∧ Exa Z h ob0 "com/example/minos/minos/analysis/Circuit" ∧ Fld Z h ob0 "com/example/minos/minos/analysis/Circuit" "first" "[I" (.ref ob1) ∧ Fld Z h ob0 "com/example/minos/minos/analysis/Circuit" "second" "[I" (.ref ob2) ∧ Fld Z h ob0 "com/example/minos/minos/analysis/Circuit" "nodes" "I" (.int (3 : Int32)) ∧ Fld Z h ob0 "com/example/minos/minos/analysis/Circuit" "gates" "Ljava/util/Map;" (.ref ob3) ∧ True
set_option maxRecDepth 65536 in
set_option maxHeartbeats 40000000 in
theorem rm6_31 (l : Launch) (Z : State) (a0 : Array Value) (hw : ∀ d ∈ tables_1, d.before a0 Z = true) (ws : List Jvm.Cond) (ob0 : Addr) (ob1 : Addr) (ob2 : Addr) (ob3 : Addr) (k_ob1 : ClassId) (k_ob2 : ClassId) (h0 : Heap) (n0 : Nat) (Z0 : n0 ≤ h0.size) (O0 : Old Z n0 h0) (PE_ob0 : Exa Z h0 ob0 "com/example/minos/minos/analysis/Circuit") (PF_ob0_first : Fld Z h0 ob0 "com/example/minos/minos/analysis/Circuit" "first" "[I" (.ref ob1)) (PF_ob0_second : Fld Z h0 ob0 "com/example/minos/minos/analysis/Circuit" "second" "[I" (.ref ob2)) (PF_ob0_nodes : Fld Z h0 ob0 "com/example/minos/minos/analysis/Circuit" "nodes" "I" (.int (2 : Int32))) (PF_ob0_gates : Fld Z h0 ob0 "com/example/minos/minos/analysis/Circuit" "gates" "Ljava/util/Map;" (.ref ob3)) (PV_ob1 : Arv Z h0 ob1 k_ob1 .int (1024 : Int32) [(.int (0 : Int32)), (.int (-1 : Int32)), (.int (0 : Int32)), (.int (0 : Int32)), (.int (0 : Int32)), (.int (0 : Int32))] (.int (0 : Int32))) (PV_ob2 : Arv Z h0 ob2 k_ob2 .int (1024 : Int32) [(.int (0 : Int32)), (.int (-1 : Int32)), (.int (0 : Int32)), (.int (0 : Int32)), (.int (0 : Int32)), (.int (0 : Int32))] (.int (0 : Int32))) (ne_ob0_ob1 : ob0 ≠ ob1) (ne_ob1_ob2 : ob1 ≠ ob2) (ne_ob0_ob2 : ob0 ≠ ob2) (g_ob1 : n0 ≤ ob1) (g_ob2 : n0 ≤ ob2) (g_ob0 : n0 ≤ ob0) :
    MetFree l (⟨"com/example/minos/minos/analysis/Circuit", "add", "(II)I"⟩ : MethodName) (head1 (Jvm.Cond.code (⟨"com/example/minos/minos/analysis/Circuit", "add", "(II)I"⟩ : MethodName) prog_12_method_14_code 3 (some .int) :: ws) ({ frames := 0, cells := 0, slots := 0, locals := 0 } : Room)) (fun a U => a = #[(.ref ob0), (.int (-1 : Int32)), (.int (-1 : Int32))] ∧ Z.Warmed39 U.vm ∧ U.heap = h0) (fun _ _ _ _ _ => True) (fun _ U o U' => ∃ v L, o = .returned v ∧ Q6_31 Z  ob0 ob1 ob2 ob3 k_ob1 k_ob2 h0 n0 v U'.heap L ∧ FrameEnd U o U' L ({ frames := 0, cells := 0, slots := 0, locals := 0 } : Room).cells ({ frames := 0, cells := 0, slots := 0, locals := 0 } : Room).slots) := by
  refine MetFree.of_bodySF (plainFor_of_name pn37) hisR ?_
  intro p e s m args below meth c s₁ Bd hml0 hP hK
  obtain ⟨rfl, hZ, hh⟩ := hP
  have hx := Bd.exec
  have hby := Bd.bytes
  have hml : c.maxLocals = 3 := hml0
  have hown : s.vm.findClass "com/example/minos/minos/analysis/Circuit" = some m.cls := findClass_of_methodNamed Bd.named
  have hnm := (name_of_methodNamed Bd.named Bd.method).1
  have X0 : Stand p l e ({ frames := 0, cells := 0, slots := 0, locals := 0 } : Room) s m #[(.ref ob0), (.int (-1 : Int32)), (.int (-1 : Int32))] below meth c s₁ [] 0 0 := Stand.of_body Bd
  have e0 : s₁.heap = h0 := by rw [← hh, Bd.state]; rfl
  have N0 := Fr.nil n0
  have pre0 : ∀ t, Steps p.tables e below (s₁.setTop (mkF m 0 #[.val (.ref ob0), .val (.int (-1 : Int32)), .val (.int (-1 : Int32))] [])) t → Steps p.tables e below (s₁.setTop (entryFrame m #[(.ref ob0), (.int (-1 : Int32)), (.int (-1 : Int32))] 3)) t := fun t k => castTop (ef69 m ob0 (-1 : Int32) (-1 : Int32)) k
  obtain ⟨T1, X1, e1, st1⟩ := getF X0 hx hZ hown (host := "") (Or.inl (hw _ (List.mem_of_getElem? (i := 14) rfl))) Via.refl e0 PF_ob0_nodes (g := (mkF m 1 #[.val (.ref ob0), .val (.int (-1 : Int32)), .val (.int (-1 : Int32))] [(.ref ob0)])) rfl rfl (hb hby d6_1)
  obtain ⟨T2, X2, e2, st2⟩ := getF X1 hx hZ hown (host := "") (Or.inl (hw _ (List.mem_of_getElem? (i := 10) rfl))) Via.refl e1 PF_ob0_first (g := (mkF m 5 #[.val (.ref ob0), .val (.int (-1 : Int32)), .val (.int (-1 : Int32))] [(.ref ob0), (.int (2 : Int32))])) rfl rfl (hb hby d6_5)
  obtain ⟨ac3, aA3, aq3, aS3, aN3, aH3, aG3⟩ := id PV_ob1
  obtain ⟨T4, X4, e4, st4⟩ := getF X2 hx hZ hown (host := "") (Or.inl (hw _ (List.mem_of_getElem? (i := 10) rfl))) Via.refl e2 PF_ob0_first (g := (mkF m 47 #[.val (.ref ob0), .val (.int (-1 : Int32)), .val (.int (-1 : Int32))] [(.ref ob0)])) rfl rfl (hb hby d6_47)
  obtain ⟨T5, X5, e5, st5⟩ := getF X4 hx hZ hown (host := "") (Or.inl (hw _ (List.mem_of_getElem? (i := 14) rfl))) Via.refl e4 PF_ob0_nodes (g := (mkF m 51 #[.val (.ref ob0), .val (.int (-1 : Int32)), .val (.int (-1 : Int32))] [(.ref ob0), (.ref ob1)])) rfl rfl (hb hby d6_51)
  obtain ⟨ac6, aA6, aq6, aS6, aN6, aH6, aG6⟩ := id PV_ob1
  obtain ⟨T7, h7, X7, e7, W7, st7⟩ := stI X5 hx hZ e5 aA6 (j := (2 : Int32)) (inb_of aS6 ⟨by decide, by decide⟩) (g := (mkF m 55 #[.val (.ref ob0), .val (.int (-1 : Int32)), .val (.int (-1 : Int32))] [(.int (-1 : Int32)), (.int (2 : Int32)), (.ref ob1)])) rfl rfl (hb hby d6_55)
  have V_ob1_7 : Arv Z h7 ob1 k_ob1 .int (1024 : Int32) [(.int (0 : Int32)), (.int (-1 : Int32)), (.int (-1 : Int32)), (.int (0 : Int32)), (.int (0 : Int32)), (.int (0 : Int32))] (.int (0 : Int32)) := Arv.set aA6 aq6 aS6 aN6 aH6 aG6 rfl W7 2 rfl (Nat.le_of_ble_eq_true rfl)
  have N7 := Fr.snoc X7 N0 g_ob1
  have O7 := O0.wr W7 g_ob1
  have KK7 : Keep h0 h7 [ob1, ob2, ob0] := (Keep.refl h0 [ob1, ob2, ob0]).wr W7 (Or.inl (List.mem_of_getElem? (i := 0) rfl))
  obtain ⟨T8, X8, e8, st8⟩ := getF X7 hx hZ hown (host := "") (Or.inl (hw _ (List.mem_of_getElem? (i := 12) rfl))) Via.refl e7 (PF_ob0_second.other W7 (Or.inl ne_ob0_ob1)) (g := (mkF m 57 #[.val (.ref ob0), .val (.int (-1 : Int32)), .val (.int (-1 : Int32))] [(.ref ob0)])) rfl rfl (hb hby d6_57)
  obtain ⟨T9, X9, e9, st9⟩ := getF X8 hx hZ hown (host := "") (Or.inl (hw _ (List.mem_of_getElem? (i := 14) rfl))) Via.refl e8 (PF_ob0_nodes.other W7 (Or.inl ne_ob0_ob1)) (g := (mkF m 61 #[.val (.ref ob0), .val (.int (-1 : Int32)), .val (.int (-1 : Int32))] [(.ref ob0), (.ref ob2)])) rfl rfl (hb hby d6_61)
  obtain ⟨ac10, aA10, aq10, aS10, aN10, aH10, aG10⟩ := id (PV_ob2.other W7 (Ne.symm ne_ob1_ob2))
  obtain ⟨T11, h11, X11, e11, W11, st11⟩ := stI X9 hx hZ e9 aA10 (j := (2 : Int32)) (inb_of aS10 ⟨by decide, by decide⟩) (g := (mkF m 65 #[.val (.ref ob0), .val (.int (-1 : Int32)), .val (.int (-1 : Int32))] [(.int (-1 : Int32)), (.int (2 : Int32)), (.ref ob2)])) rfl rfl (hb hby d6_65)
  have V_ob2_11 : Arv Z h11 ob2 k_ob2 .int (1024 : Int32) [(.int (0 : Int32)), (.int (-1 : Int32)), (.int (-1 : Int32)), (.int (0 : Int32)), (.int (0 : Int32)), (.int (0 : Int32))] (.int (0 : Int32)) := Arv.set aA10 aq10 aS10 aN10 aH10 aG10 rfl W11 2 rfl (Nat.le_of_ble_eq_true rfl)
  have N11 := Fr.snoc X11 N7 g_ob2
  have O11 := O7.wr W11 g_ob2
  have KK11 : Keep h0 h11 [ob1, ob2, ob0] := KK7.wr W11 (Or.inl (List.mem_of_getElem? (i := 1) rfl))
  obtain ⟨T12, X12, e12, st12⟩ := getF X11 hx hZ hown (host := "") (Or.inl (hw _ (List.mem_of_getElem? (i := 14) rfl))) Via.refl e11 ((PF_ob0_nodes.other W7 (Or.inl ne_ob0_ob1)).other W11 (Or.inl ne_ob0_ob2)) (g := (mkF m 68 #[.val (.ref ob0), .val (.int (-1 : Int32)), .val (.int (-1 : Int32))] [(.ref ob0), (.ref ob0)])) rfl rfl (hb hby d6_68)
  obtain ⟨T13, h13, X13, e13, W13, st13⟩ := putF X12 hx hZ hown (host := "") (Or.inl (hw _ (List.mem_of_getElem? (i := 14) rfl))) Via.refl e12 ((PF_ob0_nodes.other W7 (Or.inl ne_ob0_ob1)).other W11 (Or.inl ne_ob0_ob2)) ((PE_ob0.wr W7).wr W11) (Or.inl (hw _ (List.mem_of_getElem? (i := 15) rfl))) (hw _ (List.mem_of_getElem? (i := 1) rfl)) (ty := .int) (by decide) rfl rfl (g := (mkF m 74 #[.val (.ref ob0), .val (.int (-1 : Int32)), .val (.int (-1 : Int32))] [(.int (3 : Int32)), (.ref ob0), (.int (2 : Int32))])) rfl rfl (hb hby d6_74)
  have Fw13 := ((PF_ob0_nodes.other W7 (Or.inl ne_ob0_ob1)).other W11 (Or.inl ne_ob0_ob2)).same W13
  have N13 := Fr.snoc X13 N11 g_ob0
  have O13 := O11.wr W13 g_ob0
  have KK13 : Keep h0 h13 [ob1, ob2, ob0] := KK11.wr W13 (Or.inl (List.mem_of_getElem? (i := 2) rfl))
  have J14 := (((PE_ob0.wr W7).wr W11).wr W13)
  have J15 := (((PF_ob0_first.other W7 (Or.inl ne_ob0_ob1)).other W11 (Or.inl ne_ob0_ob2)).other W13 (Or.inr (slot_ne (Or.inl (hw _ (List.mem_of_getElem? (i := 11) rfl))) (Or.inl (hw _ (List.mem_of_getElem? (i := 15) rfl))) (by decide) (t := (.array .int)) (t' := .int) (by decide) (by decide))))
  have J16 := (((PF_ob0_second.other W7 (Or.inl ne_ob0_ob1)).other W11 (Or.inl ne_ob0_ob2)).other W13 (Or.inr (slot_ne (Or.inl (hw _ (List.mem_of_getElem? (i := 13) rfl))) (Or.inl (hw _ (List.mem_of_getElem? (i := 15) rfl))) (by decide) (t := (.array .int)) (t' := .int) (by decide) (by decide))))
  have J17 := (((PF_ob0_gates.other W7 (Or.inl ne_ob0_ob1)).other W11 (Or.inl ne_ob0_ob2)).other W13 (Or.inr (slot_ne (Or.inr (hw _ (List.mem_of_getElem? (i := 33) rfl))) (Or.inl (hw _ (List.mem_of_getElem? (i := 15) rfl))) (by decide) (t := (.object "java/util/Map")) (t' := .int) (by decide) (by decide))))
  obtain ⟨fs, hr, hrun, hended, hW, hsame⟩ := X13.leave (v := some (.int (2 : Int32))) (fun h => by rw [Bd.returns] at h; cases h)
  refine ⟨_, _, pre0 _ ?_, hrun, hended, _, _, rfl, ?_, ⟨_, rfl⟩, hW, hsame.mono (by decide) (by decide)⟩
  · show Steps p.tables e below (s₁.setTop (mkF m 0 #[.val (.ref ob0), .val (.int (-1 : Int32)), .val (.int (-1 : Int32))] [])) _
    refine XS.aloadN X0.here hx rfl (hb hby d6_0) rfl rfl ?_
    show Steps p.tables e below (s₁.setTop (mkF m 1 #[.val (.ref ob0), .val (.int (-1 : Int32)), .val (.int (-1 : Int32))] [(.ref ob0)])) _
    refine st1 _ ?_
    show Steps p.tables e below (T1.setTop (mkF m 4 #[.val (.ref ob0), .val (.int (-1 : Int32)), .val (.int (-1 : Int32))] [(.int (2 : Int32))])) _
    refine XS.aloadN X1.here hx rfl (hb hby d6_4) rfl rfl ?_
    show Steps p.tables e below (T1.setTop (mkF m 5 #[.val (.ref ob0), .val (.int (-1 : Int32)), .val (.int (-1 : Int32))] [(.ref ob0), (.int (2 : Int32))])) _
    refine st2 _ ?_
    show Steps p.tables e below (T2.setTop (mkF m 8 #[.val (.ref ob0), .val (.int (-1 : Int32)), .val (.int (-1 : Int32))] [(.ref ob1), (.int (2 : Int32))])) _
    refine X2.arraylength hx (by rw [e2]; exact aA3.1) (State.isArrayOf_alike hZ.alike aA3.2.1) (g := (mkF m 8 #[.val (.ref ob0), .val (.int (-1 : Int32)), .val (.int (-1 : Int32))] [(.ref ob1), (.int (2 : Int32))])) rfl rfl (hb hby d6_8) _ ?_
    rw [len_of aS3 aN3]
    show Steps p.tables e below (T2.setTop (mkF m 9 #[.val (.ref ob0), .val (.int (-1 : Int32)), .val (.int (-1 : Int32))] [(.int (1024 : Int32)), (.int (2 : Int32))])) _
    refine XS.icmpYes X2.here hx rfl (pc0 := 9) (pc' := 46) rfl (hb hby d6_9) rfl (feq (by decide : ¬ ((2 : Int32) = (1024 : Int32)))).2 (by decide) (by decide) ?_
    show Steps p.tables e below (T2.setTop (mkF m 46 #[.val (.ref ob0), .val (.int (-1 : Int32)), .val (.int (-1 : Int32))] [])) _
    refine XS.aloadN X2.here hx rfl (hb hby d6_46) rfl rfl ?_
    show Steps p.tables e below (T2.setTop (mkF m 47 #[.val (.ref ob0), .val (.int (-1 : Int32)), .val (.int (-1 : Int32))] [(.ref ob0)])) _
    refine st4 _ ?_
    show Steps p.tables e below (T4.setTop (mkF m 50 #[.val (.ref ob0), .val (.int (-1 : Int32)), .val (.int (-1 : Int32))] [(.ref ob1)])) _
    refine XS.aloadN X4.here hx rfl (hb hby d6_50) rfl rfl ?_
    show Steps p.tables e below (T4.setTop (mkF m 51 #[.val (.ref ob0), .val (.int (-1 : Int32)), .val (.int (-1 : Int32))] [(.ref ob0), (.ref ob1)])) _
    refine st5 _ ?_
    show Steps p.tables e below (T5.setTop (mkF m 54 #[.val (.ref ob0), .val (.int (-1 : Int32)), .val (.int (-1 : Int32))] [(.int (2 : Int32)), (.ref ob1)])) _
    refine XS.iloadN X5.here hx rfl (hb hby d6_54) rfl ?_
    show Steps p.tables e below (T5.setTop (mkF m 55 #[.val (.ref ob0), .val (.int (-1 : Int32)), .val (.int (-1 : Int32))] [(.int (-1 : Int32)), (.int (2 : Int32)), (.ref ob1)])) _
    refine st7 _ ?_
    show Steps p.tables e below (T7.setTop (mkF m 56 #[.val (.ref ob0), .val (.int (-1 : Int32)), .val (.int (-1 : Int32))] [])) _
    refine XS.aloadN X7.here hx rfl (hb hby d6_56) rfl rfl ?_
    show Steps p.tables e below (T7.setTop (mkF m 57 #[.val (.ref ob0), .val (.int (-1 : Int32)), .val (.int (-1 : Int32))] [(.ref ob0)])) _
    refine st8 _ ?_
    show Steps p.tables e below (T8.setTop (mkF m 60 #[.val (.ref ob0), .val (.int (-1 : Int32)), .val (.int (-1 : Int32))] [(.ref ob2)])) _
    refine XS.aloadN X8.here hx rfl (hb hby d6_60) rfl rfl ?_
    show Steps p.tables e below (T8.setTop (mkF m 61 #[.val (.ref ob0), .val (.int (-1 : Int32)), .val (.int (-1 : Int32))] [(.ref ob0), (.ref ob2)])) _
    refine st9 _ ?_
    show Steps p.tables e below (T9.setTop (mkF m 64 #[.val (.ref ob0), .val (.int (-1 : Int32)), .val (.int (-1 : Int32))] [(.int (2 : Int32)), (.ref ob2)])) _
    refine XS.iloadN X9.here hx rfl (hb hby d6_64) rfl ?_
    show Steps p.tables e below (T9.setTop (mkF m 65 #[.val (.ref ob0), .val (.int (-1 : Int32)), .val (.int (-1 : Int32))] [(.int (-1 : Int32)), (.int (2 : Int32)), (.ref ob2)])) _
    refine st11 _ ?_
    show Steps p.tables e below (T11.setTop (mkF m 66 #[.val (.ref ob0), .val (.int (-1 : Int32)), .val (.int (-1 : Int32))] [])) _
    refine XS.aloadN X11.here hx rfl (hb hby d6_66) rfl rfl ?_
    show Steps p.tables e below (T11.setTop (mkF m 67 #[.val (.ref ob0), .val (.int (-1 : Int32)), .val (.int (-1 : Int32))] [(.ref ob0)])) _
    refine XS.dup X11.here hx rfl (hb hby d6_67) rfl rfl ?_
    show Steps p.tables e below (T11.setTop (mkF m 68 #[.val (.ref ob0), .val (.int (-1 : Int32)), .val (.int (-1 : Int32))] [(.ref ob0), (.ref ob0)])) _
    refine st12 _ ?_
    show Steps p.tables e below (T12.setTop (mkF m 71 #[.val (.ref ob0), .val (.int (-1 : Int32)), .val (.int (-1 : Int32))] [(.int (2 : Int32)), (.ref ob0)])) _
    refine XS.dupX1 X12.here hx rfl (hb hby d6_71) rfl rfl rfl ?_
    show Steps p.tables e below (T12.setTop (mkF m 72 #[.val (.ref ob0), .val (.int (-1 : Int32)), .val (.int (-1 : Int32))] [(.int (2 : Int32)), (.ref ob0), (.int (2 : Int32))])) _
    refine XS.iconst X12.here hx rfl (hb hby d6_72) ?_
    show Steps p.tables e below (T12.setTop (mkF m 73 #[.val (.ref ob0), .val (.int (-1 : Int32)), .val (.int (-1 : Int32))] [(.int (1 : Int32)), (.int (2 : Int32)), (.ref ob0), (.int (2 : Int32))])) _
    refine XS.iadd X12.here hx rfl (hb hby d6_73) rfl ?_
    rw [show ((2 : Int32) + (1 : Int32)) = (3 : Int32) from by decide]
    show Steps p.tables e below (T12.setTop (mkF m 74 #[.val (.ref ob0), .val (.int (-1 : Int32)), .val (.int (-1 : Int32))] [(.int (3 : Int32)), (.ref ob0), (.int (2 : Int32))])) _
    refine st13 _ ?_
    show Steps p.tables e below (T13.setTop (mkF m 77 #[.val (.ref ob0), .val (.int (-1 : Int32)), .val (.int (-1 : Int32))] [(.int (2 : Int32))])) _
    exact Jvm.RoadKit.retI X13 hx Bd.returns (hb hby d6_77) hr
  · have eH : (T13.setFrames fs).heap = h13 := e13; rw [eH]; exact ⟨rfl, N13, KK13, O13, ((V_ob1_7.other W11 ne_ob1_ob2).other W13 (Ne.symm ne_ob0_ob1)), (V_ob2_11.other W13 (Ne.symm ne_ob0_ob2)), J14, J15, J16, Fw13, J17, trivial⟩
def Q5_32 (Z : State) (ob0 : Addr) (ob1 : Addr) (ob2 : Addr) (ob3 : Addr) (k_ob1 : ClassId) (k_ob2 : ClassId) (h0 : Heap) (n0 : Nat) (v : Option Value) (h : Heap) (L : List Loc) : Prop := v = some (.int (4 : Int32)) ∧ Fr n0 L ∧ Keep h0 h [ob1, ob2, ob0] ∧ Old Z n0 h ∧ Arv Z h ob1 k_ob1 .int (1024 : Int32) [(.int (0 : Int32)), (.int (-1 : Int32)), (.int (-1 : Int32)), (.int (0 : Int32)), (.int (0 : Int32)), (.int (0 : Int32))] (.int (0 : Int32)) ∧ Arv Z h ob2 k_ob2 .int (1024 : Int32) [(.int (0 : Int32)), (.int (-1 : Int32)), (.int (-1 : Int32)), (.int (0 : Int32)), (.int (0 : Int32)), (.int (0 : Int32))] (.int (0 : Int32)) ∧ Exa Z h ob0 "com/example/minos/minos/analysis/Circuit" ∧ Fld Z h ob0 "com/example/minos/minos/analysis/Circuit" "first" "[I" (.ref ob1) ∧ Fld Z h ob0 "com/example/minos/minos/analysis/Circuit" "second" "[I" (.ref ob2) ∧ Fld Z h ob0 "com/example/minos/minos/analysis/Circuit" "nodes" "I" (.int (3 : Int32)) ∧ Fld Z h ob0 "com/example/minos/minos/analysis/Circuit" "gates" "Ljava/util/Map;" (.ref ob3) ∧ True
set_option maxRecDepth 65536 in
set_option maxHeartbeats 40000000 in
theorem rm5_32 (l : Launch) (Z : State) (a0 : Array Value) (hw : ∀ d ∈ tables_1, d.before a0 Z = true) (ws : List Jvm.Cond) (ob0 : Addr) (ob1 : Addr) (ob2 : Addr) (ob3 : Addr) (k_ob1 : ClassId) (k_ob2 : ClassId) (h0 : Heap) (n0 : Nat) (Z0 : n0 ≤ h0.size) (O0 : Old Z n0 h0) (PE_ob0 : Exa Z h0 ob0 "com/example/minos/minos/analysis/Circuit") (PF_ob0_first : Fld Z h0 ob0 "com/example/minos/minos/analysis/Circuit" "first" "[I" (.ref ob1)) (PF_ob0_second : Fld Z h0 ob0 "com/example/minos/minos/analysis/Circuit" "second" "[I" (.ref ob2)) (PF_ob0_nodes : Fld Z h0 ob0 "com/example/minos/minos/analysis/Circuit" "nodes" "I" (.int (2 : Int32))) (PF_ob0_gates : Fld Z h0 ob0 "com/example/minos/minos/analysis/Circuit" "gates" "Ljava/util/Map;" (.ref ob3)) (PV_ob1 : Arv Z h0 ob1 k_ob1 .int (1024 : Int32) [(.int (0 : Int32)), (.int (-1 : Int32)), (.int (0 : Int32)), (.int (0 : Int32)), (.int (0 : Int32)), (.int (0 : Int32))] (.int (0 : Int32))) (PV_ob2 : Arv Z h0 ob2 k_ob2 .int (1024 : Int32) [(.int (0 : Int32)), (.int (-1 : Int32)), (.int (0 : Int32)), (.int (0 : Int32)), (.int (0 : Int32)), (.int (0 : Int32))] (.int (0 : Int32))) (ne_ob0_ob1 : ob0 ≠ ob1) (ne_ob1_ob2 : ob1 ≠ ob2) (ne_ob0_ob2 : ob0 ≠ ob2) (g_ob1 : n0 ≤ ob1) (g_ob2 : n0 ≤ ob2) (g_ob0 : n0 ≤ ob0) :
    MetFree l (⟨"com/example/minos/minos/analysis/Circuit", "input", "()I"⟩ : MethodName) (head1 (Jvm.Cond.code (⟨"com/example/minos/minos/analysis/Circuit", "input", "()I"⟩ : MethodName) prog_12_method_4_code 1 (some .int) :: ws) ({ frames := 1, cells := 0, slots := 0, locals := 15 } : Room)) (fun a U => a = #[(.ref ob0)] ∧ Z.Warmed39 U.vm ∧ U.heap = h0) (fun _ _ _ _ _ => True) (fun _ U o U' => ∃ v L, o = .returned v ∧ Q5_32 Z  ob0 ob1 ob2 ob3 k_ob1 k_ob2 h0 n0 v U'.heap L ∧ FrameEnd U o U' L ({ frames := 1, cells := 0, slots := 0, locals := 15 } : Room).cells ({ frames := 1, cells := 0, slots := 0, locals := 15 } : Room).slots) := by
  refine MetFree.of_bodySF (plainFor_of_name pn37) hisR ?_
  intro p e s m args below meth c s₁ Bd hml0 hP hK
  obtain ⟨rfl, hZ, hh⟩ := hP
  have hx := Bd.exec
  have hby := Bd.bytes
  have hml : c.maxLocals = 1 := hml0
  have hown : s.vm.findClass "com/example/minos/minos/analysis/Circuit" = some m.cls := findClass_of_methodNamed Bd.named
  have hnm := (name_of_methodNamed Bd.named Bd.method).1
  have X0 : Stand p l e ({ frames := 1, cells := 0, slots := 0, locals := 15 } : Room) s m #[(.ref ob0)] below meth c s₁ [] 0 0 := Stand.of_body Bd
  have e0 : s₁.heap = h0 := by rw [← hh, Bd.state]; rfl
  have N0 := Fr.nil n0
  have pre0 : ∀ t, Steps p.tables e below (s₁.setTop (mkF m 0 #[.val (.ref ob0)] [])) t → Steps p.tables e below (s₁.setTop (entryFrame m #[(.ref ob0)] 1)) t := fun t k => castTop (ef404 m ob0) k
  obtain ⟨cq1, q1a, q1b⟩ := Exa.cell PE_ob0
  obtain ⟨_, _, ⟨T1, L1, k1, n1⟩, -, X1, ⟨Lc1, hQ1, l1, y1, z1⟩, st1⟩ := X0.privateBack hx (y := (⟨"com/example/minos/minos/analysis/Circuit", "add", "(II)I"⟩ : MethodName)) hown (mvT hZ (hw _ (List.mem_of_getElem? (i := 39) rfl))) (mvT hZ (hw _ (List.mem_of_getElem? (i := 40) rfl))) (own_sel (mvT hZ (hw _ (List.mem_of_getElem? (i := 40) rfl))) (mvP hZ (hw _ (List.mem_of_getElem? (i := 41) rfl))) (mvT hZ (hw _ (List.mem_of_getElem? (i := 1) rfl))) (by decide)) (Cond.privateMethod_at (mvP hZ (hw _ (List.mem_of_getElem? (i := 41) rfl)) (args := #[]))) (mvT hZ (hw _ (List.mem_of_getElem? (i := 42) rfl))) (by decide) (backOf (W := 1) (rm6_31 l Z a0 hw []  ob0 ob1 ob2 ob3 k_ob1 k_ob2 h0 n0 (own_n0 O0) O0 PE_ob0 PF_ob0_first PF_ob0_second PF_ob0_nodes PF_ob0_gates PV_ob1 PV_ob2 ne_ob0_ob1 ne_ob1_ob2 ne_ob0_ob2 g_ob1 g_ob2 g_ob0) hZ (hw _ (List.mem_of_getElem? (i := 42) rfl)) (hw _ (List.mem_of_getElem? (i := 2) rfl)) (by decide) (by decide)) (g := (mkF m 4 #[.val (.ref ob0)] [(.int (-1 : Int32)), (.int (-1 : Int32)), (.ref ob0), (.int (2 : Int32))])) rfl (by rw [hml]; rfl) (Steps.refl _) (a := ob0) (by rw [e0]; exact q1a) q1b (argsL := [(.int (-1 : Int32)), (.int (-1 : Int32))]) (rest := [(.int (2 : Int32))]) (lenOf pd70 rfl) rfl (by show 2 * 0 + _ ≤ _; exact Nat.le_of_eq rfl) (hb hby d5_4) (fun _ _ => ⟨rfl, e0, (by decide : 0 + 0 ≤ _), (by decide : 0 + 0 ≤ _)⟩)
  dsimp only [Pt.U, Pt.locs, Pt.cells, Pt.slots] at X1 l1 y1 z1 st1 hQ1
  subst l1 y1 z1
  obtain ⟨rfl, N1q, K1, O1, pf1_0, pf1_1, pf1_2, pf1_3, pf1_4, pf1_5, pf1_6, -⟩ := hQ1
  have KK1 : Keep h0 T1.heap [ob1, ob2, ob0] := (Keep.refl h0 [ob1, ob2, ob0]).trans K1 (allS (Or.inl (List.mem_of_getElem? (i := 0) rfl)) (allS (Or.inl (List.mem_of_getElem? (i := 1) rfl)) (allS (Or.inl (List.mem_of_getElem? (i := 2) rfl)) all0)))
  have N1 := Fr.app N0 N1q
  obtain ⟨fs, hr, hrun, hended, hW, hsame⟩ := X1.leave (v := some (.int (4 : Int32))) (fun h => by rw [Bd.returns] at h; cases h)
  refine ⟨_, _, pre0 _ ?_, hrun, hended, _, _, rfl, ?_, ⟨_, rfl⟩, hW, hsame.mono (by decide) (by decide)⟩
  · show Steps p.tables e below (s₁.setTop (mkF m 0 #[.val (.ref ob0)] [])) _
    refine XS.iconst X0.here hx rfl (hb hby d5_0) ?_
    show Steps p.tables e below (s₁.setTop (mkF m 1 #[.val (.ref ob0)] [(.int (2 : Int32))])) _
    refine XS.aloadN X0.here hx rfl (hb hby d5_1) rfl rfl ?_
    show Steps p.tables e below (s₁.setTop (mkF m 2 #[.val (.ref ob0)] [(.ref ob0), (.int (2 : Int32))])) _
    refine XS.iconst X0.here hx rfl (hb hby d5_2) ?_
    show Steps p.tables e below (s₁.setTop (mkF m 3 #[.val (.ref ob0)] [(.int (-1 : Int32)), (.ref ob0), (.int (2 : Int32))])) _
    refine XS.iconst X0.here hx rfl (hb hby d5_3) ?_
    show Steps p.tables e below (s₁.setTop (mkF m 4 #[.val (.ref ob0)] [(.int (-1 : Int32)), (.int (-1 : Int32)), (.ref ob0), (.int (2 : Int32))])) _
    refine st1.trans ?_
    show Steps p.tables e below (T1.setTop (mkF m 7 #[.val (.ref ob0)] [(.int (2 : Int32)), (.int (2 : Int32))])) _
    refine XS.imul X1.here hx rfl (hb hby d5_7) rfl ?_
    rw [show ((2 : Int32) * (2 : Int32)) = (4 : Int32) from by decide]
    show Steps p.tables e below (T1.setTop (mkF m 8 #[.val (.ref ob0)] [(.int (4 : Int32))])) _
    exact Jvm.RoadKit.retI X1 hx Bd.returns (hb hby d5_8) hr
  · exact ⟨rfl, N1, KK1, O1, pf1_0, pf1_1, pf1_2, pf1_3, pf1_4, pf1_5, pf1_6, trivial⟩
set_option maxRecDepth 65536 in
set_option maxHeartbeats 40000000 in
theorem lB1 {p : Program} {l : Launch} {e : Env} {s : State} {m : MethodId} {args : Array Value} {below : List Frame} {meth : Method} {c : Code} {T0 : State} {locs : List Loc} {Z : State} {a0 : Array Value} {h0 : Heap} {n0 : Nat} (p1 : Int32) (p2 : Int32) (p3 : Int32) (co : Addr) (F : Addr) (S : Addr) (k_F : ClassId) (k_S : ClassId) (hm : Addr)
    (X0 : Stand p l e room_1 s m args below meth c T0 locs 4 2060) (hx : p.tables.exec = Jvm.exec) (hZ : Z.Warmed39 s.vm) (hw : ∀ d ∈ tables_1, d.before a0 Z = true) (hby : c.code = code) (hml : c.maxLocals = 12) (hown : s.vm.findClass "com/example/minos/minos/analysis/CircuitIsGatePinLaw" = some m.cls) (e0 : T0.heap = h0) (N0 : Fr n0 locs) (O0 : Old Z n0 h0) (PE_co : Exa Z h0 co "com/example/minos/minos/analysis/Circuit") (PF_co_first : Fld Z h0 co "com/example/minos/minos/analysis/Circuit" "first" "[I" (.ref F)) (PF_co_second : Fld Z h0 co "com/example/minos/minos/analysis/Circuit" "second" "[I" (.ref S)) (PF_co_nodes : Fld Z h0 co "com/example/minos/minos/analysis/Circuit" "nodes" "I" (.int (1 : Int32))) (PV_F : Arv Z h0 F k_F .int (1024 : Int32) [(.int (0 : Int32)), (.int (0 : Int32)), (.int (0 : Int32)), (.int (0 : Int32)), (.int (0 : Int32)), (.int (0 : Int32))] (.int (0 : Int32))) (PV_S : Arv Z h0 S k_S .int (1024 : Int32) [(.int (0 : Int32)), (.int (0 : Int32)), (.int (0 : Int32)), (.int (0 : Int32)), (.int (0 : Int32)), (.int (0 : Int32))] (.int (0 : Int32))) (PF_co_gates : Fld Z h0 co "com/example/minos/minos/analysis/Circuit" "gates" "Ljava/util/Map;" (.ref hm)) (ne_F_co : F ≠ co) (ne_F_S : F ≠ S) (ne_S_co : S ≠ co) (g_F : n0 ≤ F) (g_S : n0 ≤ S) (g_co : n0 ≤ co) (hd0 : ¬ ((p3 &&& (1 : Int32)) = (0 : Int32))) :
    ∃ (T' : State) (locs' : List Loc), Stand p l e room_1 s m args below meth c T' locs' 4 2060 ∧ Fr n0 locs' ∧ Keep h0 T'.heap [F, S, co] ∧ Old Z n0 T'.heap ∧ Arv Z T'.heap F k_F .int (1024 : Int32) [(.int (0 : Int32)), (.int (-1 : Int32)), (.int (-1 : Int32)), (.int (0 : Int32)), (.int (0 : Int32)), (.int (0 : Int32))] (.int (0 : Int32)) ∧ Arv Z T'.heap S k_S .int (1024 : Int32) [(.int (0 : Int32)), (.int (-1 : Int32)), (.int (-1 : Int32)), (.int (0 : Int32)), (.int (0 : Int32)), (.int (0 : Int32))] (.int (0 : Int32)) ∧ Exa Z T'.heap co "com/example/minos/minos/analysis/Circuit" ∧ Fld Z T'.heap co "com/example/minos/minos/analysis/Circuit" "first" "[I" (.ref F) ∧ Fld Z T'.heap co "com/example/minos/minos/analysis/Circuit" "second" "[I" (.ref S) ∧ Fld Z T'.heap co "com/example/minos/minos/analysis/Circuit" "nodes" "I" (.int (3 : Int32)) ∧ Fld Z T'.heap co "com/example/minos/minos/analysis/Circuit" "gates" "Ljava/util/Map;" (.ref hm) ∧ True ∧ ∀ t, Steps p.tables e below (T'.setTop (mkF m 61 #[.val (.int p1), .val (.int p2), .val (.int p3), .val (.ref co), .val (.int (2 : Int32)), .val (.int (4 : Int32)), .val (.int (1 : Int32)), .val (.int (p2 &&& (1 : Int32))), .val (.int ((p2 >>> ((1 : Int32) &&& 31)) &&& (1 : Int32))), .unset, .unset, .unset] [(.int ((4 : Int32) ^^^ ((p2 >>> ((1 : Int32) &&& 31)) &&& (1 : Int32)))), (.int ((2 : Int32) ^^^ (p2 &&& (1 : Int32)))), (.ref co)])) t → Steps p.tables e below (T0.setTop (mkF m 7 #[.val (.int p1), .val (.int p2), .val (.int p3), .unset, .unset, .unset, .unset, .unset, .unset, .unset, .unset, .unset] [(.ref co)])) t := by
  obtain ⟨cq1, kq1, q1a, q1b, q1c⟩ := isOf hZ e0 PE_co
  obtain ⟨_, _, ⟨T1, L1, k1, n1⟩, -, X1, ⟨Lc1, hQ1, l1, y1, z1⟩, st1⟩ := X0.virtualBack hx (y := (⟨"com/example/minos/minos/analysis/Circuit", "input", "()I"⟩ : MethodName)) (z := (⟨"com/example/minos/minos/analysis/Circuit", "input", "()I"⟩ : MethodName)) hown (mvT hZ (hw _ (List.mem_of_getElem? (i := 34) rfl))) (mvT hZ (hw _ (List.mem_of_getElem? (i := 35) rfl))) (notFace_of_selects (args := #[]) (mvT hZ (hw _ (List.mem_of_getElem? (i := 37) rfl)))) (mvT hZ (hw _ (List.mem_of_getElem? (i := 37) rfl))) (mvT hZ (hw _ (List.mem_of_getElem? (i := 36) rfl))) (by decide) (backOf (W := 0) (rm5_30 l Z a0 hw []  co F S hm k_F k_S h0 n0 (own_n0 O0) O0 PE_co PF_co_first PF_co_second PF_co_nodes PF_co_gates PV_F PV_S (Ne.symm ne_F_co) ne_F_S (Ne.symm ne_S_co) g_F g_S g_co) hZ (hw _ (List.mem_of_getElem? (i := 38) rfl)) (hw _ (List.mem_of_getElem? (i := 2) rfl)) (by decide) (by decide)) q1a q1c (g := (mkF m 9 #[.val (.int p1), .val (.int p2), .val (.int p3), .val (.ref co), .unset, .unset, .unset, .unset, .unset, .unset, .unset, .unset] [(.ref co)])) rfl (by rw [hml]; rfl) (Steps.refl _) (argsL := []) (rest := []) (lenOf pd120 rfl) rfl (by show 2 * 0 + _ ≤ _; exact Nat.le_of_eq rfl) (hb hby at_9) (fun _ _ => ⟨rfl, e0, (by decide : 4 + 0 ≤ _), (by decide : 2060 + 0 ≤ _)⟩)
  dsimp only [Pt.U, Pt.locs, Pt.cells, Pt.slots] at X1 l1 y1 z1 st1 hQ1
  subst l1 y1 z1
  obtain ⟨rfl, N1q, K1, O1, pf1_0, pf1_1, pf1_2, pf1_3, pf1_4, pf1_5, pf1_6, -⟩ := hQ1
  have KK1 : Keep h0 T1.heap [F, S, co] := (Keep.refl h0 [F, S, co]).trans K1 (allS (Or.inl (List.mem_of_getElem? (i := 0) rfl)) (allS (Or.inl (List.mem_of_getElem? (i := 1) rfl)) (allS (Or.inl (List.mem_of_getElem? (i := 2) rfl)) all0)))
  have N1 := Fr.app N0 N1q
  obtain ⟨cq2, kq2, q2a, q2b, q2c⟩ := isOf hZ rfl pf1_2
  obtain ⟨_, _, ⟨T2, L2, k2, n2⟩, -, X2, ⟨Lc2, hQ2, l2, y2, z2⟩, st2⟩ := X1.virtualBack hx (y := (⟨"com/example/minos/minos/analysis/Circuit", "input", "()I"⟩ : MethodName)) (z := (⟨"com/example/minos/minos/analysis/Circuit", "input", "()I"⟩ : MethodName)) hown (mvT hZ (hw _ (List.mem_of_getElem? (i := 34) rfl))) (mvT hZ (hw _ (List.mem_of_getElem? (i := 35) rfl))) (notFace_of_selects (args := #[]) (mvT hZ (hw _ (List.mem_of_getElem? (i := 37) rfl)))) (mvT hZ (hw _ (List.mem_of_getElem? (i := 37) rfl))) (mvT hZ (hw _ (List.mem_of_getElem? (i := 36) rfl))) (by decide) (backOf (W := 0) (rm5_32 l Z a0 hw []  co F S hm k_F k_S T1.heap n0 (own_n0 O1) O1 pf1_2 pf1_3 pf1_4 pf1_5 pf1_6 pf1_0 pf1_1 (Ne.symm ne_F_co) ne_F_S (Ne.symm ne_S_co) g_F g_S g_co) hZ (hw _ (List.mem_of_getElem? (i := 38) rfl)) (hw _ (List.mem_of_getElem? (i := 2) rfl)) (by decide) (by decide)) q2a q2c (g := (mkF m 15 #[.val (.int p1), .val (.int p2), .val (.int p3), .val (.ref co), .val (.int (2 : Int32)), .unset, .unset, .unset, .unset, .unset, .unset, .unset] [(.ref co)])) rfl (by rw [hml]; rfl) (Steps.refl _) (argsL := []) (rest := []) (lenOf pd120 rfl) rfl (by show 2 * 0 + _ ≤ _; exact Nat.le_of_eq rfl) (hb hby at_15) (fun _ _ => ⟨rfl, rfl, (by decide : 4 + 0 ≤ _), (by decide : 2060 + 0 ≤ _)⟩)
  dsimp only [Pt.U, Pt.locs, Pt.cells, Pt.slots] at X2 l2 y2 z2 st2 hQ2
  subst l2 y2 z2
  obtain ⟨rfl, N2q, K2, O2, pf2_0, pf2_1, pf2_2, pf2_3, pf2_4, pf2_5, pf2_6, -⟩ := hQ2
  have KK2 : Keep h0 T2.heap [F, S, co] := KK1.trans K2 (allS (Or.inl (List.mem_of_getElem? (i := 0) rfl)) (allS (Or.inl (List.mem_of_getElem? (i := 1) rfl)) (allS (Or.inl (List.mem_of_getElem? (i := 2) rfl)) all0)))
  have N2 := Fr.app N1 N2q
  refine ⟨T2, _, X2, N2, KK2, O2, pf2_0, pf2_1, pf2_2, pf2_3, pf2_4, pf2_5, pf2_6, trivial, fun t kt => ?_⟩
  show Steps p.tables e below (T0.setTop (mkF m 7 #[.val (.int p1), .val (.int p2), .val (.int p3), .unset, .unset, .unset, .unset, .unset, .unset, .unset, .unset, .unset] [(.ref co)])) _
  refine XS.astoreN X0.here hx rfl (hb hby at_7) rfl rfl (l' := #[.val (.int p1), .val (.int p2), .val (.int p3), .val (.ref co), .unset, .unset, .unset, .unset, .unset, .unset, .unset, .unset]) rfl ?_
  show Steps p.tables e below (T0.setTop (mkF m 8 #[.val (.int p1), .val (.int p2), .val (.int p3), .val (.ref co), .unset, .unset, .unset, .unset, .unset, .unset, .unset, .unset] [])) _
  refine XS.aloadN X0.here hx rfl (hb hby at_8) rfl rfl ?_
  show Steps p.tables e below (T0.setTop (mkF m 9 #[.val (.int p1), .val (.int p2), .val (.int p3), .val (.ref co), .unset, .unset, .unset, .unset, .unset, .unset, .unset, .unset] [(.ref co)])) _
  refine st1.trans ?_
  show Steps p.tables e below (T1.setTop (mkF m 12 #[.val (.int p1), .val (.int p2), .val (.int p3), .val (.ref co), .unset, .unset, .unset, .unset, .unset, .unset, .unset, .unset] [(.int (2 : Int32))])) _
  refine XS.istore X1.here hx rfl (hb hby at_12) rfl (l' := #[.val (.int p1), .val (.int p2), .val (.int p3), .val (.ref co), .val (.int (2 : Int32)), .unset, .unset, .unset, .unset, .unset, .unset, .unset]) rfl ?_
  show Steps p.tables e below (T1.setTop (mkF m 14 #[.val (.int p1), .val (.int p2), .val (.int p3), .val (.ref co), .val (.int (2 : Int32)), .unset, .unset, .unset, .unset, .unset, .unset, .unset] [])) _
  refine XS.aloadN X1.here hx rfl (hb hby at_14) rfl rfl ?_
  show Steps p.tables e below (T1.setTop (mkF m 15 #[.val (.int p1), .val (.int p2), .val (.int p3), .val (.ref co), .val (.int (2 : Int32)), .unset, .unset, .unset, .unset, .unset, .unset, .unset] [(.ref co)])) _
  refine st2.trans ?_
  show Steps p.tables e below (T2.setTop (mkF m 18 #[.val (.int p1), .val (.int p2), .val (.int p3), .val (.ref co), .val (.int (2 : Int32)), .unset, .unset, .unset, .unset, .unset, .unset, .unset] [(.int (4 : Int32))])) _
  refine XS.istore X2.here hx rfl (hb hby at_18) rfl (l' := #[.val (.int p1), .val (.int p2), .val (.int p3), .val (.ref co), .val (.int (2 : Int32)), .val (.int (4 : Int32)), .unset, .unset, .unset, .unset, .unset, .unset]) rfl ?_
  show Steps p.tables e below (T2.setTop (mkF m 20 #[.val (.int p1), .val (.int p2), .val (.int p3), .val (.ref co), .val (.int (2 : Int32)), .val (.int (4 : Int32)), .unset, .unset, .unset, .unset, .unset, .unset] [])) _
  refine XS.iloadN X2.here hx rfl (hb hby at_20) rfl ?_
  show Steps p.tables e below (T2.setTop (mkF m 21 #[.val (.int p1), .val (.int p2), .val (.int p3), .val (.ref co), .val (.int (2 : Int32)), .val (.int (4 : Int32)), .unset, .unset, .unset, .unset, .unset, .unset] [(.int p3)])) _
  refine XS.iconst X2.here hx rfl (hb hby at_21) ?_
  show Steps p.tables e below (T2.setTop (mkF m 22 #[.val (.int p1), .val (.int p2), .val (.int p3), .val (.ref co), .val (.int (2 : Int32)), .val (.int (4 : Int32)), .unset, .unset, .unset, .unset, .unset, .unset] [(.int (1 : Int32)), (.int p3)])) _
  refine XS.iand X2.here hx rfl (hb hby at_22) rfl ?_
  show Steps p.tables e below (T2.setTop (mkF m 23 #[.val (.int p1), .val (.int p2), .val (.int p3), .val (.ref co), .val (.int (2 : Int32)), .val (.int (4 : Int32)), .unset, .unset, .unset, .unset, .unset, .unset] [(.int (p3 &&& (1 : Int32)))])) _
  refine XS.ifNo X2.here hx rfl (hb hby at_23) rfl ((if0 _ _).trans (feq hd0).1) ?_
  show Steps p.tables e below (T2.setTop (mkF m 26 #[.val (.int p1), .val (.int p2), .val (.int p3), .val (.ref co), .val (.int (2 : Int32)), .val (.int (4 : Int32)), .unset, .unset, .unset, .unset, .unset, .unset] [])) _
  refine XS.iconst X2.here hx rfl (hb hby at_26) ?_
  show Steps p.tables e below (T2.setTop (mkF m 27 #[.val (.int p1), .val (.int p2), .val (.int p3), .val (.ref co), .val (.int (2 : Int32)), .val (.int (4 : Int32)), .unset, .unset, .unset, .unset, .unset, .unset] [(.int (1 : Int32))])) _
  refine XS.goto X2.here hx rfl (pc0 := 27) (pc' := 31) rfl (hb hby at_27) (by decide) (by decide) ?_
  show Steps p.tables e below (T2.setTop (mkF m 31 #[.val (.int p1), .val (.int p2), .val (.int p3), .val (.ref co), .val (.int (2 : Int32)), .val (.int (4 : Int32)), .unset, .unset, .unset, .unset, .unset, .unset] [(.int (1 : Int32))])) _
  refine XS.istore X2.here hx rfl (hb hby at_31) rfl (l' := #[.val (.int p1), .val (.int p2), .val (.int p3), .val (.ref co), .val (.int (2 : Int32)), .val (.int (4 : Int32)), .val (.int (1 : Int32)), .unset, .unset, .unset, .unset, .unset]) rfl ?_
  show Steps p.tables e below (T2.setTop (mkF m 33 #[.val (.int p1), .val (.int p2), .val (.int p3), .val (.ref co), .val (.int (2 : Int32)), .val (.int (4 : Int32)), .val (.int (1 : Int32)), .unset, .unset, .unset, .unset, .unset] [])) _
  refine XS.iloadN X2.here hx rfl (hb hby at_33) rfl ?_
  show Steps p.tables e below (T2.setTop (mkF m 34 #[.val (.int p1), .val (.int p2), .val (.int p3), .val (.ref co), .val (.int (2 : Int32)), .val (.int (4 : Int32)), .val (.int (1 : Int32)), .unset, .unset, .unset, .unset, .unset] [(.int p2)])) _
  refine XS.iconst X2.here hx rfl (hb hby at_34) ?_
  show Steps p.tables e below (T2.setTop (mkF m 35 #[.val (.int p1), .val (.int p2), .val (.int p3), .val (.ref co), .val (.int (2 : Int32)), .val (.int (4 : Int32)), .val (.int (1 : Int32)), .unset, .unset, .unset, .unset, .unset] [(.int (1 : Int32)), (.int p2)])) _
  refine XS.iand X2.here hx rfl (hb hby at_35) rfl ?_
  show Steps p.tables e below (T2.setTop (mkF m 36 #[.val (.int p1), .val (.int p2), .val (.int p3), .val (.ref co), .val (.int (2 : Int32)), .val (.int (4 : Int32)), .val (.int (1 : Int32)), .unset, .unset, .unset, .unset, .unset] [(.int (p2 &&& (1 : Int32)))])) _
  refine XS.istore X2.here hx rfl (hb hby at_36) rfl (l' := #[.val (.int p1), .val (.int p2), .val (.int p3), .val (.ref co), .val (.int (2 : Int32)), .val (.int (4 : Int32)), .val (.int (1 : Int32)), .val (.int (p2 &&& (1 : Int32))), .unset, .unset, .unset, .unset]) rfl ?_
  show Steps p.tables e below (T2.setTop (mkF m 38 #[.val (.int p1), .val (.int p2), .val (.int p3), .val (.ref co), .val (.int (2 : Int32)), .val (.int (4 : Int32)), .val (.int (1 : Int32)), .val (.int (p2 &&& (1 : Int32))), .unset, .unset, .unset, .unset] [])) _
  refine XS.iloadN X2.here hx rfl (hb hby at_38) rfl ?_
  show Steps p.tables e below (T2.setTop (mkF m 39 #[.val (.int p1), .val (.int p2), .val (.int p3), .val (.ref co), .val (.int (2 : Int32)), .val (.int (4 : Int32)), .val (.int (1 : Int32)), .val (.int (p2 &&& (1 : Int32))), .unset, .unset, .unset, .unset] [(.int p2)])) _
  refine XS.iconst X2.here hx rfl (hb hby at_39) ?_
  show Steps p.tables e below (T2.setTop (mkF m 40 #[.val (.int p1), .val (.int p2), .val (.int p3), .val (.ref co), .val (.int (2 : Int32)), .val (.int (4 : Int32)), .val (.int (1 : Int32)), .val (.int (p2 &&& (1 : Int32))), .unset, .unset, .unset, .unset] [(.int (1 : Int32)), (.int p2)])) _
  refine XS.ishr X2.here hx rfl (hb hby at_40) rfl ?_
  show Steps p.tables e below (T2.setTop (mkF m 41 #[.val (.int p1), .val (.int p2), .val (.int p3), .val (.ref co), .val (.int (2 : Int32)), .val (.int (4 : Int32)), .val (.int (1 : Int32)), .val (.int (p2 &&& (1 : Int32))), .unset, .unset, .unset, .unset] [(.int (p2 >>> ((1 : Int32) &&& 31)))])) _
  refine XS.iconst X2.here hx rfl (hb hby at_41) ?_
  show Steps p.tables e below (T2.setTop (mkF m 42 #[.val (.int p1), .val (.int p2), .val (.int p3), .val (.ref co), .val (.int (2 : Int32)), .val (.int (4 : Int32)), .val (.int (1 : Int32)), .val (.int (p2 &&& (1 : Int32))), .unset, .unset, .unset, .unset] [(.int (1 : Int32)), (.int (p2 >>> ((1 : Int32) &&& 31)))])) _
  refine XS.iand X2.here hx rfl (hb hby at_42) rfl ?_
  show Steps p.tables e below (T2.setTop (mkF m 43 #[.val (.int p1), .val (.int p2), .val (.int p3), .val (.ref co), .val (.int (2 : Int32)), .val (.int (4 : Int32)), .val (.int (1 : Int32)), .val (.int (p2 &&& (1 : Int32))), .unset, .unset, .unset, .unset] [(.int ((p2 >>> ((1 : Int32) &&& 31)) &&& (1 : Int32)))])) _
  refine XS.istore X2.here hx rfl (hb hby at_43) rfl (l' := #[.val (.int p1), .val (.int p2), .val (.int p3), .val (.ref co), .val (.int (2 : Int32)), .val (.int (4 : Int32)), .val (.int (1 : Int32)), .val (.int (p2 &&& (1 : Int32))), .val (.int ((p2 >>> ((1 : Int32) &&& 31)) &&& (1 : Int32))), .unset, .unset, .unset]) rfl ?_
  show Steps p.tables e below (T2.setTop (mkF m 45 #[.val (.int p1), .val (.int p2), .val (.int p3), .val (.ref co), .val (.int (2 : Int32)), .val (.int (4 : Int32)), .val (.int (1 : Int32)), .val (.int (p2 &&& (1 : Int32))), .val (.int ((p2 >>> ((1 : Int32) &&& 31)) &&& (1 : Int32))), .unset, .unset, .unset] [])) _
  refine XS.iload X2.here hx rfl (hb hby at_45) rfl ?_
  show Steps p.tables e below (T2.setTop (mkF m 47 #[.val (.int p1), .val (.int p2), .val (.int p3), .val (.ref co), .val (.int (2 : Int32)), .val (.int (4 : Int32)), .val (.int (1 : Int32)), .val (.int (p2 &&& (1 : Int32))), .val (.int ((p2 >>> ((1 : Int32) &&& 31)) &&& (1 : Int32))), .unset, .unset, .unset] [(.int (1 : Int32))])) _
  refine XS.ifNo X2.here hx rfl (hb hby at_47) rfl ((if0 _ _).trans (feq (by decide : ¬ ((1 : Int32) = (0 : Int32)))).1) ?_
  show Steps p.tables e below (T2.setTop (mkF m 50 #[.val (.int p1), .val (.int p2), .val (.int p3), .val (.ref co), .val (.int (2 : Int32)), .val (.int (4 : Int32)), .val (.int (1 : Int32)), .val (.int (p2 &&& (1 : Int32))), .val (.int ((p2 >>> ((1 : Int32) &&& 31)) &&& (1 : Int32))), .unset, .unset, .unset] [])) _
  refine XS.aloadN X2.here hx rfl (hb hby at_50) rfl rfl ?_
  show Steps p.tables e below (T2.setTop (mkF m 51 #[.val (.int p1), .val (.int p2), .val (.int p3), .val (.ref co), .val (.int (2 : Int32)), .val (.int (4 : Int32)), .val (.int (1 : Int32)), .val (.int (p2 &&& (1 : Int32))), .val (.int ((p2 >>> ((1 : Int32) &&& 31)) &&& (1 : Int32))), .unset, .unset, .unset] [(.ref co)])) _
  refine XS.iload X2.here hx rfl (hb hby at_51) rfl ?_
  show Steps p.tables e below (T2.setTop (mkF m 53 #[.val (.int p1), .val (.int p2), .val (.int p3), .val (.ref co), .val (.int (2 : Int32)), .val (.int (4 : Int32)), .val (.int (1 : Int32)), .val (.int (p2 &&& (1 : Int32))), .val (.int ((p2 >>> ((1 : Int32) &&& 31)) &&& (1 : Int32))), .unset, .unset, .unset] [(.int (2 : Int32)), (.ref co)])) _
  refine XS.iload X2.here hx rfl (hb hby at_53) rfl ?_
  show Steps p.tables e below (T2.setTop (mkF m 55 #[.val (.int p1), .val (.int p2), .val (.int p3), .val (.ref co), .val (.int (2 : Int32)), .val (.int (4 : Int32)), .val (.int (1 : Int32)), .val (.int (p2 &&& (1 : Int32))), .val (.int ((p2 >>> ((1 : Int32) &&& 31)) &&& (1 : Int32))), .unset, .unset, .unset] [(.int (p2 &&& (1 : Int32))), (.int (2 : Int32)), (.ref co)])) _
  refine XS.ixor X2.here hx rfl (hb hby at_55) rfl ?_
  show Steps p.tables e below (T2.setTop (mkF m 56 #[.val (.int p1), .val (.int p2), .val (.int p3), .val (.ref co), .val (.int (2 : Int32)), .val (.int (4 : Int32)), .val (.int (1 : Int32)), .val (.int (p2 &&& (1 : Int32))), .val (.int ((p2 >>> ((1 : Int32) &&& 31)) &&& (1 : Int32))), .unset, .unset, .unset] [(.int ((2 : Int32) ^^^ (p2 &&& (1 : Int32)))), (.ref co)])) _
  refine XS.iload X2.here hx rfl (hb hby at_56) rfl ?_
  show Steps p.tables e below (T2.setTop (mkF m 58 #[.val (.int p1), .val (.int p2), .val (.int p3), .val (.ref co), .val (.int (2 : Int32)), .val (.int (4 : Int32)), .val (.int (1 : Int32)), .val (.int (p2 &&& (1 : Int32))), .val (.int ((p2 >>> ((1 : Int32) &&& 31)) &&& (1 : Int32))), .unset, .unset, .unset] [(.int (4 : Int32)), (.int ((2 : Int32) ^^^ (p2 &&& (1 : Int32)))), (.ref co)])) _
  refine XS.iload X2.here hx rfl (hb hby at_58) rfl ?_
  show Steps p.tables e below (T2.setTop (mkF m 60 #[.val (.int p1), .val (.int p2), .val (.int p3), .val (.ref co), .val (.int (2 : Int32)), .val (.int (4 : Int32)), .val (.int (1 : Int32)), .val (.int (p2 &&& (1 : Int32))), .val (.int ((p2 >>> ((1 : Int32) &&& 31)) &&& (1 : Int32))), .unset, .unset, .unset] [(.int ((p2 >>> ((1 : Int32) &&& 31)) &&& (1 : Int32))), (.int (4 : Int32)), (.int ((2 : Int32) ^^^ (p2 &&& (1 : Int32)))), (.ref co)])) _
  refine XS.ixor X2.here hx rfl (hb hby at_60) rfl ?_
  show Steps p.tables e below (T2.setTop (mkF m 61 #[.val (.int p1), .val (.int p2), .val (.int p3), .val (.ref co), .val (.int (2 : Int32)), .val (.int (4 : Int32)), .val (.int (1 : Int32)), .val (.int (p2 &&& (1 : Int32))), .val (.int ((p2 >>> ((1 : Int32) &&& 31)) &&& (1 : Int32))), .unset, .unset, .unset] [(.int ((4 : Int32) ^^^ ((p2 >>> ((1 : Int32) &&& 31)) &&& (1 : Int32)))), (.int ((2 : Int32) ^^^ (p2 &&& (1 : Int32)))), (.ref co)])) _
  exact kt
set_option maxRecDepth 65536 in
set_option maxHeartbeats 4000000 in
theorem cAnd1 {p : Program} {l : Launch} {e : Env} {s : State} {m : MethodId} {args : Array Value} {below : List Frame} {meth : Method} {c : Code} {T0 : State} {locs : List Loc} {cells slots : Nat} {Z : State} {a0 : Array Value} {h0 : Heap} {Ls : Array Slot} (ob : Addr) (x0 : Int32) (x1 : Int32)
    (X0 : Stand p l e room_1 s m args below meth c T0 locs cells slots) (hx : p.tables.exec = Jvm.exec) (hZ : Z.Warmed39 s.vm) (hw : ∀ d ∈ tables_1, d.before a0 Z = true) (hby : c.code = code) (hml : c.maxLocals = 12) (hown : s.vm.findClass "com/example/minos/minos/analysis/CircuitIsGatePinLaw" = some m.cls) (e0 : T0.heap = h0) (hsz : Ls.size = 12) (ER : Exa Z h0 ob "com/example/minos/minos/analysis/Circuit") {rm : Room} {Q : Option Value → Heap → List Loc → Prop}
    (M : MetFree l (⟨"com/example/minos/minos/analysis/Circuit", "and", "(II)I"⟩ : MethodName) (head1 [Jvm.Cond.code (⟨"com/example/minos/minos/analysis/Circuit", "and", "(II)I"⟩ : MethodName) prog_12_method_5_code 6 (some .int)] rm) (fun a U => a = #[(.ref ob), (.int x0), (.int x1)] ∧ Z.Warmed39 U.vm ∧ U.heap = h0) (fun _ _ _ _ _ => True) (fun _ U o U' => ∃ v L, o = .returned v ∧ Q v U'.heap L ∧ FrameEnd U o U' L rm.cells rm.slots)) (hfr : rm.frames + 1 ≤ room_1.frames) (hlo : 0 + (6 + 11) + rm.locals ≤ room_1.locals) (hce : cells + rm.cells ≤ room_1.cells) (hsl : slots + rm.slots ≤ room_1.slots) :
    ∃ (T' : State) (v : Option Value) (L : List Loc), Stand p l e room_1 s m args below meth c T' (locs ++ L) (cells + rm.cells) (slots + rm.slots) ∧ Q v T'.heap L ∧ ∀ t, Steps p.tables e below (T'.setTop (mkF m 64 Ls (v.toList ++ []))) t → Steps p.tables e below (T0.setTop (mkF m 61 Ls [(.int x1), (.int x0), (.ref ob)])) t := by
  obtain ⟨cq, kq, qa, qb, qc⟩ := isOf hZ e0 ER
  obtain ⟨v, _, ⟨T1, L1, k1, n1⟩, -, X1, ⟨Lc, hQ, l1, y1, z1⟩, st⟩ := X0.virtualBack hx (y := (⟨"com/example/minos/minos/analysis/Circuit", "and", "(II)I"⟩ : MethodName)) (z := (⟨"com/example/minos/minos/analysis/Circuit", "and", "(II)I"⟩ : MethodName)) hown (mvT hZ (hw _ (List.mem_of_getElem? (i := 43) rfl))) (mvT hZ (hw _ (List.mem_of_getElem? (i := 44) rfl))) (notFace_of_selects (args := #[]) (mvT hZ (hw _ (List.mem_of_getElem? (i := 46) rfl)))) (mvT hZ (hw _ (List.mem_of_getElem? (i := 46) rfl))) (mvT hZ (hw _ (List.mem_of_getElem? (i := 45) rfl))) (by decide) (backOf (W := 0) M hZ (hw _ (List.mem_of_getElem? (i := 47) rfl)) (hw _ (List.mem_of_getElem? (i := 2) rfl)) hfr hlo) qa qc (g := (mkF m 61 Ls [(.int x1), (.int x0), (.ref ob)])) rfl (by rw [hml]; exact hsz) (Steps.refl _) (argsL := [(.int x0), (.int x1)]) (rest := []) (lenOf pd70 rfl) rfl (by show 2 * 0 + _ ≤ _; exact Nat.le_of_eq rfl) (hb hby at_61) (fun _ _ => ⟨rfl, e0, hce, hsl⟩)
  dsimp only [Pt.U, Pt.locs, Pt.cells, Pt.slots] at X1 l1 y1 z1 st hQ
  subst l1 y1 z1
  exact ⟨T1, v, Lc, X1, hQ, fun t kt => st.trans kt⟩
def Q6_34 (Z : State) (ob0 : Addr) (ob1 : Addr) (ob2 : Addr) (ob3 : Addr) (k_ob1 : ClassId) (k_ob2 : ClassId) (h0 : Heap) (n0 : Nat) (v : Option Value) (h : Heap) (L : List Loc) : Prop := v = some (.int (3 : Int32)) ∧ Fr n0 L ∧ Keep h0 h [ob1, ob2, ob0] ∧ Old Z n0 h ∧ Arv Z h ob1 k_ob1 .int (1024 : Int32) [(.int (0 : Int32)), (.int (-1 : Int32)), (.int (-1 : Int32)), (.int (-1 : Int32)), (.int (0 : Int32)), (.int (0 : Int32))] (.int (0 : Int32)) ∧ Arv Z h ob2 k_ob2 .int (1024 : Int32) [(.int (0 : Int32)), (.int (-1 : Int32)), (.int (-1 : Int32)), (.int (-1 : Int32)), (.int (0 : Int32)), (.int (0 : Int32))] (.int (0 : Int32)) ∧ Exa Z h ob0 "com/example/minos/minos/analysis/Circuit" ∧ Fld Z h ob0 "com/example/minos/minos/analysis/Circuit" "first" "[I" (.ref ob1) ∧ Fld Z h ob0 "com/example/minos/minos/analysis/Circuit" "second" "[I" (.ref ob2) ∧ Fld Z h ob0 "com/example/minos/minos/analysis/Circuit" "nodes" "I" (.int (4 : Int32)) ∧ Fld Z h ob0 "com/example/minos/minos/analysis/Circuit" "gates" "Ljava/util/Map;" (.ref ob3) ∧ True
set_option maxRecDepth 65536 in
set_option maxHeartbeats 40000000 in
theorem rm6_34 (l : Launch) (Z : State) (a0 : Array Value) (hw : ∀ d ∈ tables_1, d.before a0 Z = true) (ws : List Jvm.Cond) (ob0 : Addr) (ob1 : Addr) (ob2 : Addr) (ob3 : Addr) (k_ob1 : ClassId) (k_ob2 : ClassId) (h0 : Heap) (n0 : Nat) (Z0 : n0 ≤ h0.size) (O0 : Old Z n0 h0) (PE_ob0 : Exa Z h0 ob0 "com/example/minos/minos/analysis/Circuit") (PF_ob0_first : Fld Z h0 ob0 "com/example/minos/minos/analysis/Circuit" "first" "[I" (.ref ob1)) (PF_ob0_second : Fld Z h0 ob0 "com/example/minos/minos/analysis/Circuit" "second" "[I" (.ref ob2)) (PF_ob0_nodes : Fld Z h0 ob0 "com/example/minos/minos/analysis/Circuit" "nodes" "I" (.int (3 : Int32))) (PF_ob0_gates : Fld Z h0 ob0 "com/example/minos/minos/analysis/Circuit" "gates" "Ljava/util/Map;" (.ref ob3)) (PV_ob1 : Arv Z h0 ob1 k_ob1 .int (1024 : Int32) [(.int (0 : Int32)), (.int (-1 : Int32)), (.int (-1 : Int32)), (.int (0 : Int32)), (.int (0 : Int32)), (.int (0 : Int32))] (.int (0 : Int32))) (PV_ob2 : Arv Z h0 ob2 k_ob2 .int (1024 : Int32) [(.int (0 : Int32)), (.int (-1 : Int32)), (.int (-1 : Int32)), (.int (0 : Int32)), (.int (0 : Int32)), (.int (0 : Int32))] (.int (0 : Int32))) (ne_ob0_ob1 : ob0 ≠ ob1) (ne_ob1_ob2 : ob1 ≠ ob2) (ne_ob0_ob2 : ob0 ≠ ob2) (g_ob1 : n0 ≤ ob1) (g_ob2 : n0 ≤ ob2) (g_ob0 : n0 ≤ ob0) :
    MetFree l (⟨"com/example/minos/minos/analysis/Circuit", "add", "(II)I"⟩ : MethodName) (head1 (Jvm.Cond.code (⟨"com/example/minos/minos/analysis/Circuit", "add", "(II)I"⟩ : MethodName) prog_12_method_14_code 3 (some .int) :: ws) ({ frames := 0, cells := 0, slots := 0, locals := 0 } : Room)) (fun a U => a = #[(.ref ob0), (.int (-1 : Int32)), (.int (-1 : Int32))] ∧ Z.Warmed39 U.vm ∧ U.heap = h0) (fun _ _ _ _ _ => True) (fun _ U o U' => ∃ v L, o = .returned v ∧ Q6_34 Z  ob0 ob1 ob2 ob3 k_ob1 k_ob2 h0 n0 v U'.heap L ∧ FrameEnd U o U' L ({ frames := 0, cells := 0, slots := 0, locals := 0 } : Room).cells ({ frames := 0, cells := 0, slots := 0, locals := 0 } : Room).slots) := by
  refine MetFree.of_bodySF (plainFor_of_name pn37) hisR ?_
  intro p e s m args below meth c s₁ Bd hml0 hP hK
  obtain ⟨rfl, hZ, hh⟩ := hP
  have hx := Bd.exec
  have hby := Bd.bytes
  have hml : c.maxLocals = 3 := hml0
  have hown : s.vm.findClass "com/example/minos/minos/analysis/Circuit" = some m.cls := findClass_of_methodNamed Bd.named
  have hnm := (name_of_methodNamed Bd.named Bd.method).1
  have X0 : Stand p l e ({ frames := 0, cells := 0, slots := 0, locals := 0 } : Room) s m #[(.ref ob0), (.int (-1 : Int32)), (.int (-1 : Int32))] below meth c s₁ [] 0 0 := Stand.of_body Bd
  have e0 : s₁.heap = h0 := by rw [← hh, Bd.state]; rfl
  have N0 := Fr.nil n0
  have pre0 : ∀ t, Steps p.tables e below (s₁.setTop (mkF m 0 #[.val (.ref ob0), .val (.int (-1 : Int32)), .val (.int (-1 : Int32))] [])) t → Steps p.tables e below (s₁.setTop (entryFrame m #[(.ref ob0), (.int (-1 : Int32)), (.int (-1 : Int32))] 3)) t := fun t k => castTop (ef69 m ob0 (-1 : Int32) (-1 : Int32)) k
  obtain ⟨T1, X1, e1, st1⟩ := getF X0 hx hZ hown (host := "") (Or.inl (hw _ (List.mem_of_getElem? (i := 14) rfl))) Via.refl e0 PF_ob0_nodes (g := (mkF m 1 #[.val (.ref ob0), .val (.int (-1 : Int32)), .val (.int (-1 : Int32))] [(.ref ob0)])) rfl rfl (hb hby d6_1)
  obtain ⟨T2, X2, e2, st2⟩ := getF X1 hx hZ hown (host := "") (Or.inl (hw _ (List.mem_of_getElem? (i := 10) rfl))) Via.refl e1 PF_ob0_first (g := (mkF m 5 #[.val (.ref ob0), .val (.int (-1 : Int32)), .val (.int (-1 : Int32))] [(.ref ob0), (.int (3 : Int32))])) rfl rfl (hb hby d6_5)
  obtain ⟨ac3, aA3, aq3, aS3, aN3, aH3, aG3⟩ := id PV_ob1
  obtain ⟨T4, X4, e4, st4⟩ := getF X2 hx hZ hown (host := "") (Or.inl (hw _ (List.mem_of_getElem? (i := 10) rfl))) Via.refl e2 PF_ob0_first (g := (mkF m 47 #[.val (.ref ob0), .val (.int (-1 : Int32)), .val (.int (-1 : Int32))] [(.ref ob0)])) rfl rfl (hb hby d6_47)
  obtain ⟨T5, X5, e5, st5⟩ := getF X4 hx hZ hown (host := "") (Or.inl (hw _ (List.mem_of_getElem? (i := 14) rfl))) Via.refl e4 PF_ob0_nodes (g := (mkF m 51 #[.val (.ref ob0), .val (.int (-1 : Int32)), .val (.int (-1 : Int32))] [(.ref ob0), (.ref ob1)])) rfl rfl (hb hby d6_51)
  obtain ⟨ac6, aA6, aq6, aS6, aN6, aH6, aG6⟩ := id PV_ob1
  obtain ⟨T7, h7, X7, e7, W7, st7⟩ := stI X5 hx hZ e5 aA6 (j := (3 : Int32)) (inb_of aS6 ⟨by decide, by decide⟩) (g := (mkF m 55 #[.val (.ref ob0), .val (.int (-1 : Int32)), .val (.int (-1 : Int32))] [(.int (-1 : Int32)), (.int (3 : Int32)), (.ref ob1)])) rfl rfl (hb hby d6_55)
  have V_ob1_7 : Arv Z h7 ob1 k_ob1 .int (1024 : Int32) [(.int (0 : Int32)), (.int (-1 : Int32)), (.int (-1 : Int32)), (.int (-1 : Int32)), (.int (0 : Int32)), (.int (0 : Int32))] (.int (0 : Int32)) := Arv.set aA6 aq6 aS6 aN6 aH6 aG6 rfl W7 3 rfl (Nat.le_of_ble_eq_true rfl)
  have N7 := Fr.snoc X7 N0 g_ob1
  have O7 := O0.wr W7 g_ob1
  have KK7 : Keep h0 h7 [ob1, ob2, ob0] := (Keep.refl h0 [ob1, ob2, ob0]).wr W7 (Or.inl (List.mem_of_getElem? (i := 0) rfl))
  obtain ⟨T8, X8, e8, st8⟩ := getF X7 hx hZ hown (host := "") (Or.inl (hw _ (List.mem_of_getElem? (i := 12) rfl))) Via.refl e7 (PF_ob0_second.other W7 (Or.inl ne_ob0_ob1)) (g := (mkF m 57 #[.val (.ref ob0), .val (.int (-1 : Int32)), .val (.int (-1 : Int32))] [(.ref ob0)])) rfl rfl (hb hby d6_57)
  obtain ⟨T9, X9, e9, st9⟩ := getF X8 hx hZ hown (host := "") (Or.inl (hw _ (List.mem_of_getElem? (i := 14) rfl))) Via.refl e8 (PF_ob0_nodes.other W7 (Or.inl ne_ob0_ob1)) (g := (mkF m 61 #[.val (.ref ob0), .val (.int (-1 : Int32)), .val (.int (-1 : Int32))] [(.ref ob0), (.ref ob2)])) rfl rfl (hb hby d6_61)
  obtain ⟨ac10, aA10, aq10, aS10, aN10, aH10, aG10⟩ := id (PV_ob2.other W7 (Ne.symm ne_ob1_ob2))
  obtain ⟨T11, h11, X11, e11, W11, st11⟩ := stI X9 hx hZ e9 aA10 (j := (3 : Int32)) (inb_of aS10 ⟨by decide, by decide⟩) (g := (mkF m 65 #[.val (.ref ob0), .val (.int (-1 : Int32)), .val (.int (-1 : Int32))] [(.int (-1 : Int32)), (.int (3 : Int32)), (.ref ob2)])) rfl rfl (hb hby d6_65)
  have V_ob2_11 : Arv Z h11 ob2 k_ob2 .int (1024 : Int32) [(.int (0 : Int32)), (.int (-1 : Int32)), (.int (-1 : Int32)), (.int (-1 : Int32)), (.int (0 : Int32)), (.int (0 : Int32))] (.int (0 : Int32)) := Arv.set aA10 aq10 aS10 aN10 aH10 aG10 rfl W11 3 rfl (Nat.le_of_ble_eq_true rfl)
  have N11 := Fr.snoc X11 N7 g_ob2
  have O11 := O7.wr W11 g_ob2
  have KK11 : Keep h0 h11 [ob1, ob2, ob0] := KK7.wr W11 (Or.inl (List.mem_of_getElem? (i := 1) rfl))
  obtain ⟨T12, X12, e12, st12⟩ := getF X11 hx hZ hown (host := "") (Or.inl (hw _ (List.mem_of_getElem? (i := 14) rfl))) Via.refl e11 ((PF_ob0_nodes.other W7 (Or.inl ne_ob0_ob1)).other W11 (Or.inl ne_ob0_ob2)) (g := (mkF m 68 #[.val (.ref ob0), .val (.int (-1 : Int32)), .val (.int (-1 : Int32))] [(.ref ob0), (.ref ob0)])) rfl rfl (hb hby d6_68)
  obtain ⟨T13, h13, X13, e13, W13, st13⟩ := putF X12 hx hZ hown (host := "") (Or.inl (hw _ (List.mem_of_getElem? (i := 14) rfl))) Via.refl e12 ((PF_ob0_nodes.other W7 (Or.inl ne_ob0_ob1)).other W11 (Or.inl ne_ob0_ob2)) ((PE_ob0.wr W7).wr W11) (Or.inl (hw _ (List.mem_of_getElem? (i := 15) rfl))) (hw _ (List.mem_of_getElem? (i := 1) rfl)) (ty := .int) (by decide) rfl rfl (g := (mkF m 74 #[.val (.ref ob0), .val (.int (-1 : Int32)), .val (.int (-1 : Int32))] [(.int (4 : Int32)), (.ref ob0), (.int (3 : Int32))])) rfl rfl (hb hby d6_74)
  have Fw13 := ((PF_ob0_nodes.other W7 (Or.inl ne_ob0_ob1)).other W11 (Or.inl ne_ob0_ob2)).same W13
  have N13 := Fr.snoc X13 N11 g_ob0
  have O13 := O11.wr W13 g_ob0
  have KK13 : Keep h0 h13 [ob1, ob2, ob0] := KK11.wr W13 (Or.inl (List.mem_of_getElem? (i := 2) rfl))
  have J14 := (((PE_ob0.wr W7).wr W11).wr W13)
  have J15 := (((PF_ob0_first.other W7 (Or.inl ne_ob0_ob1)).other W11 (Or.inl ne_ob0_ob2)).other W13 (Or.inr (slot_ne (Or.inl (hw _ (List.mem_of_getElem? (i := 11) rfl))) (Or.inl (hw _ (List.mem_of_getElem? (i := 15) rfl))) (by decide) (t := (.array .int)) (t' := .int) (by decide) (by decide))))
  have J16 := (((PF_ob0_second.other W7 (Or.inl ne_ob0_ob1)).other W11 (Or.inl ne_ob0_ob2)).other W13 (Or.inr (slot_ne (Or.inl (hw _ (List.mem_of_getElem? (i := 13) rfl))) (Or.inl (hw _ (List.mem_of_getElem? (i := 15) rfl))) (by decide) (t := (.array .int)) (t' := .int) (by decide) (by decide))))
  have J17 := (((PF_ob0_gates.other W7 (Or.inl ne_ob0_ob1)).other W11 (Or.inl ne_ob0_ob2)).other W13 (Or.inr (slot_ne (Or.inr (hw _ (List.mem_of_getElem? (i := 33) rfl))) (Or.inl (hw _ (List.mem_of_getElem? (i := 15) rfl))) (by decide) (t := (.object "java/util/Map")) (t' := .int) (by decide) (by decide))))
  obtain ⟨fs, hr, hrun, hended, hW, hsame⟩ := X13.leave (v := some (.int (3 : Int32))) (fun h => by rw [Bd.returns] at h; cases h)
  refine ⟨_, _, pre0 _ ?_, hrun, hended, _, _, rfl, ?_, ⟨_, rfl⟩, hW, hsame.mono (by decide) (by decide)⟩
  · show Steps p.tables e below (s₁.setTop (mkF m 0 #[.val (.ref ob0), .val (.int (-1 : Int32)), .val (.int (-1 : Int32))] [])) _
    refine XS.aloadN X0.here hx rfl (hb hby d6_0) rfl rfl ?_
    show Steps p.tables e below (s₁.setTop (mkF m 1 #[.val (.ref ob0), .val (.int (-1 : Int32)), .val (.int (-1 : Int32))] [(.ref ob0)])) _
    refine st1 _ ?_
    show Steps p.tables e below (T1.setTop (mkF m 4 #[.val (.ref ob0), .val (.int (-1 : Int32)), .val (.int (-1 : Int32))] [(.int (3 : Int32))])) _
    refine XS.aloadN X1.here hx rfl (hb hby d6_4) rfl rfl ?_
    show Steps p.tables e below (T1.setTop (mkF m 5 #[.val (.ref ob0), .val (.int (-1 : Int32)), .val (.int (-1 : Int32))] [(.ref ob0), (.int (3 : Int32))])) _
    refine st2 _ ?_
    show Steps p.tables e below (T2.setTop (mkF m 8 #[.val (.ref ob0), .val (.int (-1 : Int32)), .val (.int (-1 : Int32))] [(.ref ob1), (.int (3 : Int32))])) _
    refine X2.arraylength hx (by rw [e2]; exact aA3.1) (State.isArrayOf_alike hZ.alike aA3.2.1) (g := (mkF m 8 #[.val (.ref ob0), .val (.int (-1 : Int32)), .val (.int (-1 : Int32))] [(.ref ob1), (.int (3 : Int32))])) rfl rfl (hb hby d6_8) _ ?_
    rw [len_of aS3 aN3]
    show Steps p.tables e below (T2.setTop (mkF m 9 #[.val (.ref ob0), .val (.int (-1 : Int32)), .val (.int (-1 : Int32))] [(.int (1024 : Int32)), (.int (3 : Int32))])) _
    refine XS.icmpYes X2.here hx rfl (pc0 := 9) (pc' := 46) rfl (hb hby d6_9) rfl (feq (by decide : ¬ ((3 : Int32) = (1024 : Int32)))).2 (by decide) (by decide) ?_
    show Steps p.tables e below (T2.setTop (mkF m 46 #[.val (.ref ob0), .val (.int (-1 : Int32)), .val (.int (-1 : Int32))] [])) _
    refine XS.aloadN X2.here hx rfl (hb hby d6_46) rfl rfl ?_
    show Steps p.tables e below (T2.setTop (mkF m 47 #[.val (.ref ob0), .val (.int (-1 : Int32)), .val (.int (-1 : Int32))] [(.ref ob0)])) _
    refine st4 _ ?_
    show Steps p.tables e below (T4.setTop (mkF m 50 #[.val (.ref ob0), .val (.int (-1 : Int32)), .val (.int (-1 : Int32))] [(.ref ob1)])) _
    refine XS.aloadN X4.here hx rfl (hb hby d6_50) rfl rfl ?_
    show Steps p.tables e below (T4.setTop (mkF m 51 #[.val (.ref ob0), .val (.int (-1 : Int32)), .val (.int (-1 : Int32))] [(.ref ob0), (.ref ob1)])) _
    refine st5 _ ?_
    show Steps p.tables e below (T5.setTop (mkF m 54 #[.val (.ref ob0), .val (.int (-1 : Int32)), .val (.int (-1 : Int32))] [(.int (3 : Int32)), (.ref ob1)])) _
    refine XS.iloadN X5.here hx rfl (hb hby d6_54) rfl ?_
    show Steps p.tables e below (T5.setTop (mkF m 55 #[.val (.ref ob0), .val (.int (-1 : Int32)), .val (.int (-1 : Int32))] [(.int (-1 : Int32)), (.int (3 : Int32)), (.ref ob1)])) _
    refine st7 _ ?_
    show Steps p.tables e below (T7.setTop (mkF m 56 #[.val (.ref ob0), .val (.int (-1 : Int32)), .val (.int (-1 : Int32))] [])) _
    refine XS.aloadN X7.here hx rfl (hb hby d6_56) rfl rfl ?_
    show Steps p.tables e below (T7.setTop (mkF m 57 #[.val (.ref ob0), .val (.int (-1 : Int32)), .val (.int (-1 : Int32))] [(.ref ob0)])) _
    refine st8 _ ?_
    show Steps p.tables e below (T8.setTop (mkF m 60 #[.val (.ref ob0), .val (.int (-1 : Int32)), .val (.int (-1 : Int32))] [(.ref ob2)])) _
    refine XS.aloadN X8.here hx rfl (hb hby d6_60) rfl rfl ?_
    show Steps p.tables e below (T8.setTop (mkF m 61 #[.val (.ref ob0), .val (.int (-1 : Int32)), .val (.int (-1 : Int32))] [(.ref ob0), (.ref ob2)])) _
    refine st9 _ ?_
    show Steps p.tables e below (T9.setTop (mkF m 64 #[.val (.ref ob0), .val (.int (-1 : Int32)), .val (.int (-1 : Int32))] [(.int (3 : Int32)), (.ref ob2)])) _
    refine XS.iloadN X9.here hx rfl (hb hby d6_64) rfl ?_
    show Steps p.tables e below (T9.setTop (mkF m 65 #[.val (.ref ob0), .val (.int (-1 : Int32)), .val (.int (-1 : Int32))] [(.int (-1 : Int32)), (.int (3 : Int32)), (.ref ob2)])) _
    refine st11 _ ?_
    show Steps p.tables e below (T11.setTop (mkF m 66 #[.val (.ref ob0), .val (.int (-1 : Int32)), .val (.int (-1 : Int32))] [])) _
    refine XS.aloadN X11.here hx rfl (hb hby d6_66) rfl rfl ?_
    show Steps p.tables e below (T11.setTop (mkF m 67 #[.val (.ref ob0), .val (.int (-1 : Int32)), .val (.int (-1 : Int32))] [(.ref ob0)])) _
    refine XS.dup X11.here hx rfl (hb hby d6_67) rfl rfl ?_
    show Steps p.tables e below (T11.setTop (mkF m 68 #[.val (.ref ob0), .val (.int (-1 : Int32)), .val (.int (-1 : Int32))] [(.ref ob0), (.ref ob0)])) _
    refine st12 _ ?_
    show Steps p.tables e below (T12.setTop (mkF m 71 #[.val (.ref ob0), .val (.int (-1 : Int32)), .val (.int (-1 : Int32))] [(.int (3 : Int32)), (.ref ob0)])) _
    refine XS.dupX1 X12.here hx rfl (hb hby d6_71) rfl rfl rfl ?_
    show Steps p.tables e below (T12.setTop (mkF m 72 #[.val (.ref ob0), .val (.int (-1 : Int32)), .val (.int (-1 : Int32))] [(.int (3 : Int32)), (.ref ob0), (.int (3 : Int32))])) _
    refine XS.iconst X12.here hx rfl (hb hby d6_72) ?_
    show Steps p.tables e below (T12.setTop (mkF m 73 #[.val (.ref ob0), .val (.int (-1 : Int32)), .val (.int (-1 : Int32))] [(.int (1 : Int32)), (.int (3 : Int32)), (.ref ob0), (.int (3 : Int32))])) _
    refine XS.iadd X12.here hx rfl (hb hby d6_73) rfl ?_
    rw [show ((3 : Int32) + (1 : Int32)) = (4 : Int32) from by decide]
    show Steps p.tables e below (T12.setTop (mkF m 74 #[.val (.ref ob0), .val (.int (-1 : Int32)), .val (.int (-1 : Int32))] [(.int (4 : Int32)), (.ref ob0), (.int (3 : Int32))])) _
    refine st13 _ ?_
    show Steps p.tables e below (T13.setTop (mkF m 77 #[.val (.ref ob0), .val (.int (-1 : Int32)), .val (.int (-1 : Int32))] [(.int (3 : Int32))])) _
    exact Jvm.RoadKit.retI X13 hx Bd.returns (hb hby d6_77) hr
  · have eH : (T13.setFrames fs).heap = h13 := e13; rw [eH]; exact ⟨rfl, N13, KK13, O13, ((V_ob1_7.other W11 ne_ob1_ob2).other W13 (Ne.symm ne_ob0_ob1)), (V_ob2_11.other W13 (Ne.symm ne_ob0_ob2)), J14, J15, J16, Fw13, J17, trivial⟩
def Q5_35 (Z : State) (ob0 : Addr) (ob1 : Addr) (ob2 : Addr) (ob3 : Addr) (k_ob1 : ClassId) (k_ob2 : ClassId) (h0 : Heap) (n0 : Nat) (v : Option Value) (h : Heap) (L : List Loc) : Prop := v = some (.int (6 : Int32)) ∧ Fr n0 L ∧ Keep h0 h [ob1, ob2, ob0] ∧ Old Z n0 h ∧ Arv Z h ob1 k_ob1 .int (1024 : Int32) [(.int (0 : Int32)), (.int (-1 : Int32)), (.int (-1 : Int32)), (.int (-1 : Int32)), (.int (0 : Int32)), (.int (0 : Int32))] (.int (0 : Int32)) ∧ Arv Z h ob2 k_ob2 .int (1024 : Int32) [(.int (0 : Int32)), (.int (-1 : Int32)), (.int (-1 : Int32)), (.int (-1 : Int32)), (.int (0 : Int32)), (.int (0 : Int32))] (.int (0 : Int32)) ∧ Exa Z h ob0 "com/example/minos/minos/analysis/Circuit" ∧ Fld Z h ob0 "com/example/minos/minos/analysis/Circuit" "first" "[I" (.ref ob1) ∧ Fld Z h ob0 "com/example/minos/minos/analysis/Circuit" "second" "[I" (.ref ob2) ∧ Fld Z h ob0 "com/example/minos/minos/analysis/Circuit" "nodes" "I" (.int (4 : Int32)) ∧ Fld Z h ob0 "com/example/minos/minos/analysis/Circuit" "gates" "Ljava/util/Map;" (.ref ob3) ∧ True
set_option maxRecDepth 65536 in
set_option maxHeartbeats 40000000 in
theorem rm5_35 (l : Launch) (Z : State) (a0 : Array Value) (hw : ∀ d ∈ tables_1, d.before a0 Z = true) (ws : List Jvm.Cond) (ob0 : Addr) (ob1 : Addr) (ob2 : Addr) (ob3 : Addr) (k_ob1 : ClassId) (k_ob2 : ClassId) (h0 : Heap) (n0 : Nat) (Z0 : n0 ≤ h0.size) (O0 : Old Z n0 h0) (PE_ob0 : Exa Z h0 ob0 "com/example/minos/minos/analysis/Circuit") (PF_ob0_first : Fld Z h0 ob0 "com/example/minos/minos/analysis/Circuit" "first" "[I" (.ref ob1)) (PF_ob0_second : Fld Z h0 ob0 "com/example/minos/minos/analysis/Circuit" "second" "[I" (.ref ob2)) (PF_ob0_nodes : Fld Z h0 ob0 "com/example/minos/minos/analysis/Circuit" "nodes" "I" (.int (3 : Int32))) (PF_ob0_gates : Fld Z h0 ob0 "com/example/minos/minos/analysis/Circuit" "gates" "Ljava/util/Map;" (.ref ob3)) (PV_ob1 : Arv Z h0 ob1 k_ob1 .int (1024 : Int32) [(.int (0 : Int32)), (.int (-1 : Int32)), (.int (-1 : Int32)), (.int (0 : Int32)), (.int (0 : Int32)), (.int (0 : Int32))] (.int (0 : Int32))) (PV_ob2 : Arv Z h0 ob2 k_ob2 .int (1024 : Int32) [(.int (0 : Int32)), (.int (-1 : Int32)), (.int (-1 : Int32)), (.int (0 : Int32)), (.int (0 : Int32)), (.int (0 : Int32))] (.int (0 : Int32))) (ne_ob0_ob1 : ob0 ≠ ob1) (ne_ob1_ob2 : ob1 ≠ ob2) (ne_ob0_ob2 : ob0 ≠ ob2) (g_ob1 : n0 ≤ ob1) (g_ob2 : n0 ≤ ob2) (g_ob0 : n0 ≤ ob0) :
    MetFree l (⟨"com/example/minos/minos/analysis/Circuit", "input", "()I"⟩ : MethodName) (head1 (Jvm.Cond.code (⟨"com/example/minos/minos/analysis/Circuit", "input", "()I"⟩ : MethodName) prog_12_method_4_code 1 (some .int) :: ws) ({ frames := 1, cells := 0, slots := 0, locals := 15 } : Room)) (fun a U => a = #[(.ref ob0)] ∧ Z.Warmed39 U.vm ∧ U.heap = h0) (fun _ _ _ _ _ => True) (fun _ U o U' => ∃ v L, o = .returned v ∧ Q5_35 Z  ob0 ob1 ob2 ob3 k_ob1 k_ob2 h0 n0 v U'.heap L ∧ FrameEnd U o U' L ({ frames := 1, cells := 0, slots := 0, locals := 15 } : Room).cells ({ frames := 1, cells := 0, slots := 0, locals := 15 } : Room).slots) := by
  refine MetFree.of_bodySF (plainFor_of_name pn37) hisR ?_
  intro p e s m args below meth c s₁ Bd hml0 hP hK
  obtain ⟨rfl, hZ, hh⟩ := hP
  have hx := Bd.exec
  have hby := Bd.bytes
  have hml : c.maxLocals = 1 := hml0
  have hown : s.vm.findClass "com/example/minos/minos/analysis/Circuit" = some m.cls := findClass_of_methodNamed Bd.named
  have hnm := (name_of_methodNamed Bd.named Bd.method).1
  have X0 : Stand p l e ({ frames := 1, cells := 0, slots := 0, locals := 15 } : Room) s m #[(.ref ob0)] below meth c s₁ [] 0 0 := Stand.of_body Bd
  have e0 : s₁.heap = h0 := by rw [← hh, Bd.state]; rfl
  have N0 := Fr.nil n0
  have pre0 : ∀ t, Steps p.tables e below (s₁.setTop (mkF m 0 #[.val (.ref ob0)] [])) t → Steps p.tables e below (s₁.setTop (entryFrame m #[(.ref ob0)] 1)) t := fun t k => castTop (ef404 m ob0) k
  obtain ⟨cq1, q1a, q1b⟩ := Exa.cell PE_ob0
  obtain ⟨_, _, ⟨T1, L1, k1, n1⟩, -, X1, ⟨Lc1, hQ1, l1, y1, z1⟩, st1⟩ := X0.privateBack hx (y := (⟨"com/example/minos/minos/analysis/Circuit", "add", "(II)I"⟩ : MethodName)) hown (mvT hZ (hw _ (List.mem_of_getElem? (i := 39) rfl))) (mvT hZ (hw _ (List.mem_of_getElem? (i := 40) rfl))) (own_sel (mvT hZ (hw _ (List.mem_of_getElem? (i := 40) rfl))) (mvP hZ (hw _ (List.mem_of_getElem? (i := 41) rfl))) (mvT hZ (hw _ (List.mem_of_getElem? (i := 1) rfl))) (by decide)) (Cond.privateMethod_at (mvP hZ (hw _ (List.mem_of_getElem? (i := 41) rfl)) (args := #[]))) (mvT hZ (hw _ (List.mem_of_getElem? (i := 42) rfl))) (by decide) (backOf (W := 1) (rm6_34 l Z a0 hw []  ob0 ob1 ob2 ob3 k_ob1 k_ob2 h0 n0 (own_n0 O0) O0 PE_ob0 PF_ob0_first PF_ob0_second PF_ob0_nodes PF_ob0_gates PV_ob1 PV_ob2 ne_ob0_ob1 ne_ob1_ob2 ne_ob0_ob2 g_ob1 g_ob2 g_ob0) hZ (hw _ (List.mem_of_getElem? (i := 42) rfl)) (hw _ (List.mem_of_getElem? (i := 2) rfl)) (by decide) (by decide)) (g := (mkF m 4 #[.val (.ref ob0)] [(.int (-1 : Int32)), (.int (-1 : Int32)), (.ref ob0), (.int (2 : Int32))])) rfl (by rw [hml]; rfl) (Steps.refl _) (a := ob0) (by rw [e0]; exact q1a) q1b (argsL := [(.int (-1 : Int32)), (.int (-1 : Int32))]) (rest := [(.int (2 : Int32))]) (lenOf pd70 rfl) rfl (by show 2 * 0 + _ ≤ _; exact Nat.le_of_eq rfl) (hb hby d5_4) (fun _ _ => ⟨rfl, e0, (by decide : 0 + 0 ≤ _), (by decide : 0 + 0 ≤ _)⟩)
  dsimp only [Pt.U, Pt.locs, Pt.cells, Pt.slots] at X1 l1 y1 z1 st1 hQ1
  subst l1 y1 z1
  obtain ⟨rfl, N1q, K1, O1, pf1_0, pf1_1, pf1_2, pf1_3, pf1_4, pf1_5, pf1_6, -⟩ := hQ1
  have KK1 : Keep h0 T1.heap [ob1, ob2, ob0] := (Keep.refl h0 [ob1, ob2, ob0]).trans K1 (allS (Or.inl (List.mem_of_getElem? (i := 0) rfl)) (allS (Or.inl (List.mem_of_getElem? (i := 1) rfl)) (allS (Or.inl (List.mem_of_getElem? (i := 2) rfl)) all0)))
  have N1 := Fr.app N0 N1q
  obtain ⟨fs, hr, hrun, hended, hW, hsame⟩ := X1.leave (v := some (.int (6 : Int32))) (fun h => by rw [Bd.returns] at h; cases h)
  refine ⟨_, _, pre0 _ ?_, hrun, hended, _, _, rfl, ?_, ⟨_, rfl⟩, hW, hsame.mono (by decide) (by decide)⟩
  · show Steps p.tables e below (s₁.setTop (mkF m 0 #[.val (.ref ob0)] [])) _
    refine XS.iconst X0.here hx rfl (hb hby d5_0) ?_
    show Steps p.tables e below (s₁.setTop (mkF m 1 #[.val (.ref ob0)] [(.int (2 : Int32))])) _
    refine XS.aloadN X0.here hx rfl (hb hby d5_1) rfl rfl ?_
    show Steps p.tables e below (s₁.setTop (mkF m 2 #[.val (.ref ob0)] [(.ref ob0), (.int (2 : Int32))])) _
    refine XS.iconst X0.here hx rfl (hb hby d5_2) ?_
    show Steps p.tables e below (s₁.setTop (mkF m 3 #[.val (.ref ob0)] [(.int (-1 : Int32)), (.ref ob0), (.int (2 : Int32))])) _
    refine XS.iconst X0.here hx rfl (hb hby d5_3) ?_
    show Steps p.tables e below (s₁.setTop (mkF m 4 #[.val (.ref ob0)] [(.int (-1 : Int32)), (.int (-1 : Int32)), (.ref ob0), (.int (2 : Int32))])) _
    refine st1.trans ?_
    show Steps p.tables e below (T1.setTop (mkF m 7 #[.val (.ref ob0)] [(.int (3 : Int32)), (.int (2 : Int32))])) _
    refine XS.imul X1.here hx rfl (hb hby d5_7) rfl ?_
    rw [show ((2 : Int32) * (3 : Int32)) = (6 : Int32) from by decide]
    show Steps p.tables e below (T1.setTop (mkF m 8 #[.val (.ref ob0)] [(.int (6 : Int32))])) _
    exact Jvm.RoadKit.retI X1 hx Bd.returns (hb hby d5_8) hr
  · exact ⟨rfl, N1, KK1, O1, pf1_0, pf1_1, pf1_2, pf1_3, pf1_4, pf1_5, pf1_6, trivial⟩
set_option maxRecDepth 65536 in
set_option maxHeartbeats 40000000 in
theorem lB0 {p : Program} {l : Launch} {e : Env} {s : State} {m : MethodId} {args : Array Value} {below : List Frame} {meth : Method} {c : Code} {T0 : State} {locs : List Loc} {Z : State} {a0 : Array Value} {h0 : Heap} {n0 : Nat} (p1 : Int32) (p2 : Int32) (p3 : Int32) (co : Addr) (F : Addr) (S : Addr) (k_F : ClassId) (k_S : ClassId) (hm : Addr)
    (X0 : Stand p l e room_1 s m args below meth c T0 locs 4 2060) (hx : p.tables.exec = Jvm.exec) (hZ : Z.Warmed39 s.vm) (hw : ∀ d ∈ tables_1, d.before a0 Z = true) (hby : c.code = code) (hml : c.maxLocals = 12) (hown : s.vm.findClass "com/example/minos/minos/analysis/CircuitIsGatePinLaw" = some m.cls) (e0 : T0.heap = h0) (N0 : Fr n0 locs) (O0 : Old Z n0 h0) (PE_co : Exa Z h0 co "com/example/minos/minos/analysis/Circuit") (PF_co_first : Fld Z h0 co "com/example/minos/minos/analysis/Circuit" "first" "[I" (.ref F)) (PF_co_second : Fld Z h0 co "com/example/minos/minos/analysis/Circuit" "second" "[I" (.ref S)) (PF_co_nodes : Fld Z h0 co "com/example/minos/minos/analysis/Circuit" "nodes" "I" (.int (1 : Int32))) (PV_F : Arv Z h0 F k_F .int (1024 : Int32) [(.int (0 : Int32)), (.int (0 : Int32)), (.int (0 : Int32)), (.int (0 : Int32)), (.int (0 : Int32)), (.int (0 : Int32))] (.int (0 : Int32))) (PV_S : Arv Z h0 S k_S .int (1024 : Int32) [(.int (0 : Int32)), (.int (0 : Int32)), (.int (0 : Int32)), (.int (0 : Int32)), (.int (0 : Int32)), (.int (0 : Int32))] (.int (0 : Int32))) (PF_co_gates : Fld Z h0 co "com/example/minos/minos/analysis/Circuit" "gates" "Ljava/util/Map;" (.ref hm)) (ne_F_co : F ≠ co) (ne_F_S : F ≠ S) (ne_S_co : S ≠ co) (g_F : n0 ≤ F) (g_S : n0 ≤ S) (g_co : n0 ≤ co) (hd0 : (p3 &&& (1 : Int32)) = (0 : Int32)) :
    ∃ (T' : State) (locs' : List Loc), Stand p l e room_1 s m args below meth c T' locs' 4 2060 ∧ Fr n0 locs' ∧ Keep h0 T'.heap [F, S, co] ∧ Old Z n0 T'.heap ∧ Arv Z T'.heap F k_F .int (1024 : Int32) [(.int (0 : Int32)), (.int (-1 : Int32)), (.int (-1 : Int32)), (.int (-1 : Int32)), (.int (0 : Int32)), (.int (0 : Int32))] (.int (0 : Int32)) ∧ Arv Z T'.heap S k_S .int (1024 : Int32) [(.int (0 : Int32)), (.int (-1 : Int32)), (.int (-1 : Int32)), (.int (-1 : Int32)), (.int (0 : Int32)), (.int (0 : Int32))] (.int (0 : Int32)) ∧ Exa Z T'.heap co "com/example/minos/minos/analysis/Circuit" ∧ Fld Z T'.heap co "com/example/minos/minos/analysis/Circuit" "first" "[I" (.ref F) ∧ Fld Z T'.heap co "com/example/minos/minos/analysis/Circuit" "second" "[I" (.ref S) ∧ Fld Z T'.heap co "com/example/minos/minos/analysis/Circuit" "nodes" "I" (.int (4 : Int32)) ∧ Fld Z T'.heap co "com/example/minos/minos/analysis/Circuit" "gates" "Ljava/util/Map;" (.ref hm) ∧ True ∧ ∀ t, Steps p.tables e below (T'.setTop (mkF m 93 #[.val (.int p1), .val (.int p2), .val (.int p3), .val (.ref co), .val (.int (2 : Int32)), .val (.int (4 : Int32)), .val (.int (0 : Int32)), .val (.int (p2 &&& (1 : Int32))), .val (.int ((p2 >>> ((1 : Int32) &&& 31)) &&& (1 : Int32))), .unset, .val (.int (6 : Int32)), .unset] [(.int ((6 : Int32) ^^^ ((p2 >>> ((1 : Int32) &&& 31)) &&& (1 : Int32)))), (.int ((2 : Int32) ^^^ (p2 &&& (1 : Int32)))), (.ref co)])) t → Steps p.tables e below (T0.setTop (mkF m 7 #[.val (.int p1), .val (.int p2), .val (.int p3), .unset, .unset, .unset, .unset, .unset, .unset, .unset, .unset, .unset] [(.ref co)])) t := by
  obtain ⟨cq1, kq1, q1a, q1b, q1c⟩ := isOf hZ e0 PE_co
  obtain ⟨_, _, ⟨T1, L1, k1, n1⟩, -, X1, ⟨Lc1, hQ1, l1, y1, z1⟩, st1⟩ := X0.virtualBack hx (y := (⟨"com/example/minos/minos/analysis/Circuit", "input", "()I"⟩ : MethodName)) (z := (⟨"com/example/minos/minos/analysis/Circuit", "input", "()I"⟩ : MethodName)) hown (mvT hZ (hw _ (List.mem_of_getElem? (i := 34) rfl))) (mvT hZ (hw _ (List.mem_of_getElem? (i := 35) rfl))) (notFace_of_selects (args := #[]) (mvT hZ (hw _ (List.mem_of_getElem? (i := 37) rfl)))) (mvT hZ (hw _ (List.mem_of_getElem? (i := 37) rfl))) (mvT hZ (hw _ (List.mem_of_getElem? (i := 36) rfl))) (by decide) (backOf (W := 0) (rm5_30 l Z a0 hw []  co F S hm k_F k_S h0 n0 (own_n0 O0) O0 PE_co PF_co_first PF_co_second PF_co_nodes PF_co_gates PV_F PV_S (Ne.symm ne_F_co) ne_F_S (Ne.symm ne_S_co) g_F g_S g_co) hZ (hw _ (List.mem_of_getElem? (i := 38) rfl)) (hw _ (List.mem_of_getElem? (i := 2) rfl)) (by decide) (by decide)) q1a q1c (g := (mkF m 9 #[.val (.int p1), .val (.int p2), .val (.int p3), .val (.ref co), .unset, .unset, .unset, .unset, .unset, .unset, .unset, .unset] [(.ref co)])) rfl (by rw [hml]; rfl) (Steps.refl _) (argsL := []) (rest := []) (lenOf pd120 rfl) rfl (by show 2 * 0 + _ ≤ _; exact Nat.le_of_eq rfl) (hb hby at_9) (fun _ _ => ⟨rfl, e0, (by decide : 4 + 0 ≤ _), (by decide : 2060 + 0 ≤ _)⟩)
  dsimp only [Pt.U, Pt.locs, Pt.cells, Pt.slots] at X1 l1 y1 z1 st1 hQ1
  subst l1 y1 z1
  obtain ⟨rfl, N1q, K1, O1, pf1_0, pf1_1, pf1_2, pf1_3, pf1_4, pf1_5, pf1_6, -⟩ := hQ1
  have KK1 : Keep h0 T1.heap [F, S, co] := (Keep.refl h0 [F, S, co]).trans K1 (allS (Or.inl (List.mem_of_getElem? (i := 0) rfl)) (allS (Or.inl (List.mem_of_getElem? (i := 1) rfl)) (allS (Or.inl (List.mem_of_getElem? (i := 2) rfl)) all0)))
  have N1 := Fr.app N0 N1q
  obtain ⟨cq2, kq2, q2a, q2b, q2c⟩ := isOf hZ rfl pf1_2
  obtain ⟨_, _, ⟨T2, L2, k2, n2⟩, -, X2, ⟨Lc2, hQ2, l2, y2, z2⟩, st2⟩ := X1.virtualBack hx (y := (⟨"com/example/minos/minos/analysis/Circuit", "input", "()I"⟩ : MethodName)) (z := (⟨"com/example/minos/minos/analysis/Circuit", "input", "()I"⟩ : MethodName)) hown (mvT hZ (hw _ (List.mem_of_getElem? (i := 34) rfl))) (mvT hZ (hw _ (List.mem_of_getElem? (i := 35) rfl))) (notFace_of_selects (args := #[]) (mvT hZ (hw _ (List.mem_of_getElem? (i := 37) rfl)))) (mvT hZ (hw _ (List.mem_of_getElem? (i := 37) rfl))) (mvT hZ (hw _ (List.mem_of_getElem? (i := 36) rfl))) (by decide) (backOf (W := 0) (rm5_32 l Z a0 hw []  co F S hm k_F k_S T1.heap n0 (own_n0 O1) O1 pf1_2 pf1_3 pf1_4 pf1_5 pf1_6 pf1_0 pf1_1 (Ne.symm ne_F_co) ne_F_S (Ne.symm ne_S_co) g_F g_S g_co) hZ (hw _ (List.mem_of_getElem? (i := 38) rfl)) (hw _ (List.mem_of_getElem? (i := 2) rfl)) (by decide) (by decide)) q2a q2c (g := (mkF m 15 #[.val (.int p1), .val (.int p2), .val (.int p3), .val (.ref co), .val (.int (2 : Int32)), .unset, .unset, .unset, .unset, .unset, .unset, .unset] [(.ref co)])) rfl (by rw [hml]; rfl) (Steps.refl _) (argsL := []) (rest := []) (lenOf pd120 rfl) rfl (by show 2 * 0 + _ ≤ _; exact Nat.le_of_eq rfl) (hb hby at_15) (fun _ _ => ⟨rfl, rfl, (by decide : 4 + 0 ≤ _), (by decide : 2060 + 0 ≤ _)⟩)
  dsimp only [Pt.U, Pt.locs, Pt.cells, Pt.slots] at X2 l2 y2 z2 st2 hQ2
  subst l2 y2 z2
  obtain ⟨rfl, N2q, K2, O2, pf2_0, pf2_1, pf2_2, pf2_3, pf2_4, pf2_5, pf2_6, -⟩ := hQ2
  have KK2 : Keep h0 T2.heap [F, S, co] := KK1.trans K2 (allS (Or.inl (List.mem_of_getElem? (i := 0) rfl)) (allS (Or.inl (List.mem_of_getElem? (i := 1) rfl)) (allS (Or.inl (List.mem_of_getElem? (i := 2) rfl)) all0)))
  have N2 := Fr.app N1 N2q
  obtain ⟨cq3, kq3, q3a, q3b, q3c⟩ := isOf hZ rfl pf2_2
  obtain ⟨_, _, ⟨T3, L3, k3, n3⟩, -, X3, ⟨Lc3, hQ3, l3, y3, z3⟩, st3⟩ := X2.virtualBack hx (y := (⟨"com/example/minos/minos/analysis/Circuit", "input", "()I"⟩ : MethodName)) (z := (⟨"com/example/minos/minos/analysis/Circuit", "input", "()I"⟩ : MethodName)) hown (mvT hZ (hw _ (List.mem_of_getElem? (i := 34) rfl))) (mvT hZ (hw _ (List.mem_of_getElem? (i := 35) rfl))) (notFace_of_selects (args := #[]) (mvT hZ (hw _ (List.mem_of_getElem? (i := 37) rfl)))) (mvT hZ (hw _ (List.mem_of_getElem? (i := 37) rfl))) (mvT hZ (hw _ (List.mem_of_getElem? (i := 36) rfl))) (by decide) (backOf (W := 0) (rm5_35 l Z a0 hw []  co F S hm k_F k_S T2.heap n0 (own_n0 O2) O2 pf2_2 pf2_3 pf2_4 pf2_5 pf2_6 pf2_0 pf2_1 (Ne.symm ne_F_co) ne_F_S (Ne.symm ne_S_co) g_F g_S g_co) hZ (hw _ (List.mem_of_getElem? (i := 38) rfl)) (hw _ (List.mem_of_getElem? (i := 2) rfl)) (by decide) (by decide)) q3a q3c (g := (mkF m 77 #[.val (.int p1), .val (.int p2), .val (.int p3), .val (.ref co), .val (.int (2 : Int32)), .val (.int (4 : Int32)), .val (.int (0 : Int32)), .val (.int (p2 &&& (1 : Int32))), .val (.int ((p2 >>> ((1 : Int32) &&& 31)) &&& (1 : Int32))), .unset, .unset, .unset] [(.ref co)])) rfl (by rw [hml]; rfl) (Steps.refl _) (argsL := []) (rest := []) (lenOf pd120 rfl) rfl (by show 2 * 0 + _ ≤ _; exact Nat.le_of_eq rfl) (hb hby at_77) (fun _ _ => ⟨rfl, rfl, (by decide : 4 + 0 ≤ _), (by decide : 2060 + 0 ≤ _)⟩)
  dsimp only [Pt.U, Pt.locs, Pt.cells, Pt.slots] at X3 l3 y3 z3 st3 hQ3
  subst l3 y3 z3
  obtain ⟨rfl, N3q, K3, O3, pf3_0, pf3_1, pf3_2, pf3_3, pf3_4, pf3_5, pf3_6, -⟩ := hQ3
  have KK3 : Keep h0 T3.heap [F, S, co] := KK2.trans K3 (allS (Or.inl (List.mem_of_getElem? (i := 0) rfl)) (allS (Or.inl (List.mem_of_getElem? (i := 1) rfl)) (allS (Or.inl (List.mem_of_getElem? (i := 2) rfl)) all0)))
  have N3 := Fr.app N2 N3q
  refine ⟨T3, _, X3, N3, KK3, O3, pf3_0, pf3_1, pf3_2, pf3_3, pf3_4, pf3_5, pf3_6, trivial, fun t kt => ?_⟩
  show Steps p.tables e below (T0.setTop (mkF m 7 #[.val (.int p1), .val (.int p2), .val (.int p3), .unset, .unset, .unset, .unset, .unset, .unset, .unset, .unset, .unset] [(.ref co)])) _
  refine XS.astoreN X0.here hx rfl (hb hby at_7) rfl rfl (l' := #[.val (.int p1), .val (.int p2), .val (.int p3), .val (.ref co), .unset, .unset, .unset, .unset, .unset, .unset, .unset, .unset]) rfl ?_
  show Steps p.tables e below (T0.setTop (mkF m 8 #[.val (.int p1), .val (.int p2), .val (.int p3), .val (.ref co), .unset, .unset, .unset, .unset, .unset, .unset, .unset, .unset] [])) _
  refine XS.aloadN X0.here hx rfl (hb hby at_8) rfl rfl ?_
  show Steps p.tables e below (T0.setTop (mkF m 9 #[.val (.int p1), .val (.int p2), .val (.int p3), .val (.ref co), .unset, .unset, .unset, .unset, .unset, .unset, .unset, .unset] [(.ref co)])) _
  refine st1.trans ?_
  show Steps p.tables e below (T1.setTop (mkF m 12 #[.val (.int p1), .val (.int p2), .val (.int p3), .val (.ref co), .unset, .unset, .unset, .unset, .unset, .unset, .unset, .unset] [(.int (2 : Int32))])) _
  refine XS.istore X1.here hx rfl (hb hby at_12) rfl (l' := #[.val (.int p1), .val (.int p2), .val (.int p3), .val (.ref co), .val (.int (2 : Int32)), .unset, .unset, .unset, .unset, .unset, .unset, .unset]) rfl ?_
  show Steps p.tables e below (T1.setTop (mkF m 14 #[.val (.int p1), .val (.int p2), .val (.int p3), .val (.ref co), .val (.int (2 : Int32)), .unset, .unset, .unset, .unset, .unset, .unset, .unset] [])) _
  refine XS.aloadN X1.here hx rfl (hb hby at_14) rfl rfl ?_
  show Steps p.tables e below (T1.setTop (mkF m 15 #[.val (.int p1), .val (.int p2), .val (.int p3), .val (.ref co), .val (.int (2 : Int32)), .unset, .unset, .unset, .unset, .unset, .unset, .unset] [(.ref co)])) _
  refine st2.trans ?_
  show Steps p.tables e below (T2.setTop (mkF m 18 #[.val (.int p1), .val (.int p2), .val (.int p3), .val (.ref co), .val (.int (2 : Int32)), .unset, .unset, .unset, .unset, .unset, .unset, .unset] [(.int (4 : Int32))])) _
  refine XS.istore X2.here hx rfl (hb hby at_18) rfl (l' := #[.val (.int p1), .val (.int p2), .val (.int p3), .val (.ref co), .val (.int (2 : Int32)), .val (.int (4 : Int32)), .unset, .unset, .unset, .unset, .unset, .unset]) rfl ?_
  show Steps p.tables e below (T2.setTop (mkF m 20 #[.val (.int p1), .val (.int p2), .val (.int p3), .val (.ref co), .val (.int (2 : Int32)), .val (.int (4 : Int32)), .unset, .unset, .unset, .unset, .unset, .unset] [])) _
  refine XS.iloadN X2.here hx rfl (hb hby at_20) rfl ?_
  show Steps p.tables e below (T2.setTop (mkF m 21 #[.val (.int p1), .val (.int p2), .val (.int p3), .val (.ref co), .val (.int (2 : Int32)), .val (.int (4 : Int32)), .unset, .unset, .unset, .unset, .unset, .unset] [(.int p3)])) _
  refine XS.iconst X2.here hx rfl (hb hby at_21) ?_
  show Steps p.tables e below (T2.setTop (mkF m 22 #[.val (.int p1), .val (.int p2), .val (.int p3), .val (.ref co), .val (.int (2 : Int32)), .val (.int (4 : Int32)), .unset, .unset, .unset, .unset, .unset, .unset] [(.int (1 : Int32)), (.int p3)])) _
  refine XS.iand X2.here hx rfl (hb hby at_22) rfl ?_
  show Steps p.tables e below (T2.setTop (mkF m 23 #[.val (.int p1), .val (.int p2), .val (.int p3), .val (.ref co), .val (.int (2 : Int32)), .val (.int (4 : Int32)), .unset, .unset, .unset, .unset, .unset, .unset] [(.int (p3 &&& (1 : Int32)))])) _
  refine XS.ifYes X2.here hx rfl (pc0 := 23) (pc' := 30) rfl (hb hby at_23) rfl ((if0 _ _).trans (teq hd0).1) (by decide) (by decide) ?_
  show Steps p.tables e below (T2.setTop (mkF m 30 #[.val (.int p1), .val (.int p2), .val (.int p3), .val (.ref co), .val (.int (2 : Int32)), .val (.int (4 : Int32)), .unset, .unset, .unset, .unset, .unset, .unset] [])) _
  refine XS.iconst X2.here hx rfl (hb hby at_30) ?_
  show Steps p.tables e below (T2.setTop (mkF m 31 #[.val (.int p1), .val (.int p2), .val (.int p3), .val (.ref co), .val (.int (2 : Int32)), .val (.int (4 : Int32)), .unset, .unset, .unset, .unset, .unset, .unset] [(.int (0 : Int32))])) _
  refine XS.istore X2.here hx rfl (hb hby at_31) rfl (l' := #[.val (.int p1), .val (.int p2), .val (.int p3), .val (.ref co), .val (.int (2 : Int32)), .val (.int (4 : Int32)), .val (.int (0 : Int32)), .unset, .unset, .unset, .unset, .unset]) rfl ?_
  show Steps p.tables e below (T2.setTop (mkF m 33 #[.val (.int p1), .val (.int p2), .val (.int p3), .val (.ref co), .val (.int (2 : Int32)), .val (.int (4 : Int32)), .val (.int (0 : Int32)), .unset, .unset, .unset, .unset, .unset] [])) _
  refine XS.iloadN X2.here hx rfl (hb hby at_33) rfl ?_
  show Steps p.tables e below (T2.setTop (mkF m 34 #[.val (.int p1), .val (.int p2), .val (.int p3), .val (.ref co), .val (.int (2 : Int32)), .val (.int (4 : Int32)), .val (.int (0 : Int32)), .unset, .unset, .unset, .unset, .unset] [(.int p2)])) _
  refine XS.iconst X2.here hx rfl (hb hby at_34) ?_
  show Steps p.tables e below (T2.setTop (mkF m 35 #[.val (.int p1), .val (.int p2), .val (.int p3), .val (.ref co), .val (.int (2 : Int32)), .val (.int (4 : Int32)), .val (.int (0 : Int32)), .unset, .unset, .unset, .unset, .unset] [(.int (1 : Int32)), (.int p2)])) _
  refine XS.iand X2.here hx rfl (hb hby at_35) rfl ?_
  show Steps p.tables e below (T2.setTop (mkF m 36 #[.val (.int p1), .val (.int p2), .val (.int p3), .val (.ref co), .val (.int (2 : Int32)), .val (.int (4 : Int32)), .val (.int (0 : Int32)), .unset, .unset, .unset, .unset, .unset] [(.int (p2 &&& (1 : Int32)))])) _
  refine XS.istore X2.here hx rfl (hb hby at_36) rfl (l' := #[.val (.int p1), .val (.int p2), .val (.int p3), .val (.ref co), .val (.int (2 : Int32)), .val (.int (4 : Int32)), .val (.int (0 : Int32)), .val (.int (p2 &&& (1 : Int32))), .unset, .unset, .unset, .unset]) rfl ?_
  show Steps p.tables e below (T2.setTop (mkF m 38 #[.val (.int p1), .val (.int p2), .val (.int p3), .val (.ref co), .val (.int (2 : Int32)), .val (.int (4 : Int32)), .val (.int (0 : Int32)), .val (.int (p2 &&& (1 : Int32))), .unset, .unset, .unset, .unset] [])) _
  refine XS.iloadN X2.here hx rfl (hb hby at_38) rfl ?_
  show Steps p.tables e below (T2.setTop (mkF m 39 #[.val (.int p1), .val (.int p2), .val (.int p3), .val (.ref co), .val (.int (2 : Int32)), .val (.int (4 : Int32)), .val (.int (0 : Int32)), .val (.int (p2 &&& (1 : Int32))), .unset, .unset, .unset, .unset] [(.int p2)])) _
  refine XS.iconst X2.here hx rfl (hb hby at_39) ?_
  show Steps p.tables e below (T2.setTop (mkF m 40 #[.val (.int p1), .val (.int p2), .val (.int p3), .val (.ref co), .val (.int (2 : Int32)), .val (.int (4 : Int32)), .val (.int (0 : Int32)), .val (.int (p2 &&& (1 : Int32))), .unset, .unset, .unset, .unset] [(.int (1 : Int32)), (.int p2)])) _
  refine XS.ishr X2.here hx rfl (hb hby at_40) rfl ?_
  show Steps p.tables e below (T2.setTop (mkF m 41 #[.val (.int p1), .val (.int p2), .val (.int p3), .val (.ref co), .val (.int (2 : Int32)), .val (.int (4 : Int32)), .val (.int (0 : Int32)), .val (.int (p2 &&& (1 : Int32))), .unset, .unset, .unset, .unset] [(.int (p2 >>> ((1 : Int32) &&& 31)))])) _
  refine XS.iconst X2.here hx rfl (hb hby at_41) ?_
  show Steps p.tables e below (T2.setTop (mkF m 42 #[.val (.int p1), .val (.int p2), .val (.int p3), .val (.ref co), .val (.int (2 : Int32)), .val (.int (4 : Int32)), .val (.int (0 : Int32)), .val (.int (p2 &&& (1 : Int32))), .unset, .unset, .unset, .unset] [(.int (1 : Int32)), (.int (p2 >>> ((1 : Int32) &&& 31)))])) _
  refine XS.iand X2.here hx rfl (hb hby at_42) rfl ?_
  show Steps p.tables e below (T2.setTop (mkF m 43 #[.val (.int p1), .val (.int p2), .val (.int p3), .val (.ref co), .val (.int (2 : Int32)), .val (.int (4 : Int32)), .val (.int (0 : Int32)), .val (.int (p2 &&& (1 : Int32))), .unset, .unset, .unset, .unset] [(.int ((p2 >>> ((1 : Int32) &&& 31)) &&& (1 : Int32)))])) _
  refine XS.istore X2.here hx rfl (hb hby at_43) rfl (l' := #[.val (.int p1), .val (.int p2), .val (.int p3), .val (.ref co), .val (.int (2 : Int32)), .val (.int (4 : Int32)), .val (.int (0 : Int32)), .val (.int (p2 &&& (1 : Int32))), .val (.int ((p2 >>> ((1 : Int32) &&& 31)) &&& (1 : Int32))), .unset, .unset, .unset]) rfl ?_
  show Steps p.tables e below (T2.setTop (mkF m 45 #[.val (.int p1), .val (.int p2), .val (.int p3), .val (.ref co), .val (.int (2 : Int32)), .val (.int (4 : Int32)), .val (.int (0 : Int32)), .val (.int (p2 &&& (1 : Int32))), .val (.int ((p2 >>> ((1 : Int32) &&& 31)) &&& (1 : Int32))), .unset, .unset, .unset] [])) _
  refine XS.iload X2.here hx rfl (hb hby at_45) rfl ?_
  show Steps p.tables e below (T2.setTop (mkF m 47 #[.val (.int p1), .val (.int p2), .val (.int p3), .val (.ref co), .val (.int (2 : Int32)), .val (.int (4 : Int32)), .val (.int (0 : Int32)), .val (.int (p2 &&& (1 : Int32))), .val (.int ((p2 >>> ((1 : Int32) &&& 31)) &&& (1 : Int32))), .unset, .unset, .unset] [(.int (0 : Int32))])) _
  refine XS.ifYes X2.here hx rfl (pc0 := 47) (pc' := 76) rfl (hb hby at_47) rfl ((if0 _ _).trans (teq (by decide : (0 : Int32) = (0 : Int32))).1) (by decide) (by decide) ?_
  show Steps p.tables e below (T2.setTop (mkF m 76 #[.val (.int p1), .val (.int p2), .val (.int p3), .val (.ref co), .val (.int (2 : Int32)), .val (.int (4 : Int32)), .val (.int (0 : Int32)), .val (.int (p2 &&& (1 : Int32))), .val (.int ((p2 >>> ((1 : Int32) &&& 31)) &&& (1 : Int32))), .unset, .unset, .unset] [])) _
  refine XS.aloadN X2.here hx rfl (hb hby at_76) rfl rfl ?_
  show Steps p.tables e below (T2.setTop (mkF m 77 #[.val (.int p1), .val (.int p2), .val (.int p3), .val (.ref co), .val (.int (2 : Int32)), .val (.int (4 : Int32)), .val (.int (0 : Int32)), .val (.int (p2 &&& (1 : Int32))), .val (.int ((p2 >>> ((1 : Int32) &&& 31)) &&& (1 : Int32))), .unset, .unset, .unset] [(.ref co)])) _
  refine st3.trans ?_
  show Steps p.tables e below (T3.setTop (mkF m 80 #[.val (.int p1), .val (.int p2), .val (.int p3), .val (.ref co), .val (.int (2 : Int32)), .val (.int (4 : Int32)), .val (.int (0 : Int32)), .val (.int (p2 &&& (1 : Int32))), .val (.int ((p2 >>> ((1 : Int32) &&& 31)) &&& (1 : Int32))), .unset, .unset, .unset] [(.int (6 : Int32))])) _
  refine XS.istore X3.here hx rfl (hb hby at_80) rfl (l' := #[.val (.int p1), .val (.int p2), .val (.int p3), .val (.ref co), .val (.int (2 : Int32)), .val (.int (4 : Int32)), .val (.int (0 : Int32)), .val (.int (p2 &&& (1 : Int32))), .val (.int ((p2 >>> ((1 : Int32) &&& 31)) &&& (1 : Int32))), .unset, .val (.int (6 : Int32)), .unset]) rfl ?_
  show Steps p.tables e below (T3.setTop (mkF m 82 #[.val (.int p1), .val (.int p2), .val (.int p3), .val (.ref co), .val (.int (2 : Int32)), .val (.int (4 : Int32)), .val (.int (0 : Int32)), .val (.int (p2 &&& (1 : Int32))), .val (.int ((p2 >>> ((1 : Int32) &&& 31)) &&& (1 : Int32))), .unset, .val (.int (6 : Int32)), .unset] [])) _
  refine XS.aloadN X3.here hx rfl (hb hby at_82) rfl rfl ?_
  show Steps p.tables e below (T3.setTop (mkF m 83 #[.val (.int p1), .val (.int p2), .val (.int p3), .val (.ref co), .val (.int (2 : Int32)), .val (.int (4 : Int32)), .val (.int (0 : Int32)), .val (.int (p2 &&& (1 : Int32))), .val (.int ((p2 >>> ((1 : Int32) &&& 31)) &&& (1 : Int32))), .unset, .val (.int (6 : Int32)), .unset] [(.ref co)])) _
  refine XS.iload X3.here hx rfl (hb hby at_83) rfl ?_
  show Steps p.tables e below (T3.setTop (mkF m 85 #[.val (.int p1), .val (.int p2), .val (.int p3), .val (.ref co), .val (.int (2 : Int32)), .val (.int (4 : Int32)), .val (.int (0 : Int32)), .val (.int (p2 &&& (1 : Int32))), .val (.int ((p2 >>> ((1 : Int32) &&& 31)) &&& (1 : Int32))), .unset, .val (.int (6 : Int32)), .unset] [(.int (2 : Int32)), (.ref co)])) _
  refine XS.iload X3.here hx rfl (hb hby at_85) rfl ?_
  show Steps p.tables e below (T3.setTop (mkF m 87 #[.val (.int p1), .val (.int p2), .val (.int p3), .val (.ref co), .val (.int (2 : Int32)), .val (.int (4 : Int32)), .val (.int (0 : Int32)), .val (.int (p2 &&& (1 : Int32))), .val (.int ((p2 >>> ((1 : Int32) &&& 31)) &&& (1 : Int32))), .unset, .val (.int (6 : Int32)), .unset] [(.int (p2 &&& (1 : Int32))), (.int (2 : Int32)), (.ref co)])) _
  refine XS.ixor X3.here hx rfl (hb hby at_87) rfl ?_
  show Steps p.tables e below (T3.setTop (mkF m 88 #[.val (.int p1), .val (.int p2), .val (.int p3), .val (.ref co), .val (.int (2 : Int32)), .val (.int (4 : Int32)), .val (.int (0 : Int32)), .val (.int (p2 &&& (1 : Int32))), .val (.int ((p2 >>> ((1 : Int32) &&& 31)) &&& (1 : Int32))), .unset, .val (.int (6 : Int32)), .unset] [(.int ((2 : Int32) ^^^ (p2 &&& (1 : Int32)))), (.ref co)])) _
  refine XS.iload X3.here hx rfl (hb hby at_88) rfl ?_
  show Steps p.tables e below (T3.setTop (mkF m 90 #[.val (.int p1), .val (.int p2), .val (.int p3), .val (.ref co), .val (.int (2 : Int32)), .val (.int (4 : Int32)), .val (.int (0 : Int32)), .val (.int (p2 &&& (1 : Int32))), .val (.int ((p2 >>> ((1 : Int32) &&& 31)) &&& (1 : Int32))), .unset, .val (.int (6 : Int32)), .unset] [(.int (6 : Int32)), (.int ((2 : Int32) ^^^ (p2 &&& (1 : Int32)))), (.ref co)])) _
  refine XS.iload X3.here hx rfl (hb hby at_90) rfl ?_
  show Steps p.tables e below (T3.setTop (mkF m 92 #[.val (.int p1), .val (.int p2), .val (.int p3), .val (.ref co), .val (.int (2 : Int32)), .val (.int (4 : Int32)), .val (.int (0 : Int32)), .val (.int (p2 &&& (1 : Int32))), .val (.int ((p2 >>> ((1 : Int32) &&& 31)) &&& (1 : Int32))), .unset, .val (.int (6 : Int32)), .unset] [(.int ((p2 >>> ((1 : Int32) &&& 31)) &&& (1 : Int32))), (.int (6 : Int32)), (.int ((2 : Int32) ^^^ (p2 &&& (1 : Int32)))), (.ref co)])) _
  refine XS.ixor X3.here hx rfl (hb hby at_92) rfl ?_
  show Steps p.tables e below (T3.setTop (mkF m 93 #[.val (.int p1), .val (.int p2), .val (.int p3), .val (.ref co), .val (.int (2 : Int32)), .val (.int (4 : Int32)), .val (.int (0 : Int32)), .val (.int (p2 &&& (1 : Int32))), .val (.int ((p2 >>> ((1 : Int32) &&& 31)) &&& (1 : Int32))), .unset, .val (.int (6 : Int32)), .unset] [(.int ((6 : Int32) ^^^ ((p2 >>> ((1 : Int32) &&& 31)) &&& (1 : Int32)))), (.int ((2 : Int32) ^^^ (p2 &&& (1 : Int32)))), (.ref co)])) _
  exact kt
set_option maxRecDepth 65536 in
set_option maxHeartbeats 4000000 in
theorem cAnd0 {p : Program} {l : Launch} {e : Env} {s : State} {m : MethodId} {args : Array Value} {below : List Frame} {meth : Method} {c : Code} {T0 : State} {locs : List Loc} {cells slots : Nat} {Z : State} {a0 : Array Value} {h0 : Heap} {Ls : Array Slot} (ob : Addr) (x0 : Int32) (x1 : Int32)
    (X0 : Stand p l e room_1 s m args below meth c T0 locs cells slots) (hx : p.tables.exec = Jvm.exec) (hZ : Z.Warmed39 s.vm) (hw : ∀ d ∈ tables_1, d.before a0 Z = true) (hby : c.code = code) (hml : c.maxLocals = 12) (hown : s.vm.findClass "com/example/minos/minos/analysis/CircuitIsGatePinLaw" = some m.cls) (e0 : T0.heap = h0) (hsz : Ls.size = 12) (ER : Exa Z h0 ob "com/example/minos/minos/analysis/Circuit") {rm : Room} {Q : Option Value → Heap → List Loc → Prop}
    (M : MetFree l (⟨"com/example/minos/minos/analysis/Circuit", "and", "(II)I"⟩ : MethodName) (head1 [Jvm.Cond.code (⟨"com/example/minos/minos/analysis/Circuit", "and", "(II)I"⟩ : MethodName) prog_12_method_5_code 6 (some .int)] rm) (fun a U => a = #[(.ref ob), (.int x0), (.int x1)] ∧ Z.Warmed39 U.vm ∧ U.heap = h0) (fun _ _ _ _ _ => True) (fun _ U o U' => ∃ v L, o = .returned v ∧ Q v U'.heap L ∧ FrameEnd U o U' L rm.cells rm.slots)) (hfr : rm.frames + 1 ≤ room_1.frames) (hlo : 0 + (6 + 11) + rm.locals ≤ room_1.locals) (hce : cells + rm.cells ≤ room_1.cells) (hsl : slots + rm.slots ≤ room_1.slots) :
    ∃ (T' : State) (v : Option Value) (L : List Loc), Stand p l e room_1 s m args below meth c T' (locs ++ L) (cells + rm.cells) (slots + rm.slots) ∧ Q v T'.heap L ∧ ∀ t, Steps p.tables e below (T'.setTop (mkF m 96 Ls (v.toList ++ []))) t → Steps p.tables e below (T0.setTop (mkF m 93 Ls [(.int x1), (.int x0), (.ref ob)])) t := by
  obtain ⟨cq, kq, qa, qb, qc⟩ := isOf hZ e0 ER
  obtain ⟨v, _, ⟨T1, L1, k1, n1⟩, -, X1, ⟨Lc, hQ, l1, y1, z1⟩, st⟩ := X0.virtualBack hx (y := (⟨"com/example/minos/minos/analysis/Circuit", "and", "(II)I"⟩ : MethodName)) (z := (⟨"com/example/minos/minos/analysis/Circuit", "and", "(II)I"⟩ : MethodName)) hown (mvT hZ (hw _ (List.mem_of_getElem? (i := 43) rfl))) (mvT hZ (hw _ (List.mem_of_getElem? (i := 44) rfl))) (notFace_of_selects (args := #[]) (mvT hZ (hw _ (List.mem_of_getElem? (i := 46) rfl)))) (mvT hZ (hw _ (List.mem_of_getElem? (i := 46) rfl))) (mvT hZ (hw _ (List.mem_of_getElem? (i := 45) rfl))) (by decide) (backOf (W := 0) M hZ (hw _ (List.mem_of_getElem? (i := 47) rfl)) (hw _ (List.mem_of_getElem? (i := 2) rfl)) hfr hlo) qa qc (g := (mkF m 93 Ls [(.int x1), (.int x0), (.ref ob)])) rfl (by rw [hml]; exact hsz) (Steps.refl _) (argsL := [(.int x0), (.int x1)]) (rest := []) (lenOf pd70 rfl) rfl (by show 2 * 0 + _ ≤ _; exact Nat.le_of_eq rfl) (hb hby at_93) (fun _ _ => ⟨rfl, e0, hce, hsl⟩)
  dsimp only [Pt.U, Pt.locs, Pt.cells, Pt.slots] at X1 l1 y1 z1 st hQ
  subst l1 y1 z1
  exact ⟨T1, v, Lc, X1, hQ, fun t kt => st.trans kt⟩
def Q6_37 (Z : State) (ob0 : Addr) (ob1 : Addr) (ob2 : Addr) (k_ob1 : ClassId) (q0 : Int32) (k_ob2 : ClassId) (q1 : Int32) (h0 : Heap) (n0 : Nat) (v : Option Value) (h : Heap) (L : List Loc) : Prop := v = some (.int (4 : Int32)) ∧ Fr n0 L ∧ Keep h0 h [ob1, ob2, ob0] ∧ Old Z n0 h ∧ Arv Z h ob1 k_ob1 .int (1024 : Int32) [(.int (0 : Int32)), (.int (-1 : Int32)), (.int (-1 : Int32)), (.int q0), (.int (-1 : Int32)), (.int (0 : Int32))] (.int (0 : Int32)) ∧ Arv Z h ob2 k_ob2 .int (1024 : Int32) [(.int (0 : Int32)), (.int (-1 : Int32)), (.int (-1 : Int32)), (.int q1), (.int (-1 : Int32)), (.int (0 : Int32))] (.int (0 : Int32)) ∧ Exa Z h ob0 "com/example/minos/minos/analysis/Circuit" ∧ Fld Z h ob0 "com/example/minos/minos/analysis/Circuit" "first" "[I" (.ref ob1) ∧ Fld Z h ob0 "com/example/minos/minos/analysis/Circuit" "second" "[I" (.ref ob2) ∧ Fld Z h ob0 "com/example/minos/minos/analysis/Circuit" "nodes" "I" (.int (5 : Int32)) ∧ True
set_option maxRecDepth 65536 in
set_option maxHeartbeats 40000000 in
theorem rm6_37 (l : Launch) (Z : State) (a0 : Array Value) (hw : ∀ d ∈ tables_1, d.before a0 Z = true) (ws : List Jvm.Cond) (ob0 : Addr) (ob1 : Addr) (ob2 : Addr) (k_ob1 : ClassId) (q0 : Int32) (k_ob2 : ClassId) (q1 : Int32) (h0 : Heap) (n0 : Nat) (Z0 : n0 ≤ h0.size) (O0 : Old Z n0 h0) (PE_ob0 : Exa Z h0 ob0 "com/example/minos/minos/analysis/Circuit") (PF_ob0_first : Fld Z h0 ob0 "com/example/minos/minos/analysis/Circuit" "first" "[I" (.ref ob1)) (PF_ob0_second : Fld Z h0 ob0 "com/example/minos/minos/analysis/Circuit" "second" "[I" (.ref ob2)) (PF_ob0_nodes : Fld Z h0 ob0 "com/example/minos/minos/analysis/Circuit" "nodes" "I" (.int (4 : Int32))) (PV_ob1 : Arv Z h0 ob1 k_ob1 .int (1024 : Int32) [(.int (0 : Int32)), (.int (-1 : Int32)), (.int (-1 : Int32)), (.int q0), (.int (0 : Int32)), (.int (0 : Int32))] (.int (0 : Int32))) (PV_ob2 : Arv Z h0 ob2 k_ob2 .int (1024 : Int32) [(.int (0 : Int32)), (.int (-1 : Int32)), (.int (-1 : Int32)), (.int q1), (.int (0 : Int32)), (.int (0 : Int32))] (.int (0 : Int32))) (ne_ob0_ob1 : ob0 ≠ ob1) (ne_ob1_ob2 : ob1 ≠ ob2) (ne_ob0_ob2 : ob0 ≠ ob2) (g_ob1 : n0 ≤ ob1) (g_ob2 : n0 ≤ ob2) (g_ob0 : n0 ≤ ob0) :
    MetFree l (⟨"com/example/minos/minos/analysis/Circuit", "add", "(II)I"⟩ : MethodName) (head1 (Jvm.Cond.code (⟨"com/example/minos/minos/analysis/Circuit", "add", "(II)I"⟩ : MethodName) prog_12_method_14_code 3 (some .int) :: ws) ({ frames := 0, cells := 0, slots := 0, locals := 0 } : Room)) (fun a U => a = #[(.ref ob0), (.int (-1 : Int32)), (.int (-1 : Int32))] ∧ Z.Warmed39 U.vm ∧ U.heap = h0) (fun _ _ _ _ _ => True) (fun _ U o U' => ∃ v L, o = .returned v ∧ Q6_37 Z  ob0 ob1 ob2 k_ob1 q0 k_ob2 q1 h0 n0 v U'.heap L ∧ FrameEnd U o U' L ({ frames := 0, cells := 0, slots := 0, locals := 0 } : Room).cells ({ frames := 0, cells := 0, slots := 0, locals := 0 } : Room).slots) := by
  refine MetFree.of_bodySF (plainFor_of_name pn37) hisR ?_
  intro p e s m args below meth c s₁ Bd hml0 hP hK
  obtain ⟨rfl, hZ, hh⟩ := hP
  have hx := Bd.exec
  have hby := Bd.bytes
  have hml : c.maxLocals = 3 := hml0
  have hown : s.vm.findClass "com/example/minos/minos/analysis/Circuit" = some m.cls := findClass_of_methodNamed Bd.named
  have hnm := (name_of_methodNamed Bd.named Bd.method).1
  have X0 : Stand p l e ({ frames := 0, cells := 0, slots := 0, locals := 0 } : Room) s m #[(.ref ob0), (.int (-1 : Int32)), (.int (-1 : Int32))] below meth c s₁ [] 0 0 := Stand.of_body Bd
  have e0 : s₁.heap = h0 := by rw [← hh, Bd.state]; rfl
  have N0 := Fr.nil n0
  have pre0 : ∀ t, Steps p.tables e below (s₁.setTop (mkF m 0 #[.val (.ref ob0), .val (.int (-1 : Int32)), .val (.int (-1 : Int32))] [])) t → Steps p.tables e below (s₁.setTop (entryFrame m #[(.ref ob0), (.int (-1 : Int32)), (.int (-1 : Int32))] 3)) t := fun t k => castTop (ef69 m ob0 (-1 : Int32) (-1 : Int32)) k
  obtain ⟨T1, X1, e1, st1⟩ := getF X0 hx hZ hown (host := "") (Or.inl (hw _ (List.mem_of_getElem? (i := 14) rfl))) Via.refl e0 PF_ob0_nodes (g := (mkF m 1 #[.val (.ref ob0), .val (.int (-1 : Int32)), .val (.int (-1 : Int32))] [(.ref ob0)])) rfl rfl (hb hby d6_1)
  obtain ⟨T2, X2, e2, st2⟩ := getF X1 hx hZ hown (host := "") (Or.inl (hw _ (List.mem_of_getElem? (i := 10) rfl))) Via.refl e1 PF_ob0_first (g := (mkF m 5 #[.val (.ref ob0), .val (.int (-1 : Int32)), .val (.int (-1 : Int32))] [(.ref ob0), (.int (4 : Int32))])) rfl rfl (hb hby d6_5)
  obtain ⟨ac3, aA3, aq3, aS3, aN3, aH3, aG3⟩ := id PV_ob1
  obtain ⟨T4, X4, e4, st4⟩ := getF X2 hx hZ hown (host := "") (Or.inl (hw _ (List.mem_of_getElem? (i := 10) rfl))) Via.refl e2 PF_ob0_first (g := (mkF m 47 #[.val (.ref ob0), .val (.int (-1 : Int32)), .val (.int (-1 : Int32))] [(.ref ob0)])) rfl rfl (hb hby d6_47)
  obtain ⟨T5, X5, e5, st5⟩ := getF X4 hx hZ hown (host := "") (Or.inl (hw _ (List.mem_of_getElem? (i := 14) rfl))) Via.refl e4 PF_ob0_nodes (g := (mkF m 51 #[.val (.ref ob0), .val (.int (-1 : Int32)), .val (.int (-1 : Int32))] [(.ref ob0), (.ref ob1)])) rfl rfl (hb hby d6_51)
  obtain ⟨ac6, aA6, aq6, aS6, aN6, aH6, aG6⟩ := id PV_ob1
  obtain ⟨T7, h7, X7, e7, W7, st7⟩ := stI X5 hx hZ e5 aA6 (j := (4 : Int32)) (inb_of aS6 ⟨by decide, by decide⟩) (g := (mkF m 55 #[.val (.ref ob0), .val (.int (-1 : Int32)), .val (.int (-1 : Int32))] [(.int (-1 : Int32)), (.int (4 : Int32)), (.ref ob1)])) rfl rfl (hb hby d6_55)
  have V_ob1_7 : Arv Z h7 ob1 k_ob1 .int (1024 : Int32) [(.int (0 : Int32)), (.int (-1 : Int32)), (.int (-1 : Int32)), (.int q0), (.int (-1 : Int32)), (.int (0 : Int32))] (.int (0 : Int32)) := Arv.set aA6 aq6 aS6 aN6 aH6 aG6 rfl W7 4 rfl (Nat.le_of_ble_eq_true rfl)
  have N7 := Fr.snoc X7 N0 g_ob1
  have O7 := O0.wr W7 g_ob1
  have KK7 : Keep h0 h7 [ob1, ob2, ob0] := (Keep.refl h0 [ob1, ob2, ob0]).wr W7 (Or.inl (List.mem_of_getElem? (i := 0) rfl))
  obtain ⟨T8, X8, e8, st8⟩ := getF X7 hx hZ hown (host := "") (Or.inl (hw _ (List.mem_of_getElem? (i := 12) rfl))) Via.refl e7 (PF_ob0_second.other W7 (Or.inl ne_ob0_ob1)) (g := (mkF m 57 #[.val (.ref ob0), .val (.int (-1 : Int32)), .val (.int (-1 : Int32))] [(.ref ob0)])) rfl rfl (hb hby d6_57)
  obtain ⟨T9, X9, e9, st9⟩ := getF X8 hx hZ hown (host := "") (Or.inl (hw _ (List.mem_of_getElem? (i := 14) rfl))) Via.refl e8 (PF_ob0_nodes.other W7 (Or.inl ne_ob0_ob1)) (g := (mkF m 61 #[.val (.ref ob0), .val (.int (-1 : Int32)), .val (.int (-1 : Int32))] [(.ref ob0), (.ref ob2)])) rfl rfl (hb hby d6_61)
  obtain ⟨ac10, aA10, aq10, aS10, aN10, aH10, aG10⟩ := id (PV_ob2.other W7 (Ne.symm ne_ob1_ob2))
  obtain ⟨T11, h11, X11, e11, W11, st11⟩ := stI X9 hx hZ e9 aA10 (j := (4 : Int32)) (inb_of aS10 ⟨by decide, by decide⟩) (g := (mkF m 65 #[.val (.ref ob0), .val (.int (-1 : Int32)), .val (.int (-1 : Int32))] [(.int (-1 : Int32)), (.int (4 : Int32)), (.ref ob2)])) rfl rfl (hb hby d6_65)
  have V_ob2_11 : Arv Z h11 ob2 k_ob2 .int (1024 : Int32) [(.int (0 : Int32)), (.int (-1 : Int32)), (.int (-1 : Int32)), (.int q1), (.int (-1 : Int32)), (.int (0 : Int32))] (.int (0 : Int32)) := Arv.set aA10 aq10 aS10 aN10 aH10 aG10 rfl W11 4 rfl (Nat.le_of_ble_eq_true rfl)
  have N11 := Fr.snoc X11 N7 g_ob2
  have O11 := O7.wr W11 g_ob2
  have KK11 : Keep h0 h11 [ob1, ob2, ob0] := KK7.wr W11 (Or.inl (List.mem_of_getElem? (i := 1) rfl))
  obtain ⟨T12, X12, e12, st12⟩ := getF X11 hx hZ hown (host := "") (Or.inl (hw _ (List.mem_of_getElem? (i := 14) rfl))) Via.refl e11 ((PF_ob0_nodes.other W7 (Or.inl ne_ob0_ob1)).other W11 (Or.inl ne_ob0_ob2)) (g := (mkF m 68 #[.val (.ref ob0), .val (.int (-1 : Int32)), .val (.int (-1 : Int32))] [(.ref ob0), (.ref ob0)])) rfl rfl (hb hby d6_68)
  obtain ⟨T13, h13, X13, e13, W13, st13⟩ := putF X12 hx hZ hown (host := "") (Or.inl (hw _ (List.mem_of_getElem? (i := 14) rfl))) Via.refl e12 ((PF_ob0_nodes.other W7 (Or.inl ne_ob0_ob1)).other W11 (Or.inl ne_ob0_ob2)) ((PE_ob0.wr W7).wr W11) (Or.inl (hw _ (List.mem_of_getElem? (i := 15) rfl))) (hw _ (List.mem_of_getElem? (i := 1) rfl)) (ty := .int) (by decide) rfl rfl (g := (mkF m 74 #[.val (.ref ob0), .val (.int (-1 : Int32)), .val (.int (-1 : Int32))] [(.int (5 : Int32)), (.ref ob0), (.int (4 : Int32))])) rfl rfl (hb hby d6_74)
  have Fw13 := ((PF_ob0_nodes.other W7 (Or.inl ne_ob0_ob1)).other W11 (Or.inl ne_ob0_ob2)).same W13
  have N13 := Fr.snoc X13 N11 g_ob0
  have O13 := O11.wr W13 g_ob0
  have KK13 : Keep h0 h13 [ob1, ob2, ob0] := KK11.wr W13 (Or.inl (List.mem_of_getElem? (i := 2) rfl))
  have J14 := (((PE_ob0.wr W7).wr W11).wr W13)
  have J15 := (((PF_ob0_first.other W7 (Or.inl ne_ob0_ob1)).other W11 (Or.inl ne_ob0_ob2)).other W13 (Or.inr (slot_ne (Or.inl (hw _ (List.mem_of_getElem? (i := 11) rfl))) (Or.inl (hw _ (List.mem_of_getElem? (i := 15) rfl))) (by decide) (t := (.array .int)) (t' := .int) (by decide) (by decide))))
  have J16 := (((PF_ob0_second.other W7 (Or.inl ne_ob0_ob1)).other W11 (Or.inl ne_ob0_ob2)).other W13 (Or.inr (slot_ne (Or.inl (hw _ (List.mem_of_getElem? (i := 13) rfl))) (Or.inl (hw _ (List.mem_of_getElem? (i := 15) rfl))) (by decide) (t := (.array .int)) (t' := .int) (by decide) (by decide))))
  obtain ⟨fs, hr, hrun, hended, hW, hsame⟩ := X13.leave (v := some (.int (4 : Int32))) (fun h => by rw [Bd.returns] at h; cases h)
  refine ⟨_, _, pre0 _ ?_, hrun, hended, _, _, rfl, ?_, ⟨_, rfl⟩, hW, hsame.mono (by decide) (by decide)⟩
  · show Steps p.tables e below (s₁.setTop (mkF m 0 #[.val (.ref ob0), .val (.int (-1 : Int32)), .val (.int (-1 : Int32))] [])) _
    refine XS.aloadN X0.here hx rfl (hb hby d6_0) rfl rfl ?_
    show Steps p.tables e below (s₁.setTop (mkF m 1 #[.val (.ref ob0), .val (.int (-1 : Int32)), .val (.int (-1 : Int32))] [(.ref ob0)])) _
    refine st1 _ ?_
    show Steps p.tables e below (T1.setTop (mkF m 4 #[.val (.ref ob0), .val (.int (-1 : Int32)), .val (.int (-1 : Int32))] [(.int (4 : Int32))])) _
    refine XS.aloadN X1.here hx rfl (hb hby d6_4) rfl rfl ?_
    show Steps p.tables e below (T1.setTop (mkF m 5 #[.val (.ref ob0), .val (.int (-1 : Int32)), .val (.int (-1 : Int32))] [(.ref ob0), (.int (4 : Int32))])) _
    refine st2 _ ?_
    show Steps p.tables e below (T2.setTop (mkF m 8 #[.val (.ref ob0), .val (.int (-1 : Int32)), .val (.int (-1 : Int32))] [(.ref ob1), (.int (4 : Int32))])) _
    refine X2.arraylength hx (by rw [e2]; exact aA3.1) (State.isArrayOf_alike hZ.alike aA3.2.1) (g := (mkF m 8 #[.val (.ref ob0), .val (.int (-1 : Int32)), .val (.int (-1 : Int32))] [(.ref ob1), (.int (4 : Int32))])) rfl rfl (hb hby d6_8) _ ?_
    rw [len_of aS3 aN3]
    show Steps p.tables e below (T2.setTop (mkF m 9 #[.val (.ref ob0), .val (.int (-1 : Int32)), .val (.int (-1 : Int32))] [(.int (1024 : Int32)), (.int (4 : Int32))])) _
    refine XS.icmpYes X2.here hx rfl (pc0 := 9) (pc' := 46) rfl (hb hby d6_9) rfl (feq (by decide : ¬ ((4 : Int32) = (1024 : Int32)))).2 (by decide) (by decide) ?_
    show Steps p.tables e below (T2.setTop (mkF m 46 #[.val (.ref ob0), .val (.int (-1 : Int32)), .val (.int (-1 : Int32))] [])) _
    refine XS.aloadN X2.here hx rfl (hb hby d6_46) rfl rfl ?_
    show Steps p.tables e below (T2.setTop (mkF m 47 #[.val (.ref ob0), .val (.int (-1 : Int32)), .val (.int (-1 : Int32))] [(.ref ob0)])) _
    refine st4 _ ?_
    show Steps p.tables e below (T4.setTop (mkF m 50 #[.val (.ref ob0), .val (.int (-1 : Int32)), .val (.int (-1 : Int32))] [(.ref ob1)])) _
    refine XS.aloadN X4.here hx rfl (hb hby d6_50) rfl rfl ?_
    show Steps p.tables e below (T4.setTop (mkF m 51 #[.val (.ref ob0), .val (.int (-1 : Int32)), .val (.int (-1 : Int32))] [(.ref ob0), (.ref ob1)])) _
    refine st5 _ ?_
    show Steps p.tables e below (T5.setTop (mkF m 54 #[.val (.ref ob0), .val (.int (-1 : Int32)), .val (.int (-1 : Int32))] [(.int (4 : Int32)), (.ref ob1)])) _
    refine XS.iloadN X5.here hx rfl (hb hby d6_54) rfl ?_
    show Steps p.tables e below (T5.setTop (mkF m 55 #[.val (.ref ob0), .val (.int (-1 : Int32)), .val (.int (-1 : Int32))] [(.int (-1 : Int32)), (.int (4 : Int32)), (.ref ob1)])) _
    refine st7 _ ?_
    show Steps p.tables e below (T7.setTop (mkF m 56 #[.val (.ref ob0), .val (.int (-1 : Int32)), .val (.int (-1 : Int32))] [])) _
    refine XS.aloadN X7.here hx rfl (hb hby d6_56) rfl rfl ?_
    show Steps p.tables e below (T7.setTop (mkF m 57 #[.val (.ref ob0), .val (.int (-1 : Int32)), .val (.int (-1 : Int32))] [(.ref ob0)])) _
    refine st8 _ ?_
    show Steps p.tables e below (T8.setTop (mkF m 60 #[.val (.ref ob0), .val (.int (-1 : Int32)), .val (.int (-1 : Int32))] [(.ref ob2)])) _
    refine XS.aloadN X8.here hx rfl (hb hby d6_60) rfl rfl ?_
    show Steps p.tables e below (T8.setTop (mkF m 61 #[.val (.ref ob0), .val (.int (-1 : Int32)), .val (.int (-1 : Int32))] [(.ref ob0), (.ref ob2)])) _
    refine st9 _ ?_
    show Steps p.tables e below (T9.setTop (mkF m 64 #[.val (.ref ob0), .val (.int (-1 : Int32)), .val (.int (-1 : Int32))] [(.int (4 : Int32)), (.ref ob2)])) _
    refine XS.iloadN X9.here hx rfl (hb hby d6_64) rfl ?_
    show Steps p.tables e below (T9.setTop (mkF m 65 #[.val (.ref ob0), .val (.int (-1 : Int32)), .val (.int (-1 : Int32))] [(.int (-1 : Int32)), (.int (4 : Int32)), (.ref ob2)])) _
    refine st11 _ ?_
    show Steps p.tables e below (T11.setTop (mkF m 66 #[.val (.ref ob0), .val (.int (-1 : Int32)), .val (.int (-1 : Int32))] [])) _
    refine XS.aloadN X11.here hx rfl (hb hby d6_66) rfl rfl ?_
    show Steps p.tables e below (T11.setTop (mkF m 67 #[.val (.ref ob0), .val (.int (-1 : Int32)), .val (.int (-1 : Int32))] [(.ref ob0)])) _
    refine XS.dup X11.here hx rfl (hb hby d6_67) rfl rfl ?_
    show Steps p.tables e below (T11.setTop (mkF m 68 #[.val (.ref ob0), .val (.int (-1 : Int32)), .val (.int (-1 : Int32))] [(.ref ob0), (.ref ob0)])) _
    refine st12 _ ?_
    show Steps p.tables e below (T12.setTop (mkF m 71 #[.val (.ref ob0), .val (.int (-1 : Int32)), .val (.int (-1 : Int32))] [(.int (4 : Int32)), (.ref ob0)])) _
    refine XS.dupX1 X12.here hx rfl (hb hby d6_71) rfl rfl rfl ?_
    show Steps p.tables e below (T12.setTop (mkF m 72 #[.val (.ref ob0), .val (.int (-1 : Int32)), .val (.int (-1 : Int32))] [(.int (4 : Int32)), (.ref ob0), (.int (4 : Int32))])) _
    refine XS.iconst X12.here hx rfl (hb hby d6_72) ?_
    show Steps p.tables e below (T12.setTop (mkF m 73 #[.val (.ref ob0), .val (.int (-1 : Int32)), .val (.int (-1 : Int32))] [(.int (1 : Int32)), (.int (4 : Int32)), (.ref ob0), (.int (4 : Int32))])) _
    refine XS.iadd X12.here hx rfl (hb hby d6_73) rfl ?_
    rw [show ((4 : Int32) + (1 : Int32)) = (5 : Int32) from by decide]
    show Steps p.tables e below (T12.setTop (mkF m 74 #[.val (.ref ob0), .val (.int (-1 : Int32)), .val (.int (-1 : Int32))] [(.int (5 : Int32)), (.ref ob0), (.int (4 : Int32))])) _
    refine st13 _ ?_
    show Steps p.tables e below (T13.setTop (mkF m 77 #[.val (.ref ob0), .val (.int (-1 : Int32)), .val (.int (-1 : Int32))] [(.int (4 : Int32))])) _
    exact Jvm.RoadKit.retI X13 hx Bd.returns (hb hby d6_77) hr
  · have eH : (T13.setFrames fs).heap = h13 := e13; rw [eH]; exact ⟨rfl, N13, KK13, O13, ((V_ob1_7.other W11 ne_ob1_ob2).other W13 (Ne.symm ne_ob0_ob1)), (V_ob2_11.other W13 (Ne.symm ne_ob0_ob2)), J14, J15, J16, Fw13, trivial⟩
def Q5_38 (Z : State) (ob0 : Addr) (ob1 : Addr) (ob2 : Addr) (k_ob1 : ClassId) (q0 : Int32) (k_ob2 : ClassId) (q1 : Int32) (h0 : Heap) (n0 : Nat) (v : Option Value) (h : Heap) (L : List Loc) : Prop := v = some (.int (8 : Int32)) ∧ Fr n0 L ∧ Keep h0 h [ob1, ob2, ob0] ∧ Old Z n0 h ∧ Arv Z h ob1 k_ob1 .int (1024 : Int32) [(.int (0 : Int32)), (.int (-1 : Int32)), (.int (-1 : Int32)), (.int q0), (.int (-1 : Int32)), (.int (0 : Int32))] (.int (0 : Int32)) ∧ Arv Z h ob2 k_ob2 .int (1024 : Int32) [(.int (0 : Int32)), (.int (-1 : Int32)), (.int (-1 : Int32)), (.int q1), (.int (-1 : Int32)), (.int (0 : Int32))] (.int (0 : Int32)) ∧ Exa Z h ob0 "com/example/minos/minos/analysis/Circuit" ∧ Fld Z h ob0 "com/example/minos/minos/analysis/Circuit" "first" "[I" (.ref ob1) ∧ Fld Z h ob0 "com/example/minos/minos/analysis/Circuit" "second" "[I" (.ref ob2) ∧ Fld Z h ob0 "com/example/minos/minos/analysis/Circuit" "nodes" "I" (.int (5 : Int32)) ∧ True
set_option maxRecDepth 65536 in
set_option maxHeartbeats 40000000 in
theorem rm5_38 (l : Launch) (Z : State) (a0 : Array Value) (hw : ∀ d ∈ tables_1, d.before a0 Z = true) (ws : List Jvm.Cond) (ob0 : Addr) (ob1 : Addr) (ob2 : Addr) (k_ob1 : ClassId) (q0 : Int32) (k_ob2 : ClassId) (q1 : Int32) (h0 : Heap) (n0 : Nat) (Z0 : n0 ≤ h0.size) (O0 : Old Z n0 h0) (PE_ob0 : Exa Z h0 ob0 "com/example/minos/minos/analysis/Circuit") (PF_ob0_first : Fld Z h0 ob0 "com/example/minos/minos/analysis/Circuit" "first" "[I" (.ref ob1)) (PF_ob0_second : Fld Z h0 ob0 "com/example/minos/minos/analysis/Circuit" "second" "[I" (.ref ob2)) (PF_ob0_nodes : Fld Z h0 ob0 "com/example/minos/minos/analysis/Circuit" "nodes" "I" (.int (4 : Int32))) (PV_ob1 : Arv Z h0 ob1 k_ob1 .int (1024 : Int32) [(.int (0 : Int32)), (.int (-1 : Int32)), (.int (-1 : Int32)), (.int q0), (.int (0 : Int32)), (.int (0 : Int32))] (.int (0 : Int32))) (PV_ob2 : Arv Z h0 ob2 k_ob2 .int (1024 : Int32) [(.int (0 : Int32)), (.int (-1 : Int32)), (.int (-1 : Int32)), (.int q1), (.int (0 : Int32)), (.int (0 : Int32))] (.int (0 : Int32))) (ne_ob0_ob1 : ob0 ≠ ob1) (ne_ob1_ob2 : ob1 ≠ ob2) (ne_ob0_ob2 : ob0 ≠ ob2) (g_ob1 : n0 ≤ ob1) (g_ob2 : n0 ≤ ob2) (g_ob0 : n0 ≤ ob0) :
    MetFree l (⟨"com/example/minos/minos/analysis/Circuit", "input", "()I"⟩ : MethodName) (head1 (Jvm.Cond.code (⟨"com/example/minos/minos/analysis/Circuit", "input", "()I"⟩ : MethodName) prog_12_method_4_code 1 (some .int) :: ws) ({ frames := 1, cells := 0, slots := 0, locals := 15 } : Room)) (fun a U => a = #[(.ref ob0)] ∧ Z.Warmed39 U.vm ∧ U.heap = h0) (fun _ _ _ _ _ => True) (fun _ U o U' => ∃ v L, o = .returned v ∧ Q5_38 Z  ob0 ob1 ob2 k_ob1 q0 k_ob2 q1 h0 n0 v U'.heap L ∧ FrameEnd U o U' L ({ frames := 1, cells := 0, slots := 0, locals := 15 } : Room).cells ({ frames := 1, cells := 0, slots := 0, locals := 15 } : Room).slots) := by
  refine MetFree.of_bodySF (plainFor_of_name pn37) hisR ?_
  intro p e s m args below meth c s₁ Bd hml0 hP hK
  obtain ⟨rfl, hZ, hh⟩ := hP
  have hx := Bd.exec
  have hby := Bd.bytes
  have hml : c.maxLocals = 1 := hml0
  have hown : s.vm.findClass "com/example/minos/minos/analysis/Circuit" = some m.cls := findClass_of_methodNamed Bd.named
  have hnm := (name_of_methodNamed Bd.named Bd.method).1
  have X0 : Stand p l e ({ frames := 1, cells := 0, slots := 0, locals := 15 } : Room) s m #[(.ref ob0)] below meth c s₁ [] 0 0 := Stand.of_body Bd
  have e0 : s₁.heap = h0 := by rw [← hh, Bd.state]; rfl
  have N0 := Fr.nil n0
  have pre0 : ∀ t, Steps p.tables e below (s₁.setTop (mkF m 0 #[.val (.ref ob0)] [])) t → Steps p.tables e below (s₁.setTop (entryFrame m #[(.ref ob0)] 1)) t := fun t k => castTop (ef404 m ob0) k
  obtain ⟨cq1, q1a, q1b⟩ := Exa.cell PE_ob0
  obtain ⟨_, _, ⟨T1, L1, k1, n1⟩, -, X1, ⟨Lc1, hQ1, l1, y1, z1⟩, st1⟩ := X0.privateBack hx (y := (⟨"com/example/minos/minos/analysis/Circuit", "add", "(II)I"⟩ : MethodName)) hown (mvT hZ (hw _ (List.mem_of_getElem? (i := 39) rfl))) (mvT hZ (hw _ (List.mem_of_getElem? (i := 40) rfl))) (own_sel (mvT hZ (hw _ (List.mem_of_getElem? (i := 40) rfl))) (mvP hZ (hw _ (List.mem_of_getElem? (i := 41) rfl))) (mvT hZ (hw _ (List.mem_of_getElem? (i := 1) rfl))) (by decide)) (Cond.privateMethod_at (mvP hZ (hw _ (List.mem_of_getElem? (i := 41) rfl)) (args := #[]))) (mvT hZ (hw _ (List.mem_of_getElem? (i := 42) rfl))) (by decide) (backOf (W := 1) (rm6_37 l Z a0 hw []  ob0 ob1 ob2 k_ob1 q0 k_ob2 q1 h0 n0 (own_n0 O0) O0 PE_ob0 PF_ob0_first PF_ob0_second PF_ob0_nodes PV_ob1 PV_ob2 ne_ob0_ob1 ne_ob1_ob2 ne_ob0_ob2 g_ob1 g_ob2 g_ob0) hZ (hw _ (List.mem_of_getElem? (i := 42) rfl)) (hw _ (List.mem_of_getElem? (i := 2) rfl)) (by decide) (by decide)) (g := (mkF m 4 #[.val (.ref ob0)] [(.int (-1 : Int32)), (.int (-1 : Int32)), (.ref ob0), (.int (2 : Int32))])) rfl (by rw [hml]; rfl) (Steps.refl _) (a := ob0) (by rw [e0]; exact q1a) q1b (argsL := [(.int (-1 : Int32)), (.int (-1 : Int32))]) (rest := [(.int (2 : Int32))]) (lenOf pd70 rfl) rfl (by show 2 * 0 + _ ≤ _; exact Nat.le_of_eq rfl) (hb hby d5_4) (fun _ _ => ⟨rfl, e0, (by decide : 0 + 0 ≤ _), (by decide : 0 + 0 ≤ _)⟩)
  dsimp only [Pt.U, Pt.locs, Pt.cells, Pt.slots] at X1 l1 y1 z1 st1 hQ1
  subst l1 y1 z1
  obtain ⟨rfl, N1q, K1, O1, pf1_0, pf1_1, pf1_2, pf1_3, pf1_4, pf1_5, -⟩ := hQ1
  have KK1 : Keep h0 T1.heap [ob1, ob2, ob0] := (Keep.refl h0 [ob1, ob2, ob0]).trans K1 (allS (Or.inl (List.mem_of_getElem? (i := 0) rfl)) (allS (Or.inl (List.mem_of_getElem? (i := 1) rfl)) (allS (Or.inl (List.mem_of_getElem? (i := 2) rfl)) all0)))
  have N1 := Fr.app N0 N1q
  obtain ⟨fs, hr, hrun, hended, hW, hsame⟩ := X1.leave (v := some (.int (8 : Int32))) (fun h => by rw [Bd.returns] at h; cases h)
  refine ⟨_, _, pre0 _ ?_, hrun, hended, _, _, rfl, ?_, ⟨_, rfl⟩, hW, hsame.mono (by decide) (by decide)⟩
  · show Steps p.tables e below (s₁.setTop (mkF m 0 #[.val (.ref ob0)] [])) _
    refine XS.iconst X0.here hx rfl (hb hby d5_0) ?_
    show Steps p.tables e below (s₁.setTop (mkF m 1 #[.val (.ref ob0)] [(.int (2 : Int32))])) _
    refine XS.aloadN X0.here hx rfl (hb hby d5_1) rfl rfl ?_
    show Steps p.tables e below (s₁.setTop (mkF m 2 #[.val (.ref ob0)] [(.ref ob0), (.int (2 : Int32))])) _
    refine XS.iconst X0.here hx rfl (hb hby d5_2) ?_
    show Steps p.tables e below (s₁.setTop (mkF m 3 #[.val (.ref ob0)] [(.int (-1 : Int32)), (.ref ob0), (.int (2 : Int32))])) _
    refine XS.iconst X0.here hx rfl (hb hby d5_3) ?_
    show Steps p.tables e below (s₁.setTop (mkF m 4 #[.val (.ref ob0)] [(.int (-1 : Int32)), (.int (-1 : Int32)), (.ref ob0), (.int (2 : Int32))])) _
    refine st1.trans ?_
    show Steps p.tables e below (T1.setTop (mkF m 7 #[.val (.ref ob0)] [(.int (4 : Int32)), (.int (2 : Int32))])) _
    refine XS.imul X1.here hx rfl (hb hby d5_7) rfl ?_
    rw [show ((2 : Int32) * (4 : Int32)) = (8 : Int32) from by decide]
    show Steps p.tables e below (T1.setTop (mkF m 8 #[.val (.ref ob0)] [(.int (8 : Int32))])) _
    exact Jvm.RoadKit.retI X1 hx Bd.returns (hb hby d5_8) hr
  · exact ⟨rfl, N1, KK1, O1, pf1_0, pf1_1, pf1_2, pf1_3, pf1_4, pf1_5, trivial⟩
theorem d25_0 : decode prog_12_method_11_code 0 = .ok (.iload_n 1, 1) := by decide +kernel
theorem d25_1 : decode prog_12_method_11_code 1 = .ok (.ifCond .le 17, 3) := by decide +kernel
theorem d25_18 : decode prog_12_method_11_code 18 = .ok (.iconst 0, 1) := by decide +kernel
theorem d25_19 : decode prog_12_method_11_code 19 = .ok (.ireturn, 1) := by decide +kernel
theorem ef418 (m : MethodId) (x0 : Addr) (x1 : Int32) : entryFrame m #[(.ref x0), (.int x1)] 2 = mkF m 0 #[.val (.ref x0), .val (.int x1)] [] := by first | (simp [entryFrame, mkF, argsToLocals, Value.category]; done) | rfl
def Q25_39 (Z : State) (ob0 : Addr) (ob1 : Addr) (ob2 : Addr) (k_ob1 : ClassId) (q0 : Int32) (k_ob2 : ClassId) (q1 : Int32) (h0 : Heap) (n0 : Nat) (v : Option Value) (h : Heap) (L : List Loc) : Prop := v = some (.int (0 : Int32)) ∧ Fr n0 L ∧ h = h0
set_option maxRecDepth 65536 in
set_option maxHeartbeats 40000000 in
theorem rm25_39 (l : Launch) (Z : State) (a0 : Array Value) (hw : ∀ d ∈ tables_1, d.before a0 Z = true) (ws : List Jvm.Cond) (ob0 : Addr) (ob1 : Addr) (ob2 : Addr) (k_ob1 : ClassId) (q0 : Int32) (k_ob2 : ClassId) (q1 : Int32) (h0 : Heap) (n0 : Nat) (Z0 : n0 ≤ h0.size) (O0 : Old Z n0 h0) (PE_ob0 : Exa Z h0 ob0 "com/example/minos/minos/analysis/Circuit") (PF_ob0_first : Fld Z h0 ob0 "com/example/minos/minos/analysis/Circuit" "first" "[I" (.ref ob1)) (PF_ob0_second : Fld Z h0 ob0 "com/example/minos/minos/analysis/Circuit" "second" "[I" (.ref ob2)) (PF_ob0_nodes : Fld Z h0 ob0 "com/example/minos/minos/analysis/Circuit" "nodes" "I" (.int (5 : Int32))) (PV_ob1 : Arv Z h0 ob1 k_ob1 .int (1024 : Int32) [(.int (0 : Int32)), (.int (-1 : Int32)), (.int (-1 : Int32)), (.int q0), (.int (-1 : Int32)), (.int (0 : Int32))] (.int (0 : Int32))) (PV_ob2 : Arv Z h0 ob2 k_ob2 .int (1024 : Int32) [(.int (0 : Int32)), (.int (-1 : Int32)), (.int (-1 : Int32)), (.int q1), (.int (-1 : Int32)), (.int (0 : Int32))] (.int (0 : Int32))) :
    MetFree l (⟨"com/example/minos/minos/analysis/Circuit", "isGate", "(I)Z"⟩ : MethodName) (head1 (Jvm.Cond.code (⟨"com/example/minos/minos/analysis/Circuit", "isGate", "(I)Z"⟩ : MethodName) prog_12_method_11_code 2 (some .boolean) :: ws) ({ frames := 0, cells := 0, slots := 0, locals := 0 } : Room)) (fun a U => a = #[(.ref ob0), (.int (0 : Int32))] ∧ Z.Warmed39 U.vm ∧ U.heap = h0) (fun _ _ _ _ _ => True) (fun _ U o U' => ∃ v L, o = .returned v ∧ Q25_39 Z  ob0 ob1 ob2 k_ob1 q0 k_ob2 q1 h0 n0 v U'.heap L ∧ FrameEnd U o U' L ({ frames := 0, cells := 0, slots := 0, locals := 0 } : Room).cells ({ frames := 0, cells := 0, slots := 0, locals := 0 } : Room).slots) := by
  refine MetFree.of_bodySF (plainFor_of_name pn37) hisR ?_
  intro p e s m args below meth c s₁ Bd hml0 hP hK
  obtain ⟨rfl, hZ, hh⟩ := hP
  have hx := Bd.exec
  have hby := Bd.bytes
  have hml : c.maxLocals = 2 := hml0
  have hown : s.vm.findClass "com/example/minos/minos/analysis/Circuit" = some m.cls := findClass_of_methodNamed Bd.named
  have hnm := (name_of_methodNamed Bd.named Bd.method).1
  have X0 : Stand p l e ({ frames := 0, cells := 0, slots := 0, locals := 0 } : Room) s m #[(.ref ob0), (.int (0 : Int32))] below meth c s₁ [] 0 0 := Stand.of_body Bd
  have e0 : s₁.heap = h0 := by rw [← hh, Bd.state]; rfl
  have N0 := Fr.nil n0
  have pre0 : ∀ t, Steps p.tables e below (s₁.setTop (mkF m 0 #[.val (.ref ob0), .val (.int (0 : Int32))] [])) t → Steps p.tables e below (s₁.setTop (entryFrame m #[(.ref ob0), (.int (0 : Int32))] 2)) t := fun t k => castTop (ef418 m ob0 (0 : Int32)) k
  obtain ⟨fs, hr, hrun, hended, hW, hsame⟩ := X0.leave (v := some (.int (0 : Int32))) (fun h => by rw [Bd.returns] at h; cases h)
  refine ⟨_, _, pre0 _ ?_, hrun, hended, _, _, rfl, ?_, ⟨_, rfl⟩, hW, hsame.mono (by decide) (by decide)⟩
  · show Steps p.tables e below (s₁.setTop (mkF m 0 #[.val (.ref ob0), .val (.int (0 : Int32))] [])) _
    refine XS.iloadN X0.here hx rfl (hb hby d25_0) rfl ?_
    show Steps p.tables e below (s₁.setTop (mkF m 1 #[.val (.ref ob0), .val (.int (0 : Int32))] [(.int (0 : Int32))])) _
    refine XS.ifYes X0.here hx rfl (pc0 := 1) (pc' := 18) rfl (hb hby d25_1) rfl ((if0 _ _).trans (flt (by decide : ¬ ((0 : Int32) < (0 : Int32)))).2.2.2) (by decide) (by decide) ?_
    show Steps p.tables e below (s₁.setTop (mkF m 18 #[.val (.ref ob0), .val (.int (0 : Int32))] [])) _
    refine XS.iconst X0.here hx rfl (hb hby d25_18) ?_
    show Steps p.tables e below (s₁.setTop (mkF m 19 #[.val (.ref ob0), .val (.int (0 : Int32))] [(.int (0 : Int32))])) _
    exact retN X0 hx (t := .boolean) Bd.returns (by simp) (hb hby d25_19) hr
  · exact ⟨rfl, N0, e0⟩
theorem pd419 : parseMethodDescriptor "(I)Z" = some ⟨[.int], some .boolean⟩ := by decide +kernel
def Q0 (h0 : Heap) (n0 : Nat) (v : Option Value) (h : Heap) (L : List Loc) : Prop := v = some (.int (1 : Int32)) ∧ Fr n0 L
set_option maxRecDepth 65536 in
set_option maxHeartbeats 40000000 in
theorem lT10 {p : Program} {l : Launch} {e : Env} {s : State} {m : MethodId} {args : Array Value} {below : List Frame} {meth : Method} {c : Code} {T0 : State} {locs : List Loc} {Z : State} {a0 : Array Value} {h0 : Heap} {n0 : Nat} (p1 : Int32) (p2 : Int32) (p3 : Int32) (co : Addr) (sa : Int32) (sb : Int32) (rv : Int32) (F : Addr) (S : Addr) (k_F : ClassId) (va : Int32) (k_S : ClassId) (vb : Int32)
    (X0 : Stand p l e room_1 s m args below meth c T0 locs 8 2084) (hx : p.tables.exec = Jvm.exec) (hZ : Z.Warmed39 s.vm) (hw : ∀ d ∈ tables_1, d.before a0 Z = true) (hby : c.code = code) (hml : c.maxLocals = 12) (hown : s.vm.findClass "com/example/minos/minos/analysis/CircuitIsGatePinLaw" = some m.cls) (e0 : T0.heap = h0) (N0 : Fr n0 locs) (O0 : Old Z n0 h0) (hk : ((p1 &&& (2147483647 : Int32)) % (5 : Int32)) = (0 : Int32)) (PE_co : Exa Z h0 co "com/example/minos/minos/analysis/Circuit") (PF_co_first : Fld Z h0 co "com/example/minos/minos/analysis/Circuit" "first" "[I" (.ref F)) (PF_co_second : Fld Z h0 co "com/example/minos/minos/analysis/Circuit" "second" "[I" (.ref S)) (PF_co_nodes : Fld Z h0 co "com/example/minos/minos/analysis/Circuit" "nodes" "I" (.int (4 : Int32))) (PV_F : Arv Z h0 F k_F .int (1024 : Int32) [(.int (0 : Int32)), (.int (-1 : Int32)), (.int (-1 : Int32)), (.int va), (.int (0 : Int32)), (.int (0 : Int32))] (.int (0 : Int32))) (PV_S : Arv Z h0 S k_S .int (1024 : Int32) [(.int (0 : Int32)), (.int (-1 : Int32)), (.int (-1 : Int32)), (.int vb), (.int (0 : Int32)), (.int (0 : Int32))] (.int (0 : Int32))) (ne_F_co : F ≠ co) (ne_F_S : F ≠ S) (ne_S_co : S ≠ co) (g_F : n0 ≤ F) (g_S : n0 ≤ S) (g_co : n0 ≤ co) (hd0 : ¬ (va = (-1 : Int32))) (hret : meth.sig.returnType = some .boolean) (hlk : meth.locks = false) {entry : State} (pre0 : ∀ t, Steps p.tables e below (T0.setTop (mkF m 64 #[.val (.int p1), .val (.int p2), .val (.int p3), .val (.ref co), .val (.int (2 : Int32)), .val (.int (4 : Int32)), .val (.int (1 : Int32)), .val (.int sa), .val (.int sb), .unset, .unset, .unset] [(.int rv)])) t → Steps p.tables e below entry t) :
    ∃ s₂ o, Steps p.tables e below entry s₂ ∧ s₂.status = .running ∧ Ended s₂ below o ∧ ∃ v L, o = .returned v ∧ Q0 h0 n0 v s₂.heap L ∧ FrameEnd s o s₂ L room_1.cells room_1.slots := by
  obtain ⟨cq1, kq1, q1a, q1b, q1c⟩ := isOf hZ e0 PE_co
  obtain ⟨_, _, ⟨T1, L1, k1, n1⟩, -, X1, ⟨Lc1, hQ1, l1, y1, z1⟩, st1⟩ := X0.virtualBack hx (y := (⟨"com/example/minos/minos/analysis/Circuit", "input", "()I"⟩ : MethodName)) (z := (⟨"com/example/minos/minos/analysis/Circuit", "input", "()I"⟩ : MethodName)) hown (mvT hZ (hw _ (List.mem_of_getElem? (i := 34) rfl))) (mvT hZ (hw _ (List.mem_of_getElem? (i := 35) rfl))) (notFace_of_selects (args := #[]) (mvT hZ (hw _ (List.mem_of_getElem? (i := 37) rfl)))) (mvT hZ (hw _ (List.mem_of_getElem? (i := 37) rfl))) (mvT hZ (hw _ (List.mem_of_getElem? (i := 36) rfl))) (by decide) (backOf (W := 0) (rm5_38 l Z a0 hw []  co F S k_F va k_S vb h0 n0 (own_n0 O0) O0 PE_co PF_co_first PF_co_second PF_co_nodes PV_F PV_S (Ne.symm ne_F_co) ne_F_S (Ne.symm ne_S_co) g_F g_S g_co) hZ (hw _ (List.mem_of_getElem? (i := 38) rfl)) (hw _ (List.mem_of_getElem? (i := 2) rfl)) (by decide) (by decide)) q1a q1c (g := (mkF m 66 #[.val (.int p1), .val (.int p2), .val (.int p3), .val (.ref co), .val (.int (2 : Int32)), .val (.int (4 : Int32)), .val (.int (1 : Int32)), .val (.int sa), .val (.int sb), .unset, .unset, .unset] [(.ref co)])) rfl (by rw [hml]; rfl) (Steps.refl _) (argsL := []) (rest := []) (lenOf pd120 rfl) rfl (by show 2 * 0 + _ ≤ _; exact Nat.le_of_eq rfl) (hb hby at_66) (fun _ _ => ⟨rfl, e0, (by decide : 8 + 0 ≤ _), (by decide : 2084 + 0 ≤ _)⟩)
  dsimp only [Pt.U, Pt.locs, Pt.cells, Pt.slots] at X1 l1 y1 z1 st1 hQ1
  subst l1 y1 z1
  obtain ⟨rfl, N1q, K1, O1, pf1_0, pf1_1, pf1_2, pf1_3, pf1_4, pf1_5, -⟩ := hQ1
  have KK1 : Keep h0 T1.heap [F, S, co] := (Keep.refl h0 [F, S, co]).trans K1 (allS (Or.inl (List.mem_of_getElem? (i := 0) rfl)) (allS (Or.inl (List.mem_of_getElem? (i := 1) rfl)) (allS (Or.inl (List.mem_of_getElem? (i := 2) rfl)) all0)))
  have N1 := Fr.app N0 N1q
  obtain ⟨cq2, kq2, q2a, q2b, q2c⟩ := isOf hZ rfl pf1_2
  obtain ⟨_, _, ⟨T2, L2, k2, n2⟩, -, X2, ⟨Lc2, hQ2, l2, y2, z2⟩, st2⟩ := X1.virtualBack hx (y := (⟨"com/example/minos/minos/analysis/Circuit", "isGate", "(I)Z"⟩ : MethodName)) (z := (⟨"com/example/minos/minos/analysis/Circuit", "isGate", "(I)Z"⟩ : MethodName)) hown (mvT hZ (hw _ (List.mem_of_getElem? (i := 167) rfl))) (mvT hZ (hw _ (List.mem_of_getElem? (i := 168) rfl))) (notFace_of_selects (args := #[]) (mvT hZ (hw _ (List.mem_of_getElem? (i := 170) rfl)))) (mvT hZ (hw _ (List.mem_of_getElem? (i := 170) rfl))) (mvT hZ (hw _ (List.mem_of_getElem? (i := 169) rfl))) (by decide) (backOf (W := 0) (rm25_39 l Z a0 hw []  co F S k_F va k_S vb T1.heap n0 (own_n0 O1) O1 pf1_2 pf1_3 pf1_4 pf1_5 pf1_0 pf1_1) hZ (hw _ (List.mem_of_getElem? (i := 171) rfl)) (hw _ (List.mem_of_getElem? (i := 2) rfl)) (by decide) (by decide)) q2a q2c (g := (mkF m 125 #[.val (.int p1), .val (.int p2), .val (.int p3), .val (.ref co), .val (.int (2 : Int32)), .val (.int (4 : Int32)), .val (.int (1 : Int32)), .val (.int sa), .val (.int sb), .val (.int (3 : Int32)), .val (.int (0 : Int32)), .val (.int (0 : Int32))] [(.int (0 : Int32)), (.ref co)])) rfl (by rw [hml]; rfl) (Steps.refl _) (argsL := [(.int (0 : Int32))]) (rest := []) (lenOf pd419 rfl) rfl (by show 2 * 0 + _ ≤ _; exact Nat.le_of_eq rfl) (hb hby at_125) (fun _ _ => ⟨rfl, rfl, (by decide : 8 + 0 ≤ _), (by decide : 2084 + 0 ≤ _)⟩)
  dsimp only [Pt.U, Pt.locs, Pt.cells, Pt.slots] at X2 l2 y2 z2 st2 hQ2
  subst l2 y2 z2
  obtain ⟨rfl, N2q, e2⟩ := hQ2
  have N2 := Fr.app N1 N2q
  obtain ⟨fs, hr, hrun, hended, hW, hsame⟩ := X2.leave (v := some (.int (1 : Int32))) (fun h => by rw [hret] at h; cases h) hlk
  refine ⟨_, _, pre0 _ ?_, hrun, hended, _, _, rfl, ?_, ⟨_, rfl⟩, hW, hsame.mono (by decide) (by decide)⟩
  · show Steps p.tables e below (T0.setTop (mkF m 64 #[.val (.int p1), .val (.int p2), .val (.int p3), .val (.ref co), .val (.int (2 : Int32)), .val (.int (4 : Int32)), .val (.int (1 : Int32)), .val (.int sa), .val (.int sb), .unset, .unset, .unset] [(.int rv)])) _
    refine XS.pop X0.here hx rfl (hb hby at_64) rfl rfl ?_
    show Steps p.tables e below (T0.setTop (mkF m 65 #[.val (.int p1), .val (.int p2), .val (.int p3), .val (.ref co), .val (.int (2 : Int32)), .val (.int (4 : Int32)), .val (.int (1 : Int32)), .val (.int sa), .val (.int sb), .unset, .unset, .unset] [])) _
    refine XS.aloadN X0.here hx rfl (hb hby at_65) rfl rfl ?_
    show Steps p.tables e below (T0.setTop (mkF m 66 #[.val (.int p1), .val (.int p2), .val (.int p3), .val (.ref co), .val (.int (2 : Int32)), .val (.int (4 : Int32)), .val (.int (1 : Int32)), .val (.int sa), .val (.int sb), .unset, .unset, .unset] [(.ref co)])) _
    refine st1.trans ?_
    show Steps p.tables e below (T1.setTop (mkF m 69 #[.val (.int p1), .val (.int p2), .val (.int p3), .val (.ref co), .val (.int (2 : Int32)), .val (.int (4 : Int32)), .val (.int (1 : Int32)), .val (.int sa), .val (.int sb), .unset, .unset, .unset] [(.int (8 : Int32))])) _
    refine XS.pop X1.here hx rfl (hb hby at_69) rfl rfl ?_
    show Steps p.tables e below (T1.setTop (mkF m 70 #[.val (.int p1), .val (.int p2), .val (.int p3), .val (.ref co), .val (.int (2 : Int32)), .val (.int (4 : Int32)), .val (.int (1 : Int32)), .val (.int sa), .val (.int sb), .unset, .unset, .unset] [])) _
    refine XS.iconst X1.here hx rfl (hb hby at_70) ?_
    show Steps p.tables e below (T1.setTop (mkF m 71 #[.val (.int p1), .val (.int p2), .val (.int p3), .val (.ref co), .val (.int (2 : Int32)), .val (.int (4 : Int32)), .val (.int (1 : Int32)), .val (.int sa), .val (.int sb), .unset, .unset, .unset] [(.int (3 : Int32))])) _
    refine XS.istore X1.here hx rfl (hb hby at_71) rfl (l' := #[.val (.int p1), .val (.int p2), .val (.int p3), .val (.ref co), .val (.int (2 : Int32)), .val (.int (4 : Int32)), .val (.int (1 : Int32)), .val (.int sa), .val (.int sb), .val (.int (3 : Int32)), .unset, .unset]) rfl ?_
    show Steps p.tables e below (T1.setTop (mkF m 73 #[.val (.int p1), .val (.int p2), .val (.int p3), .val (.ref co), .val (.int (2 : Int32)), .val (.int (4 : Int32)), .val (.int (1 : Int32)), .val (.int sa), .val (.int sb), .val (.int (3 : Int32)), .unset, .unset] [])) _
    refine XS.goto X1.here hx rfl (pc0 := 73) (pc' := 100) rfl (hb hby at_73) (by decide) (by decide) ?_
    show Steps p.tables e below (T1.setTop (mkF m 100 #[.val (.int p1), .val (.int p2), .val (.int p3), .val (.ref co), .val (.int (2 : Int32)), .val (.int (4 : Int32)), .val (.int (1 : Int32)), .val (.int sa), .val (.int sb), .val (.int (3 : Int32)), .unset, .unset] [])) _
    refine XS.iloadN X1.here hx rfl (hb hby at_100) rfl ?_
    show Steps p.tables e below (T1.setTop (mkF m 101 #[.val (.int p1), .val (.int p2), .val (.int p3), .val (.ref co), .val (.int (2 : Int32)), .val (.int (4 : Int32)), .val (.int (1 : Int32)), .val (.int sa), .val (.int sb), .val (.int (3 : Int32)), .unset, .unset] [(.int p1)])) _
    refine X1.ldcInt hx hown (mvT hZ (hw _ (List.mem_of_getElem? (i := 166) rfl))) (g := (mkF m 101 #[.val (.int p1), .val (.int p2), .val (.int p3), .val (.ref co), .val (.int (2 : Int32)), .val (.int (4 : Int32)), .val (.int (1 : Int32)), .val (.int sa), .val (.int sb), .val (.int (3 : Int32)), .unset, .unset] [(.int p1)])) rfl (hb hby at_101) _ ?_
    show Steps p.tables e below (T1.setTop (mkF m 103 #[.val (.int p1), .val (.int p2), .val (.int p3), .val (.ref co), .val (.int (2 : Int32)), .val (.int (4 : Int32)), .val (.int (1 : Int32)), .val (.int sa), .val (.int sb), .val (.int (3 : Int32)), .unset, .unset] [(.int (2147483647 : Int32)), (.int p1)])) _
    refine XS.iand X1.here hx rfl (hb hby at_103) rfl ?_
    show Steps p.tables e below (T1.setTop (mkF m 104 #[.val (.int p1), .val (.int p2), .val (.int p3), .val (.ref co), .val (.int (2 : Int32)), .val (.int (4 : Int32)), .val (.int (1 : Int32)), .val (.int sa), .val (.int sb), .val (.int (3 : Int32)), .unset, .unset] [(.int (p1 &&& (2147483647 : Int32)))])) _
    refine XS.iconst X1.here hx rfl (hb hby at_104) ?_
    show Steps p.tables e below (T1.setTop (mkF m 105 #[.val (.int p1), .val (.int p2), .val (.int p3), .val (.ref co), .val (.int (2 : Int32)), .val (.int (4 : Int32)), .val (.int (1 : Int32)), .val (.int sa), .val (.int sb), .val (.int (3 : Int32)), .unset, .unset] [(.int (5 : Int32)), (.int (p1 &&& (2147483647 : Int32)))])) _
    refine iremM X1 hx rfl (hb hby at_105) rfl (by decide) ?_
    rw [hk]
    show Steps p.tables e below (T1.setTop (mkF m 106 #[.val (.int p1), .val (.int p2), .val (.int p3), .val (.ref co), .val (.int (2 : Int32)), .val (.int (4 : Int32)), .val (.int (1 : Int32)), .val (.int sa), .val (.int sb), .val (.int (3 : Int32)), .unset, .unset] [(.int (0 : Int32))])) _
    refine XS.istore X1.here hx rfl (hb hby at_106) rfl (l' := #[.val (.int p1), .val (.int p2), .val (.int p3), .val (.ref co), .val (.int (2 : Int32)), .val (.int (4 : Int32)), .val (.int (1 : Int32)), .val (.int sa), .val (.int sb), .val (.int (3 : Int32)), .val (.int (0 : Int32)), .unset]) rfl ?_
    show Steps p.tables e below (T1.setTop (mkF m 108 #[.val (.int p1), .val (.int p2), .val (.int p3), .val (.ref co), .val (.int (2 : Int32)), .val (.int (4 : Int32)), .val (.int (1 : Int32)), .val (.int sa), .val (.int sb), .val (.int (3 : Int32)), .val (.int (0 : Int32)), .unset] [])) _
    refine XS.iload X1.here hx rfl (hb hby at_108) rfl ?_
    show Steps p.tables e below (T1.setTop (mkF m 110 #[.val (.int p1), .val (.int p2), .val (.int p3), .val (.ref co), .val (.int (2 : Int32)), .val (.int (4 : Int32)), .val (.int (1 : Int32)), .val (.int sa), .val (.int sb), .val (.int (3 : Int32)), .val (.int (0 : Int32)), .unset] [(.int (0 : Int32))])) _
    refine XS.iload X1.here hx rfl (hb hby at_110) rfl ?_
    show Steps p.tables e below (T1.setTop (mkF m 112 #[.val (.int p1), .val (.int p2), .val (.int p3), .val (.ref co), .val (.int (2 : Int32)), .val (.int (4 : Int32)), .val (.int (1 : Int32)), .val (.int sa), .val (.int sb), .val (.int (3 : Int32)), .val (.int (0 : Int32)), .unset] [(.int (3 : Int32)), (.int (0 : Int32))])) _
    refine XS.icmpYes X1.here hx rfl (pc0 := 112) (pc' := 119) rfl (hb hby at_112) rfl (feq (by decide : ¬ ((0 : Int32) = (3 : Int32)))).2 (by decide) (by decide) ?_
    show Steps p.tables e below (T1.setTop (mkF m 119 #[.val (.int p1), .val (.int p2), .val (.int p3), .val (.ref co), .val (.int (2 : Int32)), .val (.int (4 : Int32)), .val (.int (1 : Int32)), .val (.int sa), .val (.int sb), .val (.int (3 : Int32)), .val (.int (0 : Int32)), .unset] [])) _
    refine XS.iconst X1.here hx rfl (hb hby at_119) ?_
    show Steps p.tables e below (T1.setTop (mkF m 120 #[.val (.int p1), .val (.int p2), .val (.int p3), .val (.ref co), .val (.int (2 : Int32)), .val (.int (4 : Int32)), .val (.int (1 : Int32)), .val (.int sa), .val (.int sb), .val (.int (3 : Int32)), .val (.int (0 : Int32)), .unset] [(.int (0 : Int32))])) _
    refine XS.istore X1.here hx rfl (hb hby at_120) rfl (l' := #[.val (.int p1), .val (.int p2), .val (.int p3), .val (.ref co), .val (.int (2 : Int32)), .val (.int (4 : Int32)), .val (.int (1 : Int32)), .val (.int sa), .val (.int sb), .val (.int (3 : Int32)), .val (.int (0 : Int32)), .val (.int (0 : Int32))]) rfl ?_
    show Steps p.tables e below (T1.setTop (mkF m 122 #[.val (.int p1), .val (.int p2), .val (.int p3), .val (.ref co), .val (.int (2 : Int32)), .val (.int (4 : Int32)), .val (.int (1 : Int32)), .val (.int sa), .val (.int sb), .val (.int (3 : Int32)), .val (.int (0 : Int32)), .val (.int (0 : Int32))] [])) _
    refine XS.aloadN X1.here hx rfl (hb hby at_122) rfl rfl ?_
    show Steps p.tables e below (T1.setTop (mkF m 123 #[.val (.int p1), .val (.int p2), .val (.int p3), .val (.ref co), .val (.int (2 : Int32)), .val (.int (4 : Int32)), .val (.int (1 : Int32)), .val (.int sa), .val (.int sb), .val (.int (3 : Int32)), .val (.int (0 : Int32)), .val (.int (0 : Int32))] [(.ref co)])) _
    refine XS.iload X1.here hx rfl (hb hby at_123) rfl ?_
    show Steps p.tables e below (T1.setTop (mkF m 125 #[.val (.int p1), .val (.int p2), .val (.int p3), .val (.ref co), .val (.int (2 : Int32)), .val (.int (4 : Int32)), .val (.int (1 : Int32)), .val (.int sa), .val (.int sb), .val (.int (3 : Int32)), .val (.int (0 : Int32)), .val (.int (0 : Int32))] [(.int (0 : Int32)), (.ref co)])) _
    refine st2.trans ?_
    show Steps p.tables e below (T2.setTop (mkF m 128 #[.val (.int p1), .val (.int p2), .val (.int p3), .val (.ref co), .val (.int (2 : Int32)), .val (.int (4 : Int32)), .val (.int (1 : Int32)), .val (.int sa), .val (.int sb), .val (.int (3 : Int32)), .val (.int (0 : Int32)), .val (.int (0 : Int32))] [(.int (0 : Int32))])) _
    refine XS.iload X2.here hx rfl (hb hby at_128) rfl ?_
    show Steps p.tables e below (T2.setTop (mkF m 130 #[.val (.int p1), .val (.int p2), .val (.int p3), .val (.ref co), .val (.int (2 : Int32)), .val (.int (4 : Int32)), .val (.int (1 : Int32)), .val (.int sa), .val (.int sb), .val (.int (3 : Int32)), .val (.int (0 : Int32)), .val (.int (0 : Int32))] [(.int (0 : Int32)), (.int (0 : Int32))])) _
    refine XS.icmpNo X2.here hx rfl (hb hby at_130) rfl (teq (by decide : (0 : Int32) = (0 : Int32))).2 ?_
    show Steps p.tables e below (T2.setTop (mkF m 133 #[.val (.int p1), .val (.int p2), .val (.int p3), .val (.ref co), .val (.int (2 : Int32)), .val (.int (4 : Int32)), .val (.int (1 : Int32)), .val (.int sa), .val (.int sb), .val (.int (3 : Int32)), .val (.int (0 : Int32)), .val (.int (0 : Int32))] [])) _
    refine XS.iconst X2.here hx rfl (hb hby at_133) ?_
    show Steps p.tables e below (T2.setTop (mkF m 134 #[.val (.int p1), .val (.int p2), .val (.int p3), .val (.ref co), .val (.int (2 : Int32)), .val (.int (4 : Int32)), .val (.int (1 : Int32)), .val (.int sa), .val (.int sb), .val (.int (3 : Int32)), .val (.int (0 : Int32)), .val (.int (0 : Int32))] [(.int (1 : Int32))])) _
    refine XS.goto X2.here hx rfl (pc0 := 134) (pc' := 138) rfl (hb hby at_134) (by decide) (by decide) ?_
    show Steps p.tables e below (T2.setTop (mkF m 138 #[.val (.int p1), .val (.int p2), .val (.int p3), .val (.ref co), .val (.int (2 : Int32)), .val (.int (4 : Int32)), .val (.int (1 : Int32)), .val (.int sa), .val (.int sb), .val (.int (3 : Int32)), .val (.int (0 : Int32)), .val (.int (0 : Int32))] [(.int (1 : Int32))])) _
    exact retN X2 hx (t := .boolean) hret (by simp) (hb hby at_138) hr
  · exact ⟨rfl, N2⟩
def Q25_41 (Z : State) (ob0 : Addr) (ob1 : Addr) (ob2 : Addr) (k_ob1 : ClassId) (q0 : Int32) (k_ob2 : ClassId) (q1 : Int32) (h0 : Heap) (n0 : Nat) (v : Option Value) (h : Heap) (L : List Loc) : Prop := v = some (.int (0 : Int32)) ∧ Fr n0 L ∧ h = h0
set_option maxRecDepth 65536 in
set_option maxHeartbeats 40000000 in
theorem rm25_41 (l : Launch) (Z : State) (a0 : Array Value) (hw : ∀ d ∈ tables_1, d.before a0 Z = true) (ws : List Jvm.Cond) (ob0 : Addr) (ob1 : Addr) (ob2 : Addr) (k_ob1 : ClassId) (q0 : Int32) (k_ob2 : ClassId) (q1 : Int32) (h0 : Heap) (n0 : Nat) (Z0 : n0 ≤ h0.size) (O0 : Old Z n0 h0) (PE_ob0 : Exa Z h0 ob0 "com/example/minos/minos/analysis/Circuit") (PF_ob0_first : Fld Z h0 ob0 "com/example/minos/minos/analysis/Circuit" "first" "[I" (.ref ob1)) (PF_ob0_second : Fld Z h0 ob0 "com/example/minos/minos/analysis/Circuit" "second" "[I" (.ref ob2)) (PF_ob0_nodes : Fld Z h0 ob0 "com/example/minos/minos/analysis/Circuit" "nodes" "I" (.int (5 : Int32))) (PV_ob1 : Arv Z h0 ob1 k_ob1 .int (1024 : Int32) [(.int (0 : Int32)), (.int (-1 : Int32)), (.int (-1 : Int32)), (.int (-1 : Int32)), (.int q0), (.int (0 : Int32))] (.int (0 : Int32))) (PV_ob2 : Arv Z h0 ob2 k_ob2 .int (1024 : Int32) [(.int (0 : Int32)), (.int (-1 : Int32)), (.int (-1 : Int32)), (.int (-1 : Int32)), (.int q1), (.int (0 : Int32))] (.int (0 : Int32))) :
    MetFree l (⟨"com/example/minos/minos/analysis/Circuit", "isGate", "(I)Z"⟩ : MethodName) (head1 (Jvm.Cond.code (⟨"com/example/minos/minos/analysis/Circuit", "isGate", "(I)Z"⟩ : MethodName) prog_12_method_11_code 2 (some .boolean) :: ws) ({ frames := 0, cells := 0, slots := 0, locals := 0 } : Room)) (fun a U => a = #[(.ref ob0), (.int (0 : Int32))] ∧ Z.Warmed39 U.vm ∧ U.heap = h0) (fun _ _ _ _ _ => True) (fun _ U o U' => ∃ v L, o = .returned v ∧ Q25_41 Z  ob0 ob1 ob2 k_ob1 q0 k_ob2 q1 h0 n0 v U'.heap L ∧ FrameEnd U o U' L ({ frames := 0, cells := 0, slots := 0, locals := 0 } : Room).cells ({ frames := 0, cells := 0, slots := 0, locals := 0 } : Room).slots) := by
  refine MetFree.of_bodySF (plainFor_of_name pn37) hisR ?_
  intro p e s m args below meth c s₁ Bd hml0 hP hK
  obtain ⟨rfl, hZ, hh⟩ := hP
  have hx := Bd.exec
  have hby := Bd.bytes
  have hml : c.maxLocals = 2 := hml0
  have hown : s.vm.findClass "com/example/minos/minos/analysis/Circuit" = some m.cls := findClass_of_methodNamed Bd.named
  have hnm := (name_of_methodNamed Bd.named Bd.method).1
  have X0 : Stand p l e ({ frames := 0, cells := 0, slots := 0, locals := 0 } : Room) s m #[(.ref ob0), (.int (0 : Int32))] below meth c s₁ [] 0 0 := Stand.of_body Bd
  have e0 : s₁.heap = h0 := by rw [← hh, Bd.state]; rfl
  have N0 := Fr.nil n0
  have pre0 : ∀ t, Steps p.tables e below (s₁.setTop (mkF m 0 #[.val (.ref ob0), .val (.int (0 : Int32))] [])) t → Steps p.tables e below (s₁.setTop (entryFrame m #[(.ref ob0), (.int (0 : Int32))] 2)) t := fun t k => castTop (ef418 m ob0 (0 : Int32)) k
  obtain ⟨fs, hr, hrun, hended, hW, hsame⟩ := X0.leave (v := some (.int (0 : Int32))) (fun h => by rw [Bd.returns] at h; cases h)
  refine ⟨_, _, pre0 _ ?_, hrun, hended, _, _, rfl, ?_, ⟨_, rfl⟩, hW, hsame.mono (by decide) (by decide)⟩
  · show Steps p.tables e below (s₁.setTop (mkF m 0 #[.val (.ref ob0), .val (.int (0 : Int32))] [])) _
    refine XS.iloadN X0.here hx rfl (hb hby d25_0) rfl ?_
    show Steps p.tables e below (s₁.setTop (mkF m 1 #[.val (.ref ob0), .val (.int (0 : Int32))] [(.int (0 : Int32))])) _
    refine XS.ifYes X0.here hx rfl (pc0 := 1) (pc' := 18) rfl (hb hby d25_1) rfl ((if0 _ _).trans (flt (by decide : ¬ ((0 : Int32) < (0 : Int32)))).2.2.2) (by decide) (by decide) ?_
    show Steps p.tables e below (s₁.setTop (mkF m 18 #[.val (.ref ob0), .val (.int (0 : Int32))] [])) _
    refine XS.iconst X0.here hx rfl (hb hby d25_18) ?_
    show Steps p.tables e below (s₁.setTop (mkF m 19 #[.val (.ref ob0), .val (.int (0 : Int32))] [(.int (0 : Int32))])) _
    exact retN X0 hx (t := .boolean) Bd.returns (by simp) (hb hby d25_19) hr
  · exact ⟨rfl, N0, e0⟩
set_option maxRecDepth 65536 in
set_option maxHeartbeats 40000000 in
theorem lT00 {p : Program} {l : Launch} {e : Env} {s : State} {m : MethodId} {args : Array Value} {below : List Frame} {meth : Method} {c : Code} {T0 : State} {locs : List Loc} {Z : State} {a0 : Array Value} {h0 : Heap} {n0 : Nat} (p1 : Int32) (p2 : Int32) (p3 : Int32) (co : Addr) (sa : Int32) (sb : Int32) (rv : Int32) (F : Addr) (S : Addr) (k_F : ClassId) (va : Int32) (k_S : ClassId) (vb : Int32)
    (X0 : Stand p l e room_1 s m args below meth c T0 locs 8 2084) (hx : p.tables.exec = Jvm.exec) (hZ : Z.Warmed39 s.vm) (hw : ∀ d ∈ tables_1, d.before a0 Z = true) (hby : c.code = code) (hml : c.maxLocals = 12) (hown : s.vm.findClass "com/example/minos/minos/analysis/CircuitIsGatePinLaw" = some m.cls) (e0 : T0.heap = h0) (N0 : Fr n0 locs) (O0 : Old Z n0 h0) (hk : ((p1 &&& (2147483647 : Int32)) % (5 : Int32)) = (0 : Int32)) (PE_co : Exa Z h0 co "com/example/minos/minos/analysis/Circuit") (PF_co_first : Fld Z h0 co "com/example/minos/minos/analysis/Circuit" "first" "[I" (.ref F)) (PF_co_second : Fld Z h0 co "com/example/minos/minos/analysis/Circuit" "second" "[I" (.ref S)) (PF_co_nodes : Fld Z h0 co "com/example/minos/minos/analysis/Circuit" "nodes" "I" (.int (5 : Int32))) (PV_F : Arv Z h0 F k_F .int (1024 : Int32) [(.int (0 : Int32)), (.int (-1 : Int32)), (.int (-1 : Int32)), (.int (-1 : Int32)), (.int va), (.int (0 : Int32))] (.int (0 : Int32))) (PV_S : Arv Z h0 S k_S .int (1024 : Int32) [(.int (0 : Int32)), (.int (-1 : Int32)), (.int (-1 : Int32)), (.int (-1 : Int32)), (.int vb), (.int (0 : Int32))] (.int (0 : Int32))) (hd0 : ¬ (va = (-1 : Int32))) (hret : meth.sig.returnType = some .boolean) (hlk : meth.locks = false) {entry : State} (pre0 : ∀ t, Steps p.tables e below (T0.setTop (mkF m 96 #[.val (.int p1), .val (.int p2), .val (.int p3), .val (.ref co), .val (.int (2 : Int32)), .val (.int (4 : Int32)), .val (.int (0 : Int32)), .val (.int sa), .val (.int sb), .unset, .val (.int (6 : Int32)), .unset] [(.int rv)])) t → Steps p.tables e below entry t) :
    ∃ s₂ o, Steps p.tables e below entry s₂ ∧ s₂.status = .running ∧ Ended s₂ below o ∧ ∃ v L, o = .returned v ∧ Q0 h0 n0 v s₂.heap L ∧ FrameEnd s o s₂ L room_1.cells room_1.slots := by
  obtain ⟨cq1, kq1, q1a, q1b, q1c⟩ := isOf hZ e0 PE_co
  obtain ⟨_, _, ⟨T1, L1, k1, n1⟩, -, X1, ⟨Lc1, hQ1, l1, y1, z1⟩, st1⟩ := X0.virtualBack hx (y := (⟨"com/example/minos/minos/analysis/Circuit", "isGate", "(I)Z"⟩ : MethodName)) (z := (⟨"com/example/minos/minos/analysis/Circuit", "isGate", "(I)Z"⟩ : MethodName)) hown (mvT hZ (hw _ (List.mem_of_getElem? (i := 167) rfl))) (mvT hZ (hw _ (List.mem_of_getElem? (i := 168) rfl))) (notFace_of_selects (args := #[]) (mvT hZ (hw _ (List.mem_of_getElem? (i := 170) rfl)))) (mvT hZ (hw _ (List.mem_of_getElem? (i := 170) rfl))) (mvT hZ (hw _ (List.mem_of_getElem? (i := 169) rfl))) (by decide) (backOf (W := 0) (rm25_41 l Z a0 hw []  co F S k_F va k_S vb h0 n0 (own_n0 O0) O0 PE_co PF_co_first PF_co_second PF_co_nodes PV_F PV_S) hZ (hw _ (List.mem_of_getElem? (i := 171) rfl)) (hw _ (List.mem_of_getElem? (i := 2) rfl)) (by decide) (by decide)) q1a q1c (g := (mkF m 125 #[.val (.int p1), .val (.int p2), .val (.int p3), .val (.ref co), .val (.int (2 : Int32)), .val (.int (4 : Int32)), .val (.int (0 : Int32)), .val (.int sa), .val (.int sb), .val (.int (4 : Int32)), .val (.int (0 : Int32)), .val (.int (0 : Int32))] [(.int (0 : Int32)), (.ref co)])) rfl (by rw [hml]; rfl) (Steps.refl _) (argsL := [(.int (0 : Int32))]) (rest := []) (lenOf pd419 rfl) rfl (by show 2 * 0 + _ ≤ _; exact Nat.le_of_eq rfl) (hb hby at_125) (fun _ _ => ⟨rfl, e0, (by decide : 8 + 0 ≤ _), (by decide : 2084 + 0 ≤ _)⟩)
  dsimp only [Pt.U, Pt.locs, Pt.cells, Pt.slots] at X1 l1 y1 z1 st1 hQ1
  subst l1 y1 z1
  obtain ⟨rfl, N1q, e1⟩ := hQ1
  have N1 := Fr.app N0 N1q
  obtain ⟨fs, hr, hrun, hended, hW, hsame⟩ := X1.leave (v := some (.int (1 : Int32))) (fun h => by rw [hret] at h; cases h) hlk
  refine ⟨_, _, pre0 _ ?_, hrun, hended, _, _, rfl, ?_, ⟨_, rfl⟩, hW, hsame.mono (by decide) (by decide)⟩
  · show Steps p.tables e below (T0.setTop (mkF m 96 #[.val (.int p1), .val (.int p2), .val (.int p3), .val (.ref co), .val (.int (2 : Int32)), .val (.int (4 : Int32)), .val (.int (0 : Int32)), .val (.int sa), .val (.int sb), .unset, .val (.int (6 : Int32)), .unset] [(.int rv)])) _
    refine XS.pop X0.here hx rfl (hb hby at_96) rfl rfl ?_
    show Steps p.tables e below (T0.setTop (mkF m 97 #[.val (.int p1), .val (.int p2), .val (.int p3), .val (.ref co), .val (.int (2 : Int32)), .val (.int (4 : Int32)), .val (.int (0 : Int32)), .val (.int sa), .val (.int sb), .unset, .val (.int (6 : Int32)), .unset] [])) _
    refine XS.iconst X0.here hx rfl (hb hby at_97) ?_
    show Steps p.tables e below (T0.setTop (mkF m 98 #[.val (.int p1), .val (.int p2), .val (.int p3), .val (.ref co), .val (.int (2 : Int32)), .val (.int (4 : Int32)), .val (.int (0 : Int32)), .val (.int sa), .val (.int sb), .unset, .val (.int (6 : Int32)), .unset] [(.int (4 : Int32))])) _
    refine XS.istore X0.here hx rfl (hb hby at_98) rfl (l' := #[.val (.int p1), .val (.int p2), .val (.int p3), .val (.ref co), .val (.int (2 : Int32)), .val (.int (4 : Int32)), .val (.int (0 : Int32)), .val (.int sa), .val (.int sb), .val (.int (4 : Int32)), .val (.int (6 : Int32)), .unset]) rfl ?_
    show Steps p.tables e below (T0.setTop (mkF m 100 #[.val (.int p1), .val (.int p2), .val (.int p3), .val (.ref co), .val (.int (2 : Int32)), .val (.int (4 : Int32)), .val (.int (0 : Int32)), .val (.int sa), .val (.int sb), .val (.int (4 : Int32)), .val (.int (6 : Int32)), .unset] [])) _
    refine XS.iloadN X0.here hx rfl (hb hby at_100) rfl ?_
    show Steps p.tables e below (T0.setTop (mkF m 101 #[.val (.int p1), .val (.int p2), .val (.int p3), .val (.ref co), .val (.int (2 : Int32)), .val (.int (4 : Int32)), .val (.int (0 : Int32)), .val (.int sa), .val (.int sb), .val (.int (4 : Int32)), .val (.int (6 : Int32)), .unset] [(.int p1)])) _
    refine X0.ldcInt hx hown (mvT hZ (hw _ (List.mem_of_getElem? (i := 166) rfl))) (g := (mkF m 101 #[.val (.int p1), .val (.int p2), .val (.int p3), .val (.ref co), .val (.int (2 : Int32)), .val (.int (4 : Int32)), .val (.int (0 : Int32)), .val (.int sa), .val (.int sb), .val (.int (4 : Int32)), .val (.int (6 : Int32)), .unset] [(.int p1)])) rfl (hb hby at_101) _ ?_
    show Steps p.tables e below (T0.setTop (mkF m 103 #[.val (.int p1), .val (.int p2), .val (.int p3), .val (.ref co), .val (.int (2 : Int32)), .val (.int (4 : Int32)), .val (.int (0 : Int32)), .val (.int sa), .val (.int sb), .val (.int (4 : Int32)), .val (.int (6 : Int32)), .unset] [(.int (2147483647 : Int32)), (.int p1)])) _
    refine XS.iand X0.here hx rfl (hb hby at_103) rfl ?_
    show Steps p.tables e below (T0.setTop (mkF m 104 #[.val (.int p1), .val (.int p2), .val (.int p3), .val (.ref co), .val (.int (2 : Int32)), .val (.int (4 : Int32)), .val (.int (0 : Int32)), .val (.int sa), .val (.int sb), .val (.int (4 : Int32)), .val (.int (6 : Int32)), .unset] [(.int (p1 &&& (2147483647 : Int32)))])) _
    refine XS.iconst X0.here hx rfl (hb hby at_104) ?_
    show Steps p.tables e below (T0.setTop (mkF m 105 #[.val (.int p1), .val (.int p2), .val (.int p3), .val (.ref co), .val (.int (2 : Int32)), .val (.int (4 : Int32)), .val (.int (0 : Int32)), .val (.int sa), .val (.int sb), .val (.int (4 : Int32)), .val (.int (6 : Int32)), .unset] [(.int (5 : Int32)), (.int (p1 &&& (2147483647 : Int32)))])) _
    refine iremM X0 hx rfl (hb hby at_105) rfl (by decide) ?_
    rw [hk]
    show Steps p.tables e below (T0.setTop (mkF m 106 #[.val (.int p1), .val (.int p2), .val (.int p3), .val (.ref co), .val (.int (2 : Int32)), .val (.int (4 : Int32)), .val (.int (0 : Int32)), .val (.int sa), .val (.int sb), .val (.int (4 : Int32)), .val (.int (6 : Int32)), .unset] [(.int (0 : Int32))])) _
    refine XS.istore X0.here hx rfl (hb hby at_106) rfl (l' := #[.val (.int p1), .val (.int p2), .val (.int p3), .val (.ref co), .val (.int (2 : Int32)), .val (.int (4 : Int32)), .val (.int (0 : Int32)), .val (.int sa), .val (.int sb), .val (.int (4 : Int32)), .val (.int (0 : Int32)), .unset]) rfl ?_
    show Steps p.tables e below (T0.setTop (mkF m 108 #[.val (.int p1), .val (.int p2), .val (.int p3), .val (.ref co), .val (.int (2 : Int32)), .val (.int (4 : Int32)), .val (.int (0 : Int32)), .val (.int sa), .val (.int sb), .val (.int (4 : Int32)), .val (.int (0 : Int32)), .unset] [])) _
    refine XS.iload X0.here hx rfl (hb hby at_108) rfl ?_
    show Steps p.tables e below (T0.setTop (mkF m 110 #[.val (.int p1), .val (.int p2), .val (.int p3), .val (.ref co), .val (.int (2 : Int32)), .val (.int (4 : Int32)), .val (.int (0 : Int32)), .val (.int sa), .val (.int sb), .val (.int (4 : Int32)), .val (.int (0 : Int32)), .unset] [(.int (0 : Int32))])) _
    refine XS.iload X0.here hx rfl (hb hby at_110) rfl ?_
    show Steps p.tables e below (T0.setTop (mkF m 112 #[.val (.int p1), .val (.int p2), .val (.int p3), .val (.ref co), .val (.int (2 : Int32)), .val (.int (4 : Int32)), .val (.int (0 : Int32)), .val (.int sa), .val (.int sb), .val (.int (4 : Int32)), .val (.int (0 : Int32)), .unset] [(.int (4 : Int32)), (.int (0 : Int32))])) _
    refine XS.icmpYes X0.here hx rfl (pc0 := 112) (pc' := 119) rfl (hb hby at_112) rfl (feq (by decide : ¬ ((0 : Int32) = (4 : Int32)))).2 (by decide) (by decide) ?_
    show Steps p.tables e below (T0.setTop (mkF m 119 #[.val (.int p1), .val (.int p2), .val (.int p3), .val (.ref co), .val (.int (2 : Int32)), .val (.int (4 : Int32)), .val (.int (0 : Int32)), .val (.int sa), .val (.int sb), .val (.int (4 : Int32)), .val (.int (0 : Int32)), .unset] [])) _
    refine XS.iconst X0.here hx rfl (hb hby at_119) ?_
    show Steps p.tables e below (T0.setTop (mkF m 120 #[.val (.int p1), .val (.int p2), .val (.int p3), .val (.ref co), .val (.int (2 : Int32)), .val (.int (4 : Int32)), .val (.int (0 : Int32)), .val (.int sa), .val (.int sb), .val (.int (4 : Int32)), .val (.int (0 : Int32)), .unset] [(.int (0 : Int32))])) _
    refine XS.istore X0.here hx rfl (hb hby at_120) rfl (l' := #[.val (.int p1), .val (.int p2), .val (.int p3), .val (.ref co), .val (.int (2 : Int32)), .val (.int (4 : Int32)), .val (.int (0 : Int32)), .val (.int sa), .val (.int sb), .val (.int (4 : Int32)), .val (.int (0 : Int32)), .val (.int (0 : Int32))]) rfl ?_
    show Steps p.tables e below (T0.setTop (mkF m 122 #[.val (.int p1), .val (.int p2), .val (.int p3), .val (.ref co), .val (.int (2 : Int32)), .val (.int (4 : Int32)), .val (.int (0 : Int32)), .val (.int sa), .val (.int sb), .val (.int (4 : Int32)), .val (.int (0 : Int32)), .val (.int (0 : Int32))] [])) _
    refine XS.aloadN X0.here hx rfl (hb hby at_122) rfl rfl ?_
    show Steps p.tables e below (T0.setTop (mkF m 123 #[.val (.int p1), .val (.int p2), .val (.int p3), .val (.ref co), .val (.int (2 : Int32)), .val (.int (4 : Int32)), .val (.int (0 : Int32)), .val (.int sa), .val (.int sb), .val (.int (4 : Int32)), .val (.int (0 : Int32)), .val (.int (0 : Int32))] [(.ref co)])) _
    refine XS.iload X0.here hx rfl (hb hby at_123) rfl ?_
    show Steps p.tables e below (T0.setTop (mkF m 125 #[.val (.int p1), .val (.int p2), .val (.int p3), .val (.ref co), .val (.int (2 : Int32)), .val (.int (4 : Int32)), .val (.int (0 : Int32)), .val (.int sa), .val (.int sb), .val (.int (4 : Int32)), .val (.int (0 : Int32)), .val (.int (0 : Int32))] [(.int (0 : Int32)), (.ref co)])) _
    refine st1.trans ?_
    show Steps p.tables e below (T1.setTop (mkF m 128 #[.val (.int p1), .val (.int p2), .val (.int p3), .val (.ref co), .val (.int (2 : Int32)), .val (.int (4 : Int32)), .val (.int (0 : Int32)), .val (.int sa), .val (.int sb), .val (.int (4 : Int32)), .val (.int (0 : Int32)), .val (.int (0 : Int32))] [(.int (0 : Int32))])) _
    refine XS.iload X1.here hx rfl (hb hby at_128) rfl ?_
    show Steps p.tables e below (T1.setTop (mkF m 130 #[.val (.int p1), .val (.int p2), .val (.int p3), .val (.ref co), .val (.int (2 : Int32)), .val (.int (4 : Int32)), .val (.int (0 : Int32)), .val (.int sa), .val (.int sb), .val (.int (4 : Int32)), .val (.int (0 : Int32)), .val (.int (0 : Int32))] [(.int (0 : Int32)), (.int (0 : Int32))])) _
    refine XS.icmpNo X1.here hx rfl (hb hby at_130) rfl (teq (by decide : (0 : Int32) = (0 : Int32))).2 ?_
    show Steps p.tables e below (T1.setTop (mkF m 133 #[.val (.int p1), .val (.int p2), .val (.int p3), .val (.ref co), .val (.int (2 : Int32)), .val (.int (4 : Int32)), .val (.int (0 : Int32)), .val (.int sa), .val (.int sb), .val (.int (4 : Int32)), .val (.int (0 : Int32)), .val (.int (0 : Int32))] [])) _
    refine XS.iconst X1.here hx rfl (hb hby at_133) ?_
    show Steps p.tables e below (T1.setTop (mkF m 134 #[.val (.int p1), .val (.int p2), .val (.int p3), .val (.ref co), .val (.int (2 : Int32)), .val (.int (4 : Int32)), .val (.int (0 : Int32)), .val (.int sa), .val (.int sb), .val (.int (4 : Int32)), .val (.int (0 : Int32)), .val (.int (0 : Int32))] [(.int (1 : Int32))])) _
    refine XS.goto X1.here hx rfl (pc0 := 134) (pc' := 138) rfl (hb hby at_134) (by decide) (by decide) ?_
    show Steps p.tables e below (T1.setTop (mkF m 138 #[.val (.int p1), .val (.int p2), .val (.int p3), .val (.ref co), .val (.int (2 : Int32)), .val (.int (4 : Int32)), .val (.int (0 : Int32)), .val (.int sa), .val (.int sb), .val (.int (4 : Int32)), .val (.int (0 : Int32)), .val (.int (0 : Int32))] [(.int (1 : Int32))])) _
    exact retN X1 hx (t := .boolean) hret (by simp) (hb hby at_138) hr
  · exact ⟨rfl, N1⟩
theorem d25_4 : decode prog_12_method_11_code 4 = .ok (.aload_n 0, 1) := by decide +kernel
theorem d25_5 : decode prog_12_method_11_code 5 = .ok (.getfield 7, 3) := by decide +kernel
theorem d25_8 : decode prog_12_method_11_code 8 = .ok (.iload_n 1, 1) := by decide +kernel
theorem d25_9 : decode prog_12_method_11_code 9 = .ok (.iaload, 1) := by decide +kernel
theorem d25_10 : decode prog_12_method_11_code 10 = .ok (.iconst (-1), 1) := by decide +kernel
theorem d25_11 : decode prog_12_method_11_code 11 = .ok (.if_icmp .eq 7, 3) := by decide +kernel
def Q25_43 (Z : State) (ob0 : Addr) (ob1 : Addr) (ob2 : Addr) (k_ob1 : ClassId) (q0 : Int32) (k_ob2 : ClassId) (q1 : Int32) (h0 : Heap) (n0 : Nat) (v : Option Value) (h : Heap) (L : List Loc) : Prop := v = some (.int (0 : Int32)) ∧ Fr n0 L ∧ h = h0
set_option maxRecDepth 65536 in
set_option maxHeartbeats 40000000 in
theorem rm25_43 (l : Launch) (Z : State) (a0 : Array Value) (hw : ∀ d ∈ tables_1, d.before a0 Z = true) (ws : List Jvm.Cond) (ob0 : Addr) (ob1 : Addr) (ob2 : Addr) (k_ob1 : ClassId) (q0 : Int32) (k_ob2 : ClassId) (q1 : Int32) (h0 : Heap) (n0 : Nat) (Z0 : n0 ≤ h0.size) (O0 : Old Z n0 h0) (PE_ob0 : Exa Z h0 ob0 "com/example/minos/minos/analysis/Circuit") (PF_ob0_first : Fld Z h0 ob0 "com/example/minos/minos/analysis/Circuit" "first" "[I" (.ref ob1)) (PF_ob0_second : Fld Z h0 ob0 "com/example/minos/minos/analysis/Circuit" "second" "[I" (.ref ob2)) (PF_ob0_nodes : Fld Z h0 ob0 "com/example/minos/minos/analysis/Circuit" "nodes" "I" (.int (5 : Int32))) (PV_ob1 : Arv Z h0 ob1 k_ob1 .int (1024 : Int32) [(.int (0 : Int32)), (.int (-1 : Int32)), (.int (-1 : Int32)), (.int q0), (.int (-1 : Int32)), (.int (0 : Int32))] (.int (0 : Int32))) (PV_ob2 : Arv Z h0 ob2 k_ob2 .int (1024 : Int32) [(.int (0 : Int32)), (.int (-1 : Int32)), (.int (-1 : Int32)), (.int q1), (.int (-1 : Int32)), (.int (0 : Int32))] (.int (0 : Int32))) :
    MetFree l (⟨"com/example/minos/minos/analysis/Circuit", "isGate", "(I)Z"⟩ : MethodName) (head1 (Jvm.Cond.code (⟨"com/example/minos/minos/analysis/Circuit", "isGate", "(I)Z"⟩ : MethodName) prog_12_method_11_code 2 (some .boolean) :: ws) ({ frames := 0, cells := 0, slots := 0, locals := 0 } : Room)) (fun a U => a = #[(.ref ob0), (.int (1 : Int32))] ∧ Z.Warmed39 U.vm ∧ U.heap = h0) (fun _ _ _ _ _ => True) (fun _ U o U' => ∃ v L, o = .returned v ∧ Q25_43 Z  ob0 ob1 ob2 k_ob1 q0 k_ob2 q1 h0 n0 v U'.heap L ∧ FrameEnd U o U' L ({ frames := 0, cells := 0, slots := 0, locals := 0 } : Room).cells ({ frames := 0, cells := 0, slots := 0, locals := 0 } : Room).slots) := by
  refine MetFree.of_bodySF (plainFor_of_name pn37) hisR ?_
  intro p e s m args below meth c s₁ Bd hml0 hP hK
  obtain ⟨rfl, hZ, hh⟩ := hP
  have hx := Bd.exec
  have hby := Bd.bytes
  have hml : c.maxLocals = 2 := hml0
  have hown : s.vm.findClass "com/example/minos/minos/analysis/Circuit" = some m.cls := findClass_of_methodNamed Bd.named
  have hnm := (name_of_methodNamed Bd.named Bd.method).1
  have X0 : Stand p l e ({ frames := 0, cells := 0, slots := 0, locals := 0 } : Room) s m #[(.ref ob0), (.int (1 : Int32))] below meth c s₁ [] 0 0 := Stand.of_body Bd
  have e0 : s₁.heap = h0 := by rw [← hh, Bd.state]; rfl
  have N0 := Fr.nil n0
  have pre0 : ∀ t, Steps p.tables e below (s₁.setTop (mkF m 0 #[.val (.ref ob0), .val (.int (1 : Int32))] [])) t → Steps p.tables e below (s₁.setTop (entryFrame m #[(.ref ob0), (.int (1 : Int32))] 2)) t := fun t k => castTop (ef418 m ob0 (1 : Int32)) k
  obtain ⟨T1, X1, e1, st1⟩ := getF X0 hx hZ hown (host := "") (Or.inl (hw _ (List.mem_of_getElem? (i := 10) rfl))) Via.refl e0 PF_ob0_first (g := (mkF m 5 #[.val (.ref ob0), .val (.int (1 : Int32))] [(.ref ob0)])) rfl rfl (hb hby d25_5)
  obtain ⟨ac2, aA2, aq2, aS2, aN2, aH2, aG2⟩ := id PV_ob1
  obtain ⟨fs, hr, hrun, hended, hW, hsame⟩ := X1.leave (v := some (.int (0 : Int32))) (fun h => by rw [Bd.returns] at h; cases h)
  refine ⟨_, _, pre0 _ ?_, hrun, hended, _, _, rfl, ?_, ⟨_, rfl⟩, hW, hsame.mono (by decide) (by decide)⟩
  · show Steps p.tables e below (s₁.setTop (mkF m 0 #[.val (.ref ob0), .val (.int (1 : Int32))] [])) _
    refine XS.iloadN X0.here hx rfl (hb hby d25_0) rfl ?_
    show Steps p.tables e below (s₁.setTop (mkF m 1 #[.val (.ref ob0), .val (.int (1 : Int32))] [(.int (1 : Int32))])) _
    refine XS.ifNo X0.here hx rfl (hb hby d25_1) rfl ((if0 _ _).trans (tlt (by decide : (0 : Int32) < (1 : Int32))).2.2.2) ?_
    show Steps p.tables e below (s₁.setTop (mkF m 4 #[.val (.ref ob0), .val (.int (1 : Int32))] [])) _
    refine XS.aloadN X0.here hx rfl (hb hby d25_4) rfl rfl ?_
    show Steps p.tables e below (s₁.setTop (mkF m 5 #[.val (.ref ob0), .val (.int (1 : Int32))] [(.ref ob0)])) _
    refine st1 _ ?_
    show Steps p.tables e below (T1.setTop (mkF m 8 #[.val (.ref ob0), .val (.int (1 : Int32))] [(.ref ob1)])) _
    refine XS.iloadN X1.here hx rfl (hb hby d25_8) rfl ?_
    show Steps p.tables e below (T1.setTop (mkF m 9 #[.val (.ref ob0), .val (.int (1 : Int32))] [(.int (1 : Int32)), (.ref ob1)])) _
    refine X1.iaload hx (j := (1 : Int32)) (v := (.int (-1 : Int32))) (by rw [e1]; exact aA2.1) (State.isArrayOf_alike hZ.alike aA2.2.1) aA2.2.2 (inb_of aS2 ⟨by decide, by decide⟩) (aH2.at (inb_of aS2 ⟨by decide, by decide⟩) rfl) (g := (mkF m 9 #[.val (.ref ob0), .val (.int (1 : Int32))] [(.int (1 : Int32)), (.ref ob1)])) rfl rfl (hb hby d25_9) _ ?_
    show Steps p.tables e below (T1.setTop (mkF m 10 #[.val (.ref ob0), .val (.int (1 : Int32))] [(.int (-1 : Int32))])) _
    refine XS.iconst X1.here hx rfl (hb hby d25_10) ?_
    show Steps p.tables e below (T1.setTop (mkF m 11 #[.val (.ref ob0), .val (.int (1 : Int32))] [(.int (-1 : Int32)), (.int (-1 : Int32))])) _
    refine XS.icmpYes X1.here hx rfl (pc0 := 11) (pc' := 18) rfl (hb hby d25_11) rfl (teq (by decide : (-1 : Int32) = (-1 : Int32))).1 (by decide) (by decide) ?_
    show Steps p.tables e below (T1.setTop (mkF m 18 #[.val (.ref ob0), .val (.int (1 : Int32))] [])) _
    refine XS.iconst X1.here hx rfl (hb hby d25_18) ?_
    show Steps p.tables e below (T1.setTop (mkF m 19 #[.val (.ref ob0), .val (.int (1 : Int32))] [(.int (0 : Int32))])) _
    exact retN X1 hx (t := .boolean) Bd.returns (by simp) (hb hby d25_19) hr
  · exact ⟨rfl, N0, e1⟩
set_option maxRecDepth 65536 in
set_option maxHeartbeats 40000000 in
theorem lT11 {p : Program} {l : Launch} {e : Env} {s : State} {m : MethodId} {args : Array Value} {below : List Frame} {meth : Method} {c : Code} {T0 : State} {locs : List Loc} {Z : State} {a0 : Array Value} {h0 : Heap} {n0 : Nat} (p1 : Int32) (p2 : Int32) (p3 : Int32) (co : Addr) (sa : Int32) (sb : Int32) (rv : Int32) (F : Addr) (S : Addr) (k_F : ClassId) (va : Int32) (k_S : ClassId) (vb : Int32)
    (X0 : Stand p l e room_1 s m args below meth c T0 locs 8 2084) (hx : p.tables.exec = Jvm.exec) (hZ : Z.Warmed39 s.vm) (hw : ∀ d ∈ tables_1, d.before a0 Z = true) (hby : c.code = code) (hml : c.maxLocals = 12) (hown : s.vm.findClass "com/example/minos/minos/analysis/CircuitIsGatePinLaw" = some m.cls) (e0 : T0.heap = h0) (N0 : Fr n0 locs) (O0 : Old Z n0 h0) (hk : ((p1 &&& (2147483647 : Int32)) % (5 : Int32)) = (1 : Int32)) (PE_co : Exa Z h0 co "com/example/minos/minos/analysis/Circuit") (PF_co_first : Fld Z h0 co "com/example/minos/minos/analysis/Circuit" "first" "[I" (.ref F)) (PF_co_second : Fld Z h0 co "com/example/minos/minos/analysis/Circuit" "second" "[I" (.ref S)) (PF_co_nodes : Fld Z h0 co "com/example/minos/minos/analysis/Circuit" "nodes" "I" (.int (4 : Int32))) (PV_F : Arv Z h0 F k_F .int (1024 : Int32) [(.int (0 : Int32)), (.int (-1 : Int32)), (.int (-1 : Int32)), (.int va), (.int (0 : Int32)), (.int (0 : Int32))] (.int (0 : Int32))) (PV_S : Arv Z h0 S k_S .int (1024 : Int32) [(.int (0 : Int32)), (.int (-1 : Int32)), (.int (-1 : Int32)), (.int vb), (.int (0 : Int32)), (.int (0 : Int32))] (.int (0 : Int32))) (ne_F_co : F ≠ co) (ne_F_S : F ≠ S) (ne_S_co : S ≠ co) (g_F : n0 ≤ F) (g_S : n0 ≤ S) (g_co : n0 ≤ co) (hd0 : ¬ (va = (-1 : Int32))) (hret : meth.sig.returnType = some .boolean) (hlk : meth.locks = false) {entry : State} (pre0 : ∀ t, Steps p.tables e below (T0.setTop (mkF m 64 #[.val (.int p1), .val (.int p2), .val (.int p3), .val (.ref co), .val (.int (2 : Int32)), .val (.int (4 : Int32)), .val (.int (1 : Int32)), .val (.int sa), .val (.int sb), .unset, .unset, .unset] [(.int rv)])) t → Steps p.tables e below entry t) :
    ∃ s₂ o, Steps p.tables e below entry s₂ ∧ s₂.status = .running ∧ Ended s₂ below o ∧ ∃ v L, o = .returned v ∧ Q0 h0 n0 v s₂.heap L ∧ FrameEnd s o s₂ L room_1.cells room_1.slots := by
  obtain ⟨cq1, kq1, q1a, q1b, q1c⟩ := isOf hZ e0 PE_co
  obtain ⟨_, _, ⟨T1, L1, k1, n1⟩, -, X1, ⟨Lc1, hQ1, l1, y1, z1⟩, st1⟩ := X0.virtualBack hx (y := (⟨"com/example/minos/minos/analysis/Circuit", "input", "()I"⟩ : MethodName)) (z := (⟨"com/example/minos/minos/analysis/Circuit", "input", "()I"⟩ : MethodName)) hown (mvT hZ (hw _ (List.mem_of_getElem? (i := 34) rfl))) (mvT hZ (hw _ (List.mem_of_getElem? (i := 35) rfl))) (notFace_of_selects (args := #[]) (mvT hZ (hw _ (List.mem_of_getElem? (i := 37) rfl)))) (mvT hZ (hw _ (List.mem_of_getElem? (i := 37) rfl))) (mvT hZ (hw _ (List.mem_of_getElem? (i := 36) rfl))) (by decide) (backOf (W := 0) (rm5_38 l Z a0 hw []  co F S k_F va k_S vb h0 n0 (own_n0 O0) O0 PE_co PF_co_first PF_co_second PF_co_nodes PV_F PV_S (Ne.symm ne_F_co) ne_F_S (Ne.symm ne_S_co) g_F g_S g_co) hZ (hw _ (List.mem_of_getElem? (i := 38) rfl)) (hw _ (List.mem_of_getElem? (i := 2) rfl)) (by decide) (by decide)) q1a q1c (g := (mkF m 66 #[.val (.int p1), .val (.int p2), .val (.int p3), .val (.ref co), .val (.int (2 : Int32)), .val (.int (4 : Int32)), .val (.int (1 : Int32)), .val (.int sa), .val (.int sb), .unset, .unset, .unset] [(.ref co)])) rfl (by rw [hml]; rfl) (Steps.refl _) (argsL := []) (rest := []) (lenOf pd120 rfl) rfl (by show 2 * 0 + _ ≤ _; exact Nat.le_of_eq rfl) (hb hby at_66) (fun _ _ => ⟨rfl, e0, (by decide : 8 + 0 ≤ _), (by decide : 2084 + 0 ≤ _)⟩)
  dsimp only [Pt.U, Pt.locs, Pt.cells, Pt.slots] at X1 l1 y1 z1 st1 hQ1
  subst l1 y1 z1
  obtain ⟨rfl, N1q, K1, O1, pf1_0, pf1_1, pf1_2, pf1_3, pf1_4, pf1_5, -⟩ := hQ1
  have KK1 : Keep h0 T1.heap [F, S, co] := (Keep.refl h0 [F, S, co]).trans K1 (allS (Or.inl (List.mem_of_getElem? (i := 0) rfl)) (allS (Or.inl (List.mem_of_getElem? (i := 1) rfl)) (allS (Or.inl (List.mem_of_getElem? (i := 2) rfl)) all0)))
  have N1 := Fr.app N0 N1q
  obtain ⟨cq2, kq2, q2a, q2b, q2c⟩ := isOf hZ rfl pf1_2
  obtain ⟨_, _, ⟨T2, L2, k2, n2⟩, -, X2, ⟨Lc2, hQ2, l2, y2, z2⟩, st2⟩ := X1.virtualBack hx (y := (⟨"com/example/minos/minos/analysis/Circuit", "isGate", "(I)Z"⟩ : MethodName)) (z := (⟨"com/example/minos/minos/analysis/Circuit", "isGate", "(I)Z"⟩ : MethodName)) hown (mvT hZ (hw _ (List.mem_of_getElem? (i := 167) rfl))) (mvT hZ (hw _ (List.mem_of_getElem? (i := 168) rfl))) (notFace_of_selects (args := #[]) (mvT hZ (hw _ (List.mem_of_getElem? (i := 170) rfl)))) (mvT hZ (hw _ (List.mem_of_getElem? (i := 170) rfl))) (mvT hZ (hw _ (List.mem_of_getElem? (i := 169) rfl))) (by decide) (backOf (W := 0) (rm25_43 l Z a0 hw []  co F S k_F va k_S vb T1.heap n0 (own_n0 O1) O1 pf1_2 pf1_3 pf1_4 pf1_5 pf1_0 pf1_1) hZ (hw _ (List.mem_of_getElem? (i := 171) rfl)) (hw _ (List.mem_of_getElem? (i := 2) rfl)) (by decide) (by decide)) q2a q2c (g := (mkF m 125 #[.val (.int p1), .val (.int p2), .val (.int p3), .val (.ref co), .val (.int (2 : Int32)), .val (.int (4 : Int32)), .val (.int (1 : Int32)), .val (.int sa), .val (.int sb), .val (.int (3 : Int32)), .val (.int (1 : Int32)), .val (.int (0 : Int32))] [(.int (1 : Int32)), (.ref co)])) rfl (by rw [hml]; rfl) (Steps.refl _) (argsL := [(.int (1 : Int32))]) (rest := []) (lenOf pd419 rfl) rfl (by show 2 * 0 + _ ≤ _; exact Nat.le_of_eq rfl) (hb hby at_125) (fun _ _ => ⟨rfl, rfl, (by decide : 8 + 0 ≤ _), (by decide : 2084 + 0 ≤ _)⟩)
  dsimp only [Pt.U, Pt.locs, Pt.cells, Pt.slots] at X2 l2 y2 z2 st2 hQ2
  subst l2 y2 z2
  obtain ⟨rfl, N2q, e2⟩ := hQ2
  have N2 := Fr.app N1 N2q
  obtain ⟨fs, hr, hrun, hended, hW, hsame⟩ := X2.leave (v := some (.int (1 : Int32))) (fun h => by rw [hret] at h; cases h) hlk
  refine ⟨_, _, pre0 _ ?_, hrun, hended, _, _, rfl, ?_, ⟨_, rfl⟩, hW, hsame.mono (by decide) (by decide)⟩
  · show Steps p.tables e below (T0.setTop (mkF m 64 #[.val (.int p1), .val (.int p2), .val (.int p3), .val (.ref co), .val (.int (2 : Int32)), .val (.int (4 : Int32)), .val (.int (1 : Int32)), .val (.int sa), .val (.int sb), .unset, .unset, .unset] [(.int rv)])) _
    refine XS.pop X0.here hx rfl (hb hby at_64) rfl rfl ?_
    show Steps p.tables e below (T0.setTop (mkF m 65 #[.val (.int p1), .val (.int p2), .val (.int p3), .val (.ref co), .val (.int (2 : Int32)), .val (.int (4 : Int32)), .val (.int (1 : Int32)), .val (.int sa), .val (.int sb), .unset, .unset, .unset] [])) _
    refine XS.aloadN X0.here hx rfl (hb hby at_65) rfl rfl ?_
    show Steps p.tables e below (T0.setTop (mkF m 66 #[.val (.int p1), .val (.int p2), .val (.int p3), .val (.ref co), .val (.int (2 : Int32)), .val (.int (4 : Int32)), .val (.int (1 : Int32)), .val (.int sa), .val (.int sb), .unset, .unset, .unset] [(.ref co)])) _
    refine st1.trans ?_
    show Steps p.tables e below (T1.setTop (mkF m 69 #[.val (.int p1), .val (.int p2), .val (.int p3), .val (.ref co), .val (.int (2 : Int32)), .val (.int (4 : Int32)), .val (.int (1 : Int32)), .val (.int sa), .val (.int sb), .unset, .unset, .unset] [(.int (8 : Int32))])) _
    refine XS.pop X1.here hx rfl (hb hby at_69) rfl rfl ?_
    show Steps p.tables e below (T1.setTop (mkF m 70 #[.val (.int p1), .val (.int p2), .val (.int p3), .val (.ref co), .val (.int (2 : Int32)), .val (.int (4 : Int32)), .val (.int (1 : Int32)), .val (.int sa), .val (.int sb), .unset, .unset, .unset] [])) _
    refine XS.iconst X1.here hx rfl (hb hby at_70) ?_
    show Steps p.tables e below (T1.setTop (mkF m 71 #[.val (.int p1), .val (.int p2), .val (.int p3), .val (.ref co), .val (.int (2 : Int32)), .val (.int (4 : Int32)), .val (.int (1 : Int32)), .val (.int sa), .val (.int sb), .unset, .unset, .unset] [(.int (3 : Int32))])) _
    refine XS.istore X1.here hx rfl (hb hby at_71) rfl (l' := #[.val (.int p1), .val (.int p2), .val (.int p3), .val (.ref co), .val (.int (2 : Int32)), .val (.int (4 : Int32)), .val (.int (1 : Int32)), .val (.int sa), .val (.int sb), .val (.int (3 : Int32)), .unset, .unset]) rfl ?_
    show Steps p.tables e below (T1.setTop (mkF m 73 #[.val (.int p1), .val (.int p2), .val (.int p3), .val (.ref co), .val (.int (2 : Int32)), .val (.int (4 : Int32)), .val (.int (1 : Int32)), .val (.int sa), .val (.int sb), .val (.int (3 : Int32)), .unset, .unset] [])) _
    refine XS.goto X1.here hx rfl (pc0 := 73) (pc' := 100) rfl (hb hby at_73) (by decide) (by decide) ?_
    show Steps p.tables e below (T1.setTop (mkF m 100 #[.val (.int p1), .val (.int p2), .val (.int p3), .val (.ref co), .val (.int (2 : Int32)), .val (.int (4 : Int32)), .val (.int (1 : Int32)), .val (.int sa), .val (.int sb), .val (.int (3 : Int32)), .unset, .unset] [])) _
    refine XS.iloadN X1.here hx rfl (hb hby at_100) rfl ?_
    show Steps p.tables e below (T1.setTop (mkF m 101 #[.val (.int p1), .val (.int p2), .val (.int p3), .val (.ref co), .val (.int (2 : Int32)), .val (.int (4 : Int32)), .val (.int (1 : Int32)), .val (.int sa), .val (.int sb), .val (.int (3 : Int32)), .unset, .unset] [(.int p1)])) _
    refine X1.ldcInt hx hown (mvT hZ (hw _ (List.mem_of_getElem? (i := 166) rfl))) (g := (mkF m 101 #[.val (.int p1), .val (.int p2), .val (.int p3), .val (.ref co), .val (.int (2 : Int32)), .val (.int (4 : Int32)), .val (.int (1 : Int32)), .val (.int sa), .val (.int sb), .val (.int (3 : Int32)), .unset, .unset] [(.int p1)])) rfl (hb hby at_101) _ ?_
    show Steps p.tables e below (T1.setTop (mkF m 103 #[.val (.int p1), .val (.int p2), .val (.int p3), .val (.ref co), .val (.int (2 : Int32)), .val (.int (4 : Int32)), .val (.int (1 : Int32)), .val (.int sa), .val (.int sb), .val (.int (3 : Int32)), .unset, .unset] [(.int (2147483647 : Int32)), (.int p1)])) _
    refine XS.iand X1.here hx rfl (hb hby at_103) rfl ?_
    show Steps p.tables e below (T1.setTop (mkF m 104 #[.val (.int p1), .val (.int p2), .val (.int p3), .val (.ref co), .val (.int (2 : Int32)), .val (.int (4 : Int32)), .val (.int (1 : Int32)), .val (.int sa), .val (.int sb), .val (.int (3 : Int32)), .unset, .unset] [(.int (p1 &&& (2147483647 : Int32)))])) _
    refine XS.iconst X1.here hx rfl (hb hby at_104) ?_
    show Steps p.tables e below (T1.setTop (mkF m 105 #[.val (.int p1), .val (.int p2), .val (.int p3), .val (.ref co), .val (.int (2 : Int32)), .val (.int (4 : Int32)), .val (.int (1 : Int32)), .val (.int sa), .val (.int sb), .val (.int (3 : Int32)), .unset, .unset] [(.int (5 : Int32)), (.int (p1 &&& (2147483647 : Int32)))])) _
    refine iremM X1 hx rfl (hb hby at_105) rfl (by decide) ?_
    rw [hk]
    show Steps p.tables e below (T1.setTop (mkF m 106 #[.val (.int p1), .val (.int p2), .val (.int p3), .val (.ref co), .val (.int (2 : Int32)), .val (.int (4 : Int32)), .val (.int (1 : Int32)), .val (.int sa), .val (.int sb), .val (.int (3 : Int32)), .unset, .unset] [(.int (1 : Int32))])) _
    refine XS.istore X1.here hx rfl (hb hby at_106) rfl (l' := #[.val (.int p1), .val (.int p2), .val (.int p3), .val (.ref co), .val (.int (2 : Int32)), .val (.int (4 : Int32)), .val (.int (1 : Int32)), .val (.int sa), .val (.int sb), .val (.int (3 : Int32)), .val (.int (1 : Int32)), .unset]) rfl ?_
    show Steps p.tables e below (T1.setTop (mkF m 108 #[.val (.int p1), .val (.int p2), .val (.int p3), .val (.ref co), .val (.int (2 : Int32)), .val (.int (4 : Int32)), .val (.int (1 : Int32)), .val (.int sa), .val (.int sb), .val (.int (3 : Int32)), .val (.int (1 : Int32)), .unset] [])) _
    refine XS.iload X1.here hx rfl (hb hby at_108) rfl ?_
    show Steps p.tables e below (T1.setTop (mkF m 110 #[.val (.int p1), .val (.int p2), .val (.int p3), .val (.ref co), .val (.int (2 : Int32)), .val (.int (4 : Int32)), .val (.int (1 : Int32)), .val (.int sa), .val (.int sb), .val (.int (3 : Int32)), .val (.int (1 : Int32)), .unset] [(.int (1 : Int32))])) _
    refine XS.iload X1.here hx rfl (hb hby at_110) rfl ?_
    show Steps p.tables e below (T1.setTop (mkF m 112 #[.val (.int p1), .val (.int p2), .val (.int p3), .val (.ref co), .val (.int (2 : Int32)), .val (.int (4 : Int32)), .val (.int (1 : Int32)), .val (.int sa), .val (.int sb), .val (.int (3 : Int32)), .val (.int (1 : Int32)), .unset] [(.int (3 : Int32)), (.int (1 : Int32))])) _
    refine XS.icmpYes X1.here hx rfl (pc0 := 112) (pc' := 119) rfl (hb hby at_112) rfl (feq (by decide : ¬ ((1 : Int32) = (3 : Int32)))).2 (by decide) (by decide) ?_
    show Steps p.tables e below (T1.setTop (mkF m 119 #[.val (.int p1), .val (.int p2), .val (.int p3), .val (.ref co), .val (.int (2 : Int32)), .val (.int (4 : Int32)), .val (.int (1 : Int32)), .val (.int sa), .val (.int sb), .val (.int (3 : Int32)), .val (.int (1 : Int32)), .unset] [])) _
    refine XS.iconst X1.here hx rfl (hb hby at_119) ?_
    show Steps p.tables e below (T1.setTop (mkF m 120 #[.val (.int p1), .val (.int p2), .val (.int p3), .val (.ref co), .val (.int (2 : Int32)), .val (.int (4 : Int32)), .val (.int (1 : Int32)), .val (.int sa), .val (.int sb), .val (.int (3 : Int32)), .val (.int (1 : Int32)), .unset] [(.int (0 : Int32))])) _
    refine XS.istore X1.here hx rfl (hb hby at_120) rfl (l' := #[.val (.int p1), .val (.int p2), .val (.int p3), .val (.ref co), .val (.int (2 : Int32)), .val (.int (4 : Int32)), .val (.int (1 : Int32)), .val (.int sa), .val (.int sb), .val (.int (3 : Int32)), .val (.int (1 : Int32)), .val (.int (0 : Int32))]) rfl ?_
    show Steps p.tables e below (T1.setTop (mkF m 122 #[.val (.int p1), .val (.int p2), .val (.int p3), .val (.ref co), .val (.int (2 : Int32)), .val (.int (4 : Int32)), .val (.int (1 : Int32)), .val (.int sa), .val (.int sb), .val (.int (3 : Int32)), .val (.int (1 : Int32)), .val (.int (0 : Int32))] [])) _
    refine XS.aloadN X1.here hx rfl (hb hby at_122) rfl rfl ?_
    show Steps p.tables e below (T1.setTop (mkF m 123 #[.val (.int p1), .val (.int p2), .val (.int p3), .val (.ref co), .val (.int (2 : Int32)), .val (.int (4 : Int32)), .val (.int (1 : Int32)), .val (.int sa), .val (.int sb), .val (.int (3 : Int32)), .val (.int (1 : Int32)), .val (.int (0 : Int32))] [(.ref co)])) _
    refine XS.iload X1.here hx rfl (hb hby at_123) rfl ?_
    show Steps p.tables e below (T1.setTop (mkF m 125 #[.val (.int p1), .val (.int p2), .val (.int p3), .val (.ref co), .val (.int (2 : Int32)), .val (.int (4 : Int32)), .val (.int (1 : Int32)), .val (.int sa), .val (.int sb), .val (.int (3 : Int32)), .val (.int (1 : Int32)), .val (.int (0 : Int32))] [(.int (1 : Int32)), (.ref co)])) _
    refine st2.trans ?_
    show Steps p.tables e below (T2.setTop (mkF m 128 #[.val (.int p1), .val (.int p2), .val (.int p3), .val (.ref co), .val (.int (2 : Int32)), .val (.int (4 : Int32)), .val (.int (1 : Int32)), .val (.int sa), .val (.int sb), .val (.int (3 : Int32)), .val (.int (1 : Int32)), .val (.int (0 : Int32))] [(.int (0 : Int32))])) _
    refine XS.iload X2.here hx rfl (hb hby at_128) rfl ?_
    show Steps p.tables e below (T2.setTop (mkF m 130 #[.val (.int p1), .val (.int p2), .val (.int p3), .val (.ref co), .val (.int (2 : Int32)), .val (.int (4 : Int32)), .val (.int (1 : Int32)), .val (.int sa), .val (.int sb), .val (.int (3 : Int32)), .val (.int (1 : Int32)), .val (.int (0 : Int32))] [(.int (0 : Int32)), (.int (0 : Int32))])) _
    refine XS.icmpNo X2.here hx rfl (hb hby at_130) rfl (teq (by decide : (0 : Int32) = (0 : Int32))).2 ?_
    show Steps p.tables e below (T2.setTop (mkF m 133 #[.val (.int p1), .val (.int p2), .val (.int p3), .val (.ref co), .val (.int (2 : Int32)), .val (.int (4 : Int32)), .val (.int (1 : Int32)), .val (.int sa), .val (.int sb), .val (.int (3 : Int32)), .val (.int (1 : Int32)), .val (.int (0 : Int32))] [])) _
    refine XS.iconst X2.here hx rfl (hb hby at_133) ?_
    show Steps p.tables e below (T2.setTop (mkF m 134 #[.val (.int p1), .val (.int p2), .val (.int p3), .val (.ref co), .val (.int (2 : Int32)), .val (.int (4 : Int32)), .val (.int (1 : Int32)), .val (.int sa), .val (.int sb), .val (.int (3 : Int32)), .val (.int (1 : Int32)), .val (.int (0 : Int32))] [(.int (1 : Int32))])) _
    refine XS.goto X2.here hx rfl (pc0 := 134) (pc' := 138) rfl (hb hby at_134) (by decide) (by decide) ?_
    show Steps p.tables e below (T2.setTop (mkF m 138 #[.val (.int p1), .val (.int p2), .val (.int p3), .val (.ref co), .val (.int (2 : Int32)), .val (.int (4 : Int32)), .val (.int (1 : Int32)), .val (.int sa), .val (.int sb), .val (.int (3 : Int32)), .val (.int (1 : Int32)), .val (.int (0 : Int32))] [(.int (1 : Int32))])) _
    exact retN X2 hx (t := .boolean) hret (by simp) (hb hby at_138) hr
  · exact ⟨rfl, N2⟩
def Q25_45 (Z : State) (ob0 : Addr) (ob1 : Addr) (ob2 : Addr) (k_ob1 : ClassId) (q0 : Int32) (k_ob2 : ClassId) (q1 : Int32) (h0 : Heap) (n0 : Nat) (v : Option Value) (h : Heap) (L : List Loc) : Prop := v = some (.int (0 : Int32)) ∧ Fr n0 L ∧ h = h0
set_option maxRecDepth 65536 in
set_option maxHeartbeats 40000000 in
theorem rm25_45 (l : Launch) (Z : State) (a0 : Array Value) (hw : ∀ d ∈ tables_1, d.before a0 Z = true) (ws : List Jvm.Cond) (ob0 : Addr) (ob1 : Addr) (ob2 : Addr) (k_ob1 : ClassId) (q0 : Int32) (k_ob2 : ClassId) (q1 : Int32) (h0 : Heap) (n0 : Nat) (Z0 : n0 ≤ h0.size) (O0 : Old Z n0 h0) (PE_ob0 : Exa Z h0 ob0 "com/example/minos/minos/analysis/Circuit") (PF_ob0_first : Fld Z h0 ob0 "com/example/minos/minos/analysis/Circuit" "first" "[I" (.ref ob1)) (PF_ob0_second : Fld Z h0 ob0 "com/example/minos/minos/analysis/Circuit" "second" "[I" (.ref ob2)) (PF_ob0_nodes : Fld Z h0 ob0 "com/example/minos/minos/analysis/Circuit" "nodes" "I" (.int (5 : Int32))) (PV_ob1 : Arv Z h0 ob1 k_ob1 .int (1024 : Int32) [(.int (0 : Int32)), (.int (-1 : Int32)), (.int (-1 : Int32)), (.int (-1 : Int32)), (.int q0), (.int (0 : Int32))] (.int (0 : Int32))) (PV_ob2 : Arv Z h0 ob2 k_ob2 .int (1024 : Int32) [(.int (0 : Int32)), (.int (-1 : Int32)), (.int (-1 : Int32)), (.int (-1 : Int32)), (.int q1), (.int (0 : Int32))] (.int (0 : Int32))) :
    MetFree l (⟨"com/example/minos/minos/analysis/Circuit", "isGate", "(I)Z"⟩ : MethodName) (head1 (Jvm.Cond.code (⟨"com/example/minos/minos/analysis/Circuit", "isGate", "(I)Z"⟩ : MethodName) prog_12_method_11_code 2 (some .boolean) :: ws) ({ frames := 0, cells := 0, slots := 0, locals := 0 } : Room)) (fun a U => a = #[(.ref ob0), (.int (1 : Int32))] ∧ Z.Warmed39 U.vm ∧ U.heap = h0) (fun _ _ _ _ _ => True) (fun _ U o U' => ∃ v L, o = .returned v ∧ Q25_45 Z  ob0 ob1 ob2 k_ob1 q0 k_ob2 q1 h0 n0 v U'.heap L ∧ FrameEnd U o U' L ({ frames := 0, cells := 0, slots := 0, locals := 0 } : Room).cells ({ frames := 0, cells := 0, slots := 0, locals := 0 } : Room).slots) := by
  refine MetFree.of_bodySF (plainFor_of_name pn37) hisR ?_
  intro p e s m args below meth c s₁ Bd hml0 hP hK
  obtain ⟨rfl, hZ, hh⟩ := hP
  have hx := Bd.exec
  have hby := Bd.bytes
  have hml : c.maxLocals = 2 := hml0
  have hown : s.vm.findClass "com/example/minos/minos/analysis/Circuit" = some m.cls := findClass_of_methodNamed Bd.named
  have hnm := (name_of_methodNamed Bd.named Bd.method).1
  have X0 : Stand p l e ({ frames := 0, cells := 0, slots := 0, locals := 0 } : Room) s m #[(.ref ob0), (.int (1 : Int32))] below meth c s₁ [] 0 0 := Stand.of_body Bd
  have e0 : s₁.heap = h0 := by rw [← hh, Bd.state]; rfl
  have N0 := Fr.nil n0
  have pre0 : ∀ t, Steps p.tables e below (s₁.setTop (mkF m 0 #[.val (.ref ob0), .val (.int (1 : Int32))] [])) t → Steps p.tables e below (s₁.setTop (entryFrame m #[(.ref ob0), (.int (1 : Int32))] 2)) t := fun t k => castTop (ef418 m ob0 (1 : Int32)) k
  obtain ⟨T1, X1, e1, st1⟩ := getF X0 hx hZ hown (host := "") (Or.inl (hw _ (List.mem_of_getElem? (i := 10) rfl))) Via.refl e0 PF_ob0_first (g := (mkF m 5 #[.val (.ref ob0), .val (.int (1 : Int32))] [(.ref ob0)])) rfl rfl (hb hby d25_5)
  obtain ⟨ac2, aA2, aq2, aS2, aN2, aH2, aG2⟩ := id PV_ob1
  obtain ⟨fs, hr, hrun, hended, hW, hsame⟩ := X1.leave (v := some (.int (0 : Int32))) (fun h => by rw [Bd.returns] at h; cases h)
  refine ⟨_, _, pre0 _ ?_, hrun, hended, _, _, rfl, ?_, ⟨_, rfl⟩, hW, hsame.mono (by decide) (by decide)⟩
  · show Steps p.tables e below (s₁.setTop (mkF m 0 #[.val (.ref ob0), .val (.int (1 : Int32))] [])) _
    refine XS.iloadN X0.here hx rfl (hb hby d25_0) rfl ?_
    show Steps p.tables e below (s₁.setTop (mkF m 1 #[.val (.ref ob0), .val (.int (1 : Int32))] [(.int (1 : Int32))])) _
    refine XS.ifNo X0.here hx rfl (hb hby d25_1) rfl ((if0 _ _).trans (tlt (by decide : (0 : Int32) < (1 : Int32))).2.2.2) ?_
    show Steps p.tables e below (s₁.setTop (mkF m 4 #[.val (.ref ob0), .val (.int (1 : Int32))] [])) _
    refine XS.aloadN X0.here hx rfl (hb hby d25_4) rfl rfl ?_
    show Steps p.tables e below (s₁.setTop (mkF m 5 #[.val (.ref ob0), .val (.int (1 : Int32))] [(.ref ob0)])) _
    refine st1 _ ?_
    show Steps p.tables e below (T1.setTop (mkF m 8 #[.val (.ref ob0), .val (.int (1 : Int32))] [(.ref ob1)])) _
    refine XS.iloadN X1.here hx rfl (hb hby d25_8) rfl ?_
    show Steps p.tables e below (T1.setTop (mkF m 9 #[.val (.ref ob0), .val (.int (1 : Int32))] [(.int (1 : Int32)), (.ref ob1)])) _
    refine X1.iaload hx (j := (1 : Int32)) (v := (.int (-1 : Int32))) (by rw [e1]; exact aA2.1) (State.isArrayOf_alike hZ.alike aA2.2.1) aA2.2.2 (inb_of aS2 ⟨by decide, by decide⟩) (aH2.at (inb_of aS2 ⟨by decide, by decide⟩) rfl) (g := (mkF m 9 #[.val (.ref ob0), .val (.int (1 : Int32))] [(.int (1 : Int32)), (.ref ob1)])) rfl rfl (hb hby d25_9) _ ?_
    show Steps p.tables e below (T1.setTop (mkF m 10 #[.val (.ref ob0), .val (.int (1 : Int32))] [(.int (-1 : Int32))])) _
    refine XS.iconst X1.here hx rfl (hb hby d25_10) ?_
    show Steps p.tables e below (T1.setTop (mkF m 11 #[.val (.ref ob0), .val (.int (1 : Int32))] [(.int (-1 : Int32)), (.int (-1 : Int32))])) _
    refine XS.icmpYes X1.here hx rfl (pc0 := 11) (pc' := 18) rfl (hb hby d25_11) rfl (teq (by decide : (-1 : Int32) = (-1 : Int32))).1 (by decide) (by decide) ?_
    show Steps p.tables e below (T1.setTop (mkF m 18 #[.val (.ref ob0), .val (.int (1 : Int32))] [])) _
    refine XS.iconst X1.here hx rfl (hb hby d25_18) ?_
    show Steps p.tables e below (T1.setTop (mkF m 19 #[.val (.ref ob0), .val (.int (1 : Int32))] [(.int (0 : Int32))])) _
    exact retN X1 hx (t := .boolean) Bd.returns (by simp) (hb hby d25_19) hr
  · exact ⟨rfl, N0, e1⟩
set_option maxRecDepth 65536 in
set_option maxHeartbeats 40000000 in
theorem lT01 {p : Program} {l : Launch} {e : Env} {s : State} {m : MethodId} {args : Array Value} {below : List Frame} {meth : Method} {c : Code} {T0 : State} {locs : List Loc} {Z : State} {a0 : Array Value} {h0 : Heap} {n0 : Nat} (p1 : Int32) (p2 : Int32) (p3 : Int32) (co : Addr) (sa : Int32) (sb : Int32) (rv : Int32) (F : Addr) (S : Addr) (k_F : ClassId) (va : Int32) (k_S : ClassId) (vb : Int32)
    (X0 : Stand p l e room_1 s m args below meth c T0 locs 8 2084) (hx : p.tables.exec = Jvm.exec) (hZ : Z.Warmed39 s.vm) (hw : ∀ d ∈ tables_1, d.before a0 Z = true) (hby : c.code = code) (hml : c.maxLocals = 12) (hown : s.vm.findClass "com/example/minos/minos/analysis/CircuitIsGatePinLaw" = some m.cls) (e0 : T0.heap = h0) (N0 : Fr n0 locs) (O0 : Old Z n0 h0) (hk : ((p1 &&& (2147483647 : Int32)) % (5 : Int32)) = (1 : Int32)) (PE_co : Exa Z h0 co "com/example/minos/minos/analysis/Circuit") (PF_co_first : Fld Z h0 co "com/example/minos/minos/analysis/Circuit" "first" "[I" (.ref F)) (PF_co_second : Fld Z h0 co "com/example/minos/minos/analysis/Circuit" "second" "[I" (.ref S)) (PF_co_nodes : Fld Z h0 co "com/example/minos/minos/analysis/Circuit" "nodes" "I" (.int (5 : Int32))) (PV_F : Arv Z h0 F k_F .int (1024 : Int32) [(.int (0 : Int32)), (.int (-1 : Int32)), (.int (-1 : Int32)), (.int (-1 : Int32)), (.int va), (.int (0 : Int32))] (.int (0 : Int32))) (PV_S : Arv Z h0 S k_S .int (1024 : Int32) [(.int (0 : Int32)), (.int (-1 : Int32)), (.int (-1 : Int32)), (.int (-1 : Int32)), (.int vb), (.int (0 : Int32))] (.int (0 : Int32))) (hd0 : ¬ (va = (-1 : Int32))) (hret : meth.sig.returnType = some .boolean) (hlk : meth.locks = false) {entry : State} (pre0 : ∀ t, Steps p.tables e below (T0.setTop (mkF m 96 #[.val (.int p1), .val (.int p2), .val (.int p3), .val (.ref co), .val (.int (2 : Int32)), .val (.int (4 : Int32)), .val (.int (0 : Int32)), .val (.int sa), .val (.int sb), .unset, .val (.int (6 : Int32)), .unset] [(.int rv)])) t → Steps p.tables e below entry t) :
    ∃ s₂ o, Steps p.tables e below entry s₂ ∧ s₂.status = .running ∧ Ended s₂ below o ∧ ∃ v L, o = .returned v ∧ Q0 h0 n0 v s₂.heap L ∧ FrameEnd s o s₂ L room_1.cells room_1.slots := by
  obtain ⟨cq1, kq1, q1a, q1b, q1c⟩ := isOf hZ e0 PE_co
  obtain ⟨_, _, ⟨T1, L1, k1, n1⟩, -, X1, ⟨Lc1, hQ1, l1, y1, z1⟩, st1⟩ := X0.virtualBack hx (y := (⟨"com/example/minos/minos/analysis/Circuit", "isGate", "(I)Z"⟩ : MethodName)) (z := (⟨"com/example/minos/minos/analysis/Circuit", "isGate", "(I)Z"⟩ : MethodName)) hown (mvT hZ (hw _ (List.mem_of_getElem? (i := 167) rfl))) (mvT hZ (hw _ (List.mem_of_getElem? (i := 168) rfl))) (notFace_of_selects (args := #[]) (mvT hZ (hw _ (List.mem_of_getElem? (i := 170) rfl)))) (mvT hZ (hw _ (List.mem_of_getElem? (i := 170) rfl))) (mvT hZ (hw _ (List.mem_of_getElem? (i := 169) rfl))) (by decide) (backOf (W := 0) (rm25_45 l Z a0 hw []  co F S k_F va k_S vb h0 n0 (own_n0 O0) O0 PE_co PF_co_first PF_co_second PF_co_nodes PV_F PV_S) hZ (hw _ (List.mem_of_getElem? (i := 171) rfl)) (hw _ (List.mem_of_getElem? (i := 2) rfl)) (by decide) (by decide)) q1a q1c (g := (mkF m 125 #[.val (.int p1), .val (.int p2), .val (.int p3), .val (.ref co), .val (.int (2 : Int32)), .val (.int (4 : Int32)), .val (.int (0 : Int32)), .val (.int sa), .val (.int sb), .val (.int (4 : Int32)), .val (.int (1 : Int32)), .val (.int (0 : Int32))] [(.int (1 : Int32)), (.ref co)])) rfl (by rw [hml]; rfl) (Steps.refl _) (argsL := [(.int (1 : Int32))]) (rest := []) (lenOf pd419 rfl) rfl (by show 2 * 0 + _ ≤ _; exact Nat.le_of_eq rfl) (hb hby at_125) (fun _ _ => ⟨rfl, e0, (by decide : 8 + 0 ≤ _), (by decide : 2084 + 0 ≤ _)⟩)
  dsimp only [Pt.U, Pt.locs, Pt.cells, Pt.slots] at X1 l1 y1 z1 st1 hQ1
  subst l1 y1 z1
  obtain ⟨rfl, N1q, e1⟩ := hQ1
  have N1 := Fr.app N0 N1q
  obtain ⟨fs, hr, hrun, hended, hW, hsame⟩ := X1.leave (v := some (.int (1 : Int32))) (fun h => by rw [hret] at h; cases h) hlk
  refine ⟨_, _, pre0 _ ?_, hrun, hended, _, _, rfl, ?_, ⟨_, rfl⟩, hW, hsame.mono (by decide) (by decide)⟩
  · show Steps p.tables e below (T0.setTop (mkF m 96 #[.val (.int p1), .val (.int p2), .val (.int p3), .val (.ref co), .val (.int (2 : Int32)), .val (.int (4 : Int32)), .val (.int (0 : Int32)), .val (.int sa), .val (.int sb), .unset, .val (.int (6 : Int32)), .unset] [(.int rv)])) _
    refine XS.pop X0.here hx rfl (hb hby at_96) rfl rfl ?_
    show Steps p.tables e below (T0.setTop (mkF m 97 #[.val (.int p1), .val (.int p2), .val (.int p3), .val (.ref co), .val (.int (2 : Int32)), .val (.int (4 : Int32)), .val (.int (0 : Int32)), .val (.int sa), .val (.int sb), .unset, .val (.int (6 : Int32)), .unset] [])) _
    refine XS.iconst X0.here hx rfl (hb hby at_97) ?_
    show Steps p.tables e below (T0.setTop (mkF m 98 #[.val (.int p1), .val (.int p2), .val (.int p3), .val (.ref co), .val (.int (2 : Int32)), .val (.int (4 : Int32)), .val (.int (0 : Int32)), .val (.int sa), .val (.int sb), .unset, .val (.int (6 : Int32)), .unset] [(.int (4 : Int32))])) _
    refine XS.istore X0.here hx rfl (hb hby at_98) rfl (l' := #[.val (.int p1), .val (.int p2), .val (.int p3), .val (.ref co), .val (.int (2 : Int32)), .val (.int (4 : Int32)), .val (.int (0 : Int32)), .val (.int sa), .val (.int sb), .val (.int (4 : Int32)), .val (.int (6 : Int32)), .unset]) rfl ?_
    show Steps p.tables e below (T0.setTop (mkF m 100 #[.val (.int p1), .val (.int p2), .val (.int p3), .val (.ref co), .val (.int (2 : Int32)), .val (.int (4 : Int32)), .val (.int (0 : Int32)), .val (.int sa), .val (.int sb), .val (.int (4 : Int32)), .val (.int (6 : Int32)), .unset] [])) _
    refine XS.iloadN X0.here hx rfl (hb hby at_100) rfl ?_
    show Steps p.tables e below (T0.setTop (mkF m 101 #[.val (.int p1), .val (.int p2), .val (.int p3), .val (.ref co), .val (.int (2 : Int32)), .val (.int (4 : Int32)), .val (.int (0 : Int32)), .val (.int sa), .val (.int sb), .val (.int (4 : Int32)), .val (.int (6 : Int32)), .unset] [(.int p1)])) _
    refine X0.ldcInt hx hown (mvT hZ (hw _ (List.mem_of_getElem? (i := 166) rfl))) (g := (mkF m 101 #[.val (.int p1), .val (.int p2), .val (.int p3), .val (.ref co), .val (.int (2 : Int32)), .val (.int (4 : Int32)), .val (.int (0 : Int32)), .val (.int sa), .val (.int sb), .val (.int (4 : Int32)), .val (.int (6 : Int32)), .unset] [(.int p1)])) rfl (hb hby at_101) _ ?_
    show Steps p.tables e below (T0.setTop (mkF m 103 #[.val (.int p1), .val (.int p2), .val (.int p3), .val (.ref co), .val (.int (2 : Int32)), .val (.int (4 : Int32)), .val (.int (0 : Int32)), .val (.int sa), .val (.int sb), .val (.int (4 : Int32)), .val (.int (6 : Int32)), .unset] [(.int (2147483647 : Int32)), (.int p1)])) _
    refine XS.iand X0.here hx rfl (hb hby at_103) rfl ?_
    show Steps p.tables e below (T0.setTop (mkF m 104 #[.val (.int p1), .val (.int p2), .val (.int p3), .val (.ref co), .val (.int (2 : Int32)), .val (.int (4 : Int32)), .val (.int (0 : Int32)), .val (.int sa), .val (.int sb), .val (.int (4 : Int32)), .val (.int (6 : Int32)), .unset] [(.int (p1 &&& (2147483647 : Int32)))])) _
    refine XS.iconst X0.here hx rfl (hb hby at_104) ?_
    show Steps p.tables e below (T0.setTop (mkF m 105 #[.val (.int p1), .val (.int p2), .val (.int p3), .val (.ref co), .val (.int (2 : Int32)), .val (.int (4 : Int32)), .val (.int (0 : Int32)), .val (.int sa), .val (.int sb), .val (.int (4 : Int32)), .val (.int (6 : Int32)), .unset] [(.int (5 : Int32)), (.int (p1 &&& (2147483647 : Int32)))])) _
    refine iremM X0 hx rfl (hb hby at_105) rfl (by decide) ?_
    rw [hk]
    show Steps p.tables e below (T0.setTop (mkF m 106 #[.val (.int p1), .val (.int p2), .val (.int p3), .val (.ref co), .val (.int (2 : Int32)), .val (.int (4 : Int32)), .val (.int (0 : Int32)), .val (.int sa), .val (.int sb), .val (.int (4 : Int32)), .val (.int (6 : Int32)), .unset] [(.int (1 : Int32))])) _
    refine XS.istore X0.here hx rfl (hb hby at_106) rfl (l' := #[.val (.int p1), .val (.int p2), .val (.int p3), .val (.ref co), .val (.int (2 : Int32)), .val (.int (4 : Int32)), .val (.int (0 : Int32)), .val (.int sa), .val (.int sb), .val (.int (4 : Int32)), .val (.int (1 : Int32)), .unset]) rfl ?_
    show Steps p.tables e below (T0.setTop (mkF m 108 #[.val (.int p1), .val (.int p2), .val (.int p3), .val (.ref co), .val (.int (2 : Int32)), .val (.int (4 : Int32)), .val (.int (0 : Int32)), .val (.int sa), .val (.int sb), .val (.int (4 : Int32)), .val (.int (1 : Int32)), .unset] [])) _
    refine XS.iload X0.here hx rfl (hb hby at_108) rfl ?_
    show Steps p.tables e below (T0.setTop (mkF m 110 #[.val (.int p1), .val (.int p2), .val (.int p3), .val (.ref co), .val (.int (2 : Int32)), .val (.int (4 : Int32)), .val (.int (0 : Int32)), .val (.int sa), .val (.int sb), .val (.int (4 : Int32)), .val (.int (1 : Int32)), .unset] [(.int (1 : Int32))])) _
    refine XS.iload X0.here hx rfl (hb hby at_110) rfl ?_
    show Steps p.tables e below (T0.setTop (mkF m 112 #[.val (.int p1), .val (.int p2), .val (.int p3), .val (.ref co), .val (.int (2 : Int32)), .val (.int (4 : Int32)), .val (.int (0 : Int32)), .val (.int sa), .val (.int sb), .val (.int (4 : Int32)), .val (.int (1 : Int32)), .unset] [(.int (4 : Int32)), (.int (1 : Int32))])) _
    refine XS.icmpYes X0.here hx rfl (pc0 := 112) (pc' := 119) rfl (hb hby at_112) rfl (feq (by decide : ¬ ((1 : Int32) = (4 : Int32)))).2 (by decide) (by decide) ?_
    show Steps p.tables e below (T0.setTop (mkF m 119 #[.val (.int p1), .val (.int p2), .val (.int p3), .val (.ref co), .val (.int (2 : Int32)), .val (.int (4 : Int32)), .val (.int (0 : Int32)), .val (.int sa), .val (.int sb), .val (.int (4 : Int32)), .val (.int (1 : Int32)), .unset] [])) _
    refine XS.iconst X0.here hx rfl (hb hby at_119) ?_
    show Steps p.tables e below (T0.setTop (mkF m 120 #[.val (.int p1), .val (.int p2), .val (.int p3), .val (.ref co), .val (.int (2 : Int32)), .val (.int (4 : Int32)), .val (.int (0 : Int32)), .val (.int sa), .val (.int sb), .val (.int (4 : Int32)), .val (.int (1 : Int32)), .unset] [(.int (0 : Int32))])) _
    refine XS.istore X0.here hx rfl (hb hby at_120) rfl (l' := #[.val (.int p1), .val (.int p2), .val (.int p3), .val (.ref co), .val (.int (2 : Int32)), .val (.int (4 : Int32)), .val (.int (0 : Int32)), .val (.int sa), .val (.int sb), .val (.int (4 : Int32)), .val (.int (1 : Int32)), .val (.int (0 : Int32))]) rfl ?_
    show Steps p.tables e below (T0.setTop (mkF m 122 #[.val (.int p1), .val (.int p2), .val (.int p3), .val (.ref co), .val (.int (2 : Int32)), .val (.int (4 : Int32)), .val (.int (0 : Int32)), .val (.int sa), .val (.int sb), .val (.int (4 : Int32)), .val (.int (1 : Int32)), .val (.int (0 : Int32))] [])) _
    refine XS.aloadN X0.here hx rfl (hb hby at_122) rfl rfl ?_
    show Steps p.tables e below (T0.setTop (mkF m 123 #[.val (.int p1), .val (.int p2), .val (.int p3), .val (.ref co), .val (.int (2 : Int32)), .val (.int (4 : Int32)), .val (.int (0 : Int32)), .val (.int sa), .val (.int sb), .val (.int (4 : Int32)), .val (.int (1 : Int32)), .val (.int (0 : Int32))] [(.ref co)])) _
    refine XS.iload X0.here hx rfl (hb hby at_123) rfl ?_
    show Steps p.tables e below (T0.setTop (mkF m 125 #[.val (.int p1), .val (.int p2), .val (.int p3), .val (.ref co), .val (.int (2 : Int32)), .val (.int (4 : Int32)), .val (.int (0 : Int32)), .val (.int sa), .val (.int sb), .val (.int (4 : Int32)), .val (.int (1 : Int32)), .val (.int (0 : Int32))] [(.int (1 : Int32)), (.ref co)])) _
    refine st1.trans ?_
    show Steps p.tables e below (T1.setTop (mkF m 128 #[.val (.int p1), .val (.int p2), .val (.int p3), .val (.ref co), .val (.int (2 : Int32)), .val (.int (4 : Int32)), .val (.int (0 : Int32)), .val (.int sa), .val (.int sb), .val (.int (4 : Int32)), .val (.int (1 : Int32)), .val (.int (0 : Int32))] [(.int (0 : Int32))])) _
    refine XS.iload X1.here hx rfl (hb hby at_128) rfl ?_
    show Steps p.tables e below (T1.setTop (mkF m 130 #[.val (.int p1), .val (.int p2), .val (.int p3), .val (.ref co), .val (.int (2 : Int32)), .val (.int (4 : Int32)), .val (.int (0 : Int32)), .val (.int sa), .val (.int sb), .val (.int (4 : Int32)), .val (.int (1 : Int32)), .val (.int (0 : Int32))] [(.int (0 : Int32)), (.int (0 : Int32))])) _
    refine XS.icmpNo X1.here hx rfl (hb hby at_130) rfl (teq (by decide : (0 : Int32) = (0 : Int32))).2 ?_
    show Steps p.tables e below (T1.setTop (mkF m 133 #[.val (.int p1), .val (.int p2), .val (.int p3), .val (.ref co), .val (.int (2 : Int32)), .val (.int (4 : Int32)), .val (.int (0 : Int32)), .val (.int sa), .val (.int sb), .val (.int (4 : Int32)), .val (.int (1 : Int32)), .val (.int (0 : Int32))] [])) _
    refine XS.iconst X1.here hx rfl (hb hby at_133) ?_
    show Steps p.tables e below (T1.setTop (mkF m 134 #[.val (.int p1), .val (.int p2), .val (.int p3), .val (.ref co), .val (.int (2 : Int32)), .val (.int (4 : Int32)), .val (.int (0 : Int32)), .val (.int sa), .val (.int sb), .val (.int (4 : Int32)), .val (.int (1 : Int32)), .val (.int (0 : Int32))] [(.int (1 : Int32))])) _
    refine XS.goto X1.here hx rfl (pc0 := 134) (pc' := 138) rfl (hb hby at_134) (by decide) (by decide) ?_
    show Steps p.tables e below (T1.setTop (mkF m 138 #[.val (.int p1), .val (.int p2), .val (.int p3), .val (.ref co), .val (.int (2 : Int32)), .val (.int (4 : Int32)), .val (.int (0 : Int32)), .val (.int sa), .val (.int sb), .val (.int (4 : Int32)), .val (.int (1 : Int32)), .val (.int (0 : Int32))] [(.int (1 : Int32))])) _
    exact retN X1 hx (t := .boolean) hret (by simp) (hb hby at_138) hr
  · exact ⟨rfl, N1⟩
def Q25_47 (Z : State) (ob0 : Addr) (ob1 : Addr) (ob2 : Addr) (k_ob1 : ClassId) (q0 : Int32) (k_ob2 : ClassId) (q1 : Int32) (h0 : Heap) (n0 : Nat) (v : Option Value) (h : Heap) (L : List Loc) : Prop := v = some (.int (0 : Int32)) ∧ Fr n0 L ∧ h = h0
set_option maxRecDepth 65536 in
set_option maxHeartbeats 40000000 in
theorem rm25_47 (l : Launch) (Z : State) (a0 : Array Value) (hw : ∀ d ∈ tables_1, d.before a0 Z = true) (ws : List Jvm.Cond) (ob0 : Addr) (ob1 : Addr) (ob2 : Addr) (k_ob1 : ClassId) (q0 : Int32) (k_ob2 : ClassId) (q1 : Int32) (h0 : Heap) (n0 : Nat) (Z0 : n0 ≤ h0.size) (O0 : Old Z n0 h0) (PE_ob0 : Exa Z h0 ob0 "com/example/minos/minos/analysis/Circuit") (PF_ob0_first : Fld Z h0 ob0 "com/example/minos/minos/analysis/Circuit" "first" "[I" (.ref ob1)) (PF_ob0_second : Fld Z h0 ob0 "com/example/minos/minos/analysis/Circuit" "second" "[I" (.ref ob2)) (PF_ob0_nodes : Fld Z h0 ob0 "com/example/minos/minos/analysis/Circuit" "nodes" "I" (.int (5 : Int32))) (PV_ob1 : Arv Z h0 ob1 k_ob1 .int (1024 : Int32) [(.int (0 : Int32)), (.int (-1 : Int32)), (.int (-1 : Int32)), (.int q0), (.int (-1 : Int32)), (.int (0 : Int32))] (.int (0 : Int32))) (PV_ob2 : Arv Z h0 ob2 k_ob2 .int (1024 : Int32) [(.int (0 : Int32)), (.int (-1 : Int32)), (.int (-1 : Int32)), (.int q1), (.int (-1 : Int32)), (.int (0 : Int32))] (.int (0 : Int32))) :
    MetFree l (⟨"com/example/minos/minos/analysis/Circuit", "isGate", "(I)Z"⟩ : MethodName) (head1 (Jvm.Cond.code (⟨"com/example/minos/minos/analysis/Circuit", "isGate", "(I)Z"⟩ : MethodName) prog_12_method_11_code 2 (some .boolean) :: ws) ({ frames := 0, cells := 0, slots := 0, locals := 0 } : Room)) (fun a U => a = #[(.ref ob0), (.int (2 : Int32))] ∧ Z.Warmed39 U.vm ∧ U.heap = h0) (fun _ _ _ _ _ => True) (fun _ U o U' => ∃ v L, o = .returned v ∧ Q25_47 Z  ob0 ob1 ob2 k_ob1 q0 k_ob2 q1 h0 n0 v U'.heap L ∧ FrameEnd U o U' L ({ frames := 0, cells := 0, slots := 0, locals := 0 } : Room).cells ({ frames := 0, cells := 0, slots := 0, locals := 0 } : Room).slots) := by
  refine MetFree.of_bodySF (plainFor_of_name pn37) hisR ?_
  intro p e s m args below meth c s₁ Bd hml0 hP hK
  obtain ⟨rfl, hZ, hh⟩ := hP
  have hx := Bd.exec
  have hby := Bd.bytes
  have hml : c.maxLocals = 2 := hml0
  have hown : s.vm.findClass "com/example/minos/minos/analysis/Circuit" = some m.cls := findClass_of_methodNamed Bd.named
  have hnm := (name_of_methodNamed Bd.named Bd.method).1
  have X0 : Stand p l e ({ frames := 0, cells := 0, slots := 0, locals := 0 } : Room) s m #[(.ref ob0), (.int (2 : Int32))] below meth c s₁ [] 0 0 := Stand.of_body Bd
  have e0 : s₁.heap = h0 := by rw [← hh, Bd.state]; rfl
  have N0 := Fr.nil n0
  have pre0 : ∀ t, Steps p.tables e below (s₁.setTop (mkF m 0 #[.val (.ref ob0), .val (.int (2 : Int32))] [])) t → Steps p.tables e below (s₁.setTop (entryFrame m #[(.ref ob0), (.int (2 : Int32))] 2)) t := fun t k => castTop (ef418 m ob0 (2 : Int32)) k
  obtain ⟨T1, X1, e1, st1⟩ := getF X0 hx hZ hown (host := "") (Or.inl (hw _ (List.mem_of_getElem? (i := 10) rfl))) Via.refl e0 PF_ob0_first (g := (mkF m 5 #[.val (.ref ob0), .val (.int (2 : Int32))] [(.ref ob0)])) rfl rfl (hb hby d25_5)
  obtain ⟨ac2, aA2, aq2, aS2, aN2, aH2, aG2⟩ := id PV_ob1
  obtain ⟨fs, hr, hrun, hended, hW, hsame⟩ := X1.leave (v := some (.int (0 : Int32))) (fun h => by rw [Bd.returns] at h; cases h)
  refine ⟨_, _, pre0 _ ?_, hrun, hended, _, _, rfl, ?_, ⟨_, rfl⟩, hW, hsame.mono (by decide) (by decide)⟩
  · show Steps p.tables e below (s₁.setTop (mkF m 0 #[.val (.ref ob0), .val (.int (2 : Int32))] [])) _
    refine XS.iloadN X0.here hx rfl (hb hby d25_0) rfl ?_
    show Steps p.tables e below (s₁.setTop (mkF m 1 #[.val (.ref ob0), .val (.int (2 : Int32))] [(.int (2 : Int32))])) _
    refine XS.ifNo X0.here hx rfl (hb hby d25_1) rfl ((if0 _ _).trans (tlt (by decide : (0 : Int32) < (2 : Int32))).2.2.2) ?_
    show Steps p.tables e below (s₁.setTop (mkF m 4 #[.val (.ref ob0), .val (.int (2 : Int32))] [])) _
    refine XS.aloadN X0.here hx rfl (hb hby d25_4) rfl rfl ?_
    show Steps p.tables e below (s₁.setTop (mkF m 5 #[.val (.ref ob0), .val (.int (2 : Int32))] [(.ref ob0)])) _
    refine st1 _ ?_
    show Steps p.tables e below (T1.setTop (mkF m 8 #[.val (.ref ob0), .val (.int (2 : Int32))] [(.ref ob1)])) _
    refine XS.iloadN X1.here hx rfl (hb hby d25_8) rfl ?_
    show Steps p.tables e below (T1.setTop (mkF m 9 #[.val (.ref ob0), .val (.int (2 : Int32))] [(.int (2 : Int32)), (.ref ob1)])) _
    refine X1.iaload hx (j := (2 : Int32)) (v := (.int (-1 : Int32))) (by rw [e1]; exact aA2.1) (State.isArrayOf_alike hZ.alike aA2.2.1) aA2.2.2 (inb_of aS2 ⟨by decide, by decide⟩) (aH2.at (inb_of aS2 ⟨by decide, by decide⟩) rfl) (g := (mkF m 9 #[.val (.ref ob0), .val (.int (2 : Int32))] [(.int (2 : Int32)), (.ref ob1)])) rfl rfl (hb hby d25_9) _ ?_
    show Steps p.tables e below (T1.setTop (mkF m 10 #[.val (.ref ob0), .val (.int (2 : Int32))] [(.int (-1 : Int32))])) _
    refine XS.iconst X1.here hx rfl (hb hby d25_10) ?_
    show Steps p.tables e below (T1.setTop (mkF m 11 #[.val (.ref ob0), .val (.int (2 : Int32))] [(.int (-1 : Int32)), (.int (-1 : Int32))])) _
    refine XS.icmpYes X1.here hx rfl (pc0 := 11) (pc' := 18) rfl (hb hby d25_11) rfl (teq (by decide : (-1 : Int32) = (-1 : Int32))).1 (by decide) (by decide) ?_
    show Steps p.tables e below (T1.setTop (mkF m 18 #[.val (.ref ob0), .val (.int (2 : Int32))] [])) _
    refine XS.iconst X1.here hx rfl (hb hby d25_18) ?_
    show Steps p.tables e below (T1.setTop (mkF m 19 #[.val (.ref ob0), .val (.int (2 : Int32))] [(.int (0 : Int32))])) _
    exact retN X1 hx (t := .boolean) Bd.returns (by simp) (hb hby d25_19) hr
  · exact ⟨rfl, N0, e1⟩
set_option maxRecDepth 65536 in
set_option maxHeartbeats 40000000 in
theorem lT12 {p : Program} {l : Launch} {e : Env} {s : State} {m : MethodId} {args : Array Value} {below : List Frame} {meth : Method} {c : Code} {T0 : State} {locs : List Loc} {Z : State} {a0 : Array Value} {h0 : Heap} {n0 : Nat} (p1 : Int32) (p2 : Int32) (p3 : Int32) (co : Addr) (sa : Int32) (sb : Int32) (rv : Int32) (F : Addr) (S : Addr) (k_F : ClassId) (va : Int32) (k_S : ClassId) (vb : Int32)
    (X0 : Stand p l e room_1 s m args below meth c T0 locs 8 2084) (hx : p.tables.exec = Jvm.exec) (hZ : Z.Warmed39 s.vm) (hw : ∀ d ∈ tables_1, d.before a0 Z = true) (hby : c.code = code) (hml : c.maxLocals = 12) (hown : s.vm.findClass "com/example/minos/minos/analysis/CircuitIsGatePinLaw" = some m.cls) (e0 : T0.heap = h0) (N0 : Fr n0 locs) (O0 : Old Z n0 h0) (hk : ((p1 &&& (2147483647 : Int32)) % (5 : Int32)) = (2 : Int32)) (PE_co : Exa Z h0 co "com/example/minos/minos/analysis/Circuit") (PF_co_first : Fld Z h0 co "com/example/minos/minos/analysis/Circuit" "first" "[I" (.ref F)) (PF_co_second : Fld Z h0 co "com/example/minos/minos/analysis/Circuit" "second" "[I" (.ref S)) (PF_co_nodes : Fld Z h0 co "com/example/minos/minos/analysis/Circuit" "nodes" "I" (.int (4 : Int32))) (PV_F : Arv Z h0 F k_F .int (1024 : Int32) [(.int (0 : Int32)), (.int (-1 : Int32)), (.int (-1 : Int32)), (.int va), (.int (0 : Int32)), (.int (0 : Int32))] (.int (0 : Int32))) (PV_S : Arv Z h0 S k_S .int (1024 : Int32) [(.int (0 : Int32)), (.int (-1 : Int32)), (.int (-1 : Int32)), (.int vb), (.int (0 : Int32)), (.int (0 : Int32))] (.int (0 : Int32))) (ne_F_co : F ≠ co) (ne_F_S : F ≠ S) (ne_S_co : S ≠ co) (g_F : n0 ≤ F) (g_S : n0 ≤ S) (g_co : n0 ≤ co) (hd0 : ¬ (va = (-1 : Int32))) (hret : meth.sig.returnType = some .boolean) (hlk : meth.locks = false) {entry : State} (pre0 : ∀ t, Steps p.tables e below (T0.setTop (mkF m 64 #[.val (.int p1), .val (.int p2), .val (.int p3), .val (.ref co), .val (.int (2 : Int32)), .val (.int (4 : Int32)), .val (.int (1 : Int32)), .val (.int sa), .val (.int sb), .unset, .unset, .unset] [(.int rv)])) t → Steps p.tables e below entry t) :
    ∃ s₂ o, Steps p.tables e below entry s₂ ∧ s₂.status = .running ∧ Ended s₂ below o ∧ ∃ v L, o = .returned v ∧ Q0 h0 n0 v s₂.heap L ∧ FrameEnd s o s₂ L room_1.cells room_1.slots := by
  obtain ⟨cq1, kq1, q1a, q1b, q1c⟩ := isOf hZ e0 PE_co
  obtain ⟨_, _, ⟨T1, L1, k1, n1⟩, -, X1, ⟨Lc1, hQ1, l1, y1, z1⟩, st1⟩ := X0.virtualBack hx (y := (⟨"com/example/minos/minos/analysis/Circuit", "input", "()I"⟩ : MethodName)) (z := (⟨"com/example/minos/minos/analysis/Circuit", "input", "()I"⟩ : MethodName)) hown (mvT hZ (hw _ (List.mem_of_getElem? (i := 34) rfl))) (mvT hZ (hw _ (List.mem_of_getElem? (i := 35) rfl))) (notFace_of_selects (args := #[]) (mvT hZ (hw _ (List.mem_of_getElem? (i := 37) rfl)))) (mvT hZ (hw _ (List.mem_of_getElem? (i := 37) rfl))) (mvT hZ (hw _ (List.mem_of_getElem? (i := 36) rfl))) (by decide) (backOf (W := 0) (rm5_38 l Z a0 hw []  co F S k_F va k_S vb h0 n0 (own_n0 O0) O0 PE_co PF_co_first PF_co_second PF_co_nodes PV_F PV_S (Ne.symm ne_F_co) ne_F_S (Ne.symm ne_S_co) g_F g_S g_co) hZ (hw _ (List.mem_of_getElem? (i := 38) rfl)) (hw _ (List.mem_of_getElem? (i := 2) rfl)) (by decide) (by decide)) q1a q1c (g := (mkF m 66 #[.val (.int p1), .val (.int p2), .val (.int p3), .val (.ref co), .val (.int (2 : Int32)), .val (.int (4 : Int32)), .val (.int (1 : Int32)), .val (.int sa), .val (.int sb), .unset, .unset, .unset] [(.ref co)])) rfl (by rw [hml]; rfl) (Steps.refl _) (argsL := []) (rest := []) (lenOf pd120 rfl) rfl (by show 2 * 0 + _ ≤ _; exact Nat.le_of_eq rfl) (hb hby at_66) (fun _ _ => ⟨rfl, e0, (by decide : 8 + 0 ≤ _), (by decide : 2084 + 0 ≤ _)⟩)
  dsimp only [Pt.U, Pt.locs, Pt.cells, Pt.slots] at X1 l1 y1 z1 st1 hQ1
  subst l1 y1 z1
  obtain ⟨rfl, N1q, K1, O1, pf1_0, pf1_1, pf1_2, pf1_3, pf1_4, pf1_5, -⟩ := hQ1
  have KK1 : Keep h0 T1.heap [F, S, co] := (Keep.refl h0 [F, S, co]).trans K1 (allS (Or.inl (List.mem_of_getElem? (i := 0) rfl)) (allS (Or.inl (List.mem_of_getElem? (i := 1) rfl)) (allS (Or.inl (List.mem_of_getElem? (i := 2) rfl)) all0)))
  have N1 := Fr.app N0 N1q
  obtain ⟨cq2, kq2, q2a, q2b, q2c⟩ := isOf hZ rfl pf1_2
  obtain ⟨_, _, ⟨T2, L2, k2, n2⟩, -, X2, ⟨Lc2, hQ2, l2, y2, z2⟩, st2⟩ := X1.virtualBack hx (y := (⟨"com/example/minos/minos/analysis/Circuit", "isGate", "(I)Z"⟩ : MethodName)) (z := (⟨"com/example/minos/minos/analysis/Circuit", "isGate", "(I)Z"⟩ : MethodName)) hown (mvT hZ (hw _ (List.mem_of_getElem? (i := 167) rfl))) (mvT hZ (hw _ (List.mem_of_getElem? (i := 168) rfl))) (notFace_of_selects (args := #[]) (mvT hZ (hw _ (List.mem_of_getElem? (i := 170) rfl)))) (mvT hZ (hw _ (List.mem_of_getElem? (i := 170) rfl))) (mvT hZ (hw _ (List.mem_of_getElem? (i := 169) rfl))) (by decide) (backOf (W := 0) (rm25_47 l Z a0 hw []  co F S k_F va k_S vb T1.heap n0 (own_n0 O1) O1 pf1_2 pf1_3 pf1_4 pf1_5 pf1_0 pf1_1) hZ (hw _ (List.mem_of_getElem? (i := 171) rfl)) (hw _ (List.mem_of_getElem? (i := 2) rfl)) (by decide) (by decide)) q2a q2c (g := (mkF m 125 #[.val (.int p1), .val (.int p2), .val (.int p3), .val (.ref co), .val (.int (2 : Int32)), .val (.int (4 : Int32)), .val (.int (1 : Int32)), .val (.int sa), .val (.int sb), .val (.int (3 : Int32)), .val (.int (2 : Int32)), .val (.int (0 : Int32))] [(.int (2 : Int32)), (.ref co)])) rfl (by rw [hml]; rfl) (Steps.refl _) (argsL := [(.int (2 : Int32))]) (rest := []) (lenOf pd419 rfl) rfl (by show 2 * 0 + _ ≤ _; exact Nat.le_of_eq rfl) (hb hby at_125) (fun _ _ => ⟨rfl, rfl, (by decide : 8 + 0 ≤ _), (by decide : 2084 + 0 ≤ _)⟩)
  dsimp only [Pt.U, Pt.locs, Pt.cells, Pt.slots] at X2 l2 y2 z2 st2 hQ2
  subst l2 y2 z2
  obtain ⟨rfl, N2q, e2⟩ := hQ2
  have N2 := Fr.app N1 N2q
  obtain ⟨fs, hr, hrun, hended, hW, hsame⟩ := X2.leave (v := some (.int (1 : Int32))) (fun h => by rw [hret] at h; cases h) hlk
  refine ⟨_, _, pre0 _ ?_, hrun, hended, _, _, rfl, ?_, ⟨_, rfl⟩, hW, hsame.mono (by decide) (by decide)⟩
  · show Steps p.tables e below (T0.setTop (mkF m 64 #[.val (.int p1), .val (.int p2), .val (.int p3), .val (.ref co), .val (.int (2 : Int32)), .val (.int (4 : Int32)), .val (.int (1 : Int32)), .val (.int sa), .val (.int sb), .unset, .unset, .unset] [(.int rv)])) _
    refine XS.pop X0.here hx rfl (hb hby at_64) rfl rfl ?_
    show Steps p.tables e below (T0.setTop (mkF m 65 #[.val (.int p1), .val (.int p2), .val (.int p3), .val (.ref co), .val (.int (2 : Int32)), .val (.int (4 : Int32)), .val (.int (1 : Int32)), .val (.int sa), .val (.int sb), .unset, .unset, .unset] [])) _
    refine XS.aloadN X0.here hx rfl (hb hby at_65) rfl rfl ?_
    show Steps p.tables e below (T0.setTop (mkF m 66 #[.val (.int p1), .val (.int p2), .val (.int p3), .val (.ref co), .val (.int (2 : Int32)), .val (.int (4 : Int32)), .val (.int (1 : Int32)), .val (.int sa), .val (.int sb), .unset, .unset, .unset] [(.ref co)])) _
    refine st1.trans ?_
    show Steps p.tables e below (T1.setTop (mkF m 69 #[.val (.int p1), .val (.int p2), .val (.int p3), .val (.ref co), .val (.int (2 : Int32)), .val (.int (4 : Int32)), .val (.int (1 : Int32)), .val (.int sa), .val (.int sb), .unset, .unset, .unset] [(.int (8 : Int32))])) _
    refine XS.pop X1.here hx rfl (hb hby at_69) rfl rfl ?_
    show Steps p.tables e below (T1.setTop (mkF m 70 #[.val (.int p1), .val (.int p2), .val (.int p3), .val (.ref co), .val (.int (2 : Int32)), .val (.int (4 : Int32)), .val (.int (1 : Int32)), .val (.int sa), .val (.int sb), .unset, .unset, .unset] [])) _
    refine XS.iconst X1.here hx rfl (hb hby at_70) ?_
    show Steps p.tables e below (T1.setTop (mkF m 71 #[.val (.int p1), .val (.int p2), .val (.int p3), .val (.ref co), .val (.int (2 : Int32)), .val (.int (4 : Int32)), .val (.int (1 : Int32)), .val (.int sa), .val (.int sb), .unset, .unset, .unset] [(.int (3 : Int32))])) _
    refine XS.istore X1.here hx rfl (hb hby at_71) rfl (l' := #[.val (.int p1), .val (.int p2), .val (.int p3), .val (.ref co), .val (.int (2 : Int32)), .val (.int (4 : Int32)), .val (.int (1 : Int32)), .val (.int sa), .val (.int sb), .val (.int (3 : Int32)), .unset, .unset]) rfl ?_
    show Steps p.tables e below (T1.setTop (mkF m 73 #[.val (.int p1), .val (.int p2), .val (.int p3), .val (.ref co), .val (.int (2 : Int32)), .val (.int (4 : Int32)), .val (.int (1 : Int32)), .val (.int sa), .val (.int sb), .val (.int (3 : Int32)), .unset, .unset] [])) _
    refine XS.goto X1.here hx rfl (pc0 := 73) (pc' := 100) rfl (hb hby at_73) (by decide) (by decide) ?_
    show Steps p.tables e below (T1.setTop (mkF m 100 #[.val (.int p1), .val (.int p2), .val (.int p3), .val (.ref co), .val (.int (2 : Int32)), .val (.int (4 : Int32)), .val (.int (1 : Int32)), .val (.int sa), .val (.int sb), .val (.int (3 : Int32)), .unset, .unset] [])) _
    refine XS.iloadN X1.here hx rfl (hb hby at_100) rfl ?_
    show Steps p.tables e below (T1.setTop (mkF m 101 #[.val (.int p1), .val (.int p2), .val (.int p3), .val (.ref co), .val (.int (2 : Int32)), .val (.int (4 : Int32)), .val (.int (1 : Int32)), .val (.int sa), .val (.int sb), .val (.int (3 : Int32)), .unset, .unset] [(.int p1)])) _
    refine X1.ldcInt hx hown (mvT hZ (hw _ (List.mem_of_getElem? (i := 166) rfl))) (g := (mkF m 101 #[.val (.int p1), .val (.int p2), .val (.int p3), .val (.ref co), .val (.int (2 : Int32)), .val (.int (4 : Int32)), .val (.int (1 : Int32)), .val (.int sa), .val (.int sb), .val (.int (3 : Int32)), .unset, .unset] [(.int p1)])) rfl (hb hby at_101) _ ?_
    show Steps p.tables e below (T1.setTop (mkF m 103 #[.val (.int p1), .val (.int p2), .val (.int p3), .val (.ref co), .val (.int (2 : Int32)), .val (.int (4 : Int32)), .val (.int (1 : Int32)), .val (.int sa), .val (.int sb), .val (.int (3 : Int32)), .unset, .unset] [(.int (2147483647 : Int32)), (.int p1)])) _
    refine XS.iand X1.here hx rfl (hb hby at_103) rfl ?_
    show Steps p.tables e below (T1.setTop (mkF m 104 #[.val (.int p1), .val (.int p2), .val (.int p3), .val (.ref co), .val (.int (2 : Int32)), .val (.int (4 : Int32)), .val (.int (1 : Int32)), .val (.int sa), .val (.int sb), .val (.int (3 : Int32)), .unset, .unset] [(.int (p1 &&& (2147483647 : Int32)))])) _
    refine XS.iconst X1.here hx rfl (hb hby at_104) ?_
    show Steps p.tables e below (T1.setTop (mkF m 105 #[.val (.int p1), .val (.int p2), .val (.int p3), .val (.ref co), .val (.int (2 : Int32)), .val (.int (4 : Int32)), .val (.int (1 : Int32)), .val (.int sa), .val (.int sb), .val (.int (3 : Int32)), .unset, .unset] [(.int (5 : Int32)), (.int (p1 &&& (2147483647 : Int32)))])) _
    refine iremM X1 hx rfl (hb hby at_105) rfl (by decide) ?_
    rw [hk]
    show Steps p.tables e below (T1.setTop (mkF m 106 #[.val (.int p1), .val (.int p2), .val (.int p3), .val (.ref co), .val (.int (2 : Int32)), .val (.int (4 : Int32)), .val (.int (1 : Int32)), .val (.int sa), .val (.int sb), .val (.int (3 : Int32)), .unset, .unset] [(.int (2 : Int32))])) _
    refine XS.istore X1.here hx rfl (hb hby at_106) rfl (l' := #[.val (.int p1), .val (.int p2), .val (.int p3), .val (.ref co), .val (.int (2 : Int32)), .val (.int (4 : Int32)), .val (.int (1 : Int32)), .val (.int sa), .val (.int sb), .val (.int (3 : Int32)), .val (.int (2 : Int32)), .unset]) rfl ?_
    show Steps p.tables e below (T1.setTop (mkF m 108 #[.val (.int p1), .val (.int p2), .val (.int p3), .val (.ref co), .val (.int (2 : Int32)), .val (.int (4 : Int32)), .val (.int (1 : Int32)), .val (.int sa), .val (.int sb), .val (.int (3 : Int32)), .val (.int (2 : Int32)), .unset] [])) _
    refine XS.iload X1.here hx rfl (hb hby at_108) rfl ?_
    show Steps p.tables e below (T1.setTop (mkF m 110 #[.val (.int p1), .val (.int p2), .val (.int p3), .val (.ref co), .val (.int (2 : Int32)), .val (.int (4 : Int32)), .val (.int (1 : Int32)), .val (.int sa), .val (.int sb), .val (.int (3 : Int32)), .val (.int (2 : Int32)), .unset] [(.int (2 : Int32))])) _
    refine XS.iload X1.here hx rfl (hb hby at_110) rfl ?_
    show Steps p.tables e below (T1.setTop (mkF m 112 #[.val (.int p1), .val (.int p2), .val (.int p3), .val (.ref co), .val (.int (2 : Int32)), .val (.int (4 : Int32)), .val (.int (1 : Int32)), .val (.int sa), .val (.int sb), .val (.int (3 : Int32)), .val (.int (2 : Int32)), .unset] [(.int (3 : Int32)), (.int (2 : Int32))])) _
    refine XS.icmpYes X1.here hx rfl (pc0 := 112) (pc' := 119) rfl (hb hby at_112) rfl (feq (by decide : ¬ ((2 : Int32) = (3 : Int32)))).2 (by decide) (by decide) ?_
    show Steps p.tables e below (T1.setTop (mkF m 119 #[.val (.int p1), .val (.int p2), .val (.int p3), .val (.ref co), .val (.int (2 : Int32)), .val (.int (4 : Int32)), .val (.int (1 : Int32)), .val (.int sa), .val (.int sb), .val (.int (3 : Int32)), .val (.int (2 : Int32)), .unset] [])) _
    refine XS.iconst X1.here hx rfl (hb hby at_119) ?_
    show Steps p.tables e below (T1.setTop (mkF m 120 #[.val (.int p1), .val (.int p2), .val (.int p3), .val (.ref co), .val (.int (2 : Int32)), .val (.int (4 : Int32)), .val (.int (1 : Int32)), .val (.int sa), .val (.int sb), .val (.int (3 : Int32)), .val (.int (2 : Int32)), .unset] [(.int (0 : Int32))])) _
    refine XS.istore X1.here hx rfl (hb hby at_120) rfl (l' := #[.val (.int p1), .val (.int p2), .val (.int p3), .val (.ref co), .val (.int (2 : Int32)), .val (.int (4 : Int32)), .val (.int (1 : Int32)), .val (.int sa), .val (.int sb), .val (.int (3 : Int32)), .val (.int (2 : Int32)), .val (.int (0 : Int32))]) rfl ?_
    show Steps p.tables e below (T1.setTop (mkF m 122 #[.val (.int p1), .val (.int p2), .val (.int p3), .val (.ref co), .val (.int (2 : Int32)), .val (.int (4 : Int32)), .val (.int (1 : Int32)), .val (.int sa), .val (.int sb), .val (.int (3 : Int32)), .val (.int (2 : Int32)), .val (.int (0 : Int32))] [])) _
    refine XS.aloadN X1.here hx rfl (hb hby at_122) rfl rfl ?_
    show Steps p.tables e below (T1.setTop (mkF m 123 #[.val (.int p1), .val (.int p2), .val (.int p3), .val (.ref co), .val (.int (2 : Int32)), .val (.int (4 : Int32)), .val (.int (1 : Int32)), .val (.int sa), .val (.int sb), .val (.int (3 : Int32)), .val (.int (2 : Int32)), .val (.int (0 : Int32))] [(.ref co)])) _
    refine XS.iload X1.here hx rfl (hb hby at_123) rfl ?_
    show Steps p.tables e below (T1.setTop (mkF m 125 #[.val (.int p1), .val (.int p2), .val (.int p3), .val (.ref co), .val (.int (2 : Int32)), .val (.int (4 : Int32)), .val (.int (1 : Int32)), .val (.int sa), .val (.int sb), .val (.int (3 : Int32)), .val (.int (2 : Int32)), .val (.int (0 : Int32))] [(.int (2 : Int32)), (.ref co)])) _
    refine st2.trans ?_
    show Steps p.tables e below (T2.setTop (mkF m 128 #[.val (.int p1), .val (.int p2), .val (.int p3), .val (.ref co), .val (.int (2 : Int32)), .val (.int (4 : Int32)), .val (.int (1 : Int32)), .val (.int sa), .val (.int sb), .val (.int (3 : Int32)), .val (.int (2 : Int32)), .val (.int (0 : Int32))] [(.int (0 : Int32))])) _
    refine XS.iload X2.here hx rfl (hb hby at_128) rfl ?_
    show Steps p.tables e below (T2.setTop (mkF m 130 #[.val (.int p1), .val (.int p2), .val (.int p3), .val (.ref co), .val (.int (2 : Int32)), .val (.int (4 : Int32)), .val (.int (1 : Int32)), .val (.int sa), .val (.int sb), .val (.int (3 : Int32)), .val (.int (2 : Int32)), .val (.int (0 : Int32))] [(.int (0 : Int32)), (.int (0 : Int32))])) _
    refine XS.icmpNo X2.here hx rfl (hb hby at_130) rfl (teq (by decide : (0 : Int32) = (0 : Int32))).2 ?_
    show Steps p.tables e below (T2.setTop (mkF m 133 #[.val (.int p1), .val (.int p2), .val (.int p3), .val (.ref co), .val (.int (2 : Int32)), .val (.int (4 : Int32)), .val (.int (1 : Int32)), .val (.int sa), .val (.int sb), .val (.int (3 : Int32)), .val (.int (2 : Int32)), .val (.int (0 : Int32))] [])) _
    refine XS.iconst X2.here hx rfl (hb hby at_133) ?_
    show Steps p.tables e below (T2.setTop (mkF m 134 #[.val (.int p1), .val (.int p2), .val (.int p3), .val (.ref co), .val (.int (2 : Int32)), .val (.int (4 : Int32)), .val (.int (1 : Int32)), .val (.int sa), .val (.int sb), .val (.int (3 : Int32)), .val (.int (2 : Int32)), .val (.int (0 : Int32))] [(.int (1 : Int32))])) _
    refine XS.goto X2.here hx rfl (pc0 := 134) (pc' := 138) rfl (hb hby at_134) (by decide) (by decide) ?_
    show Steps p.tables e below (T2.setTop (mkF m 138 #[.val (.int p1), .val (.int p2), .val (.int p3), .val (.ref co), .val (.int (2 : Int32)), .val (.int (4 : Int32)), .val (.int (1 : Int32)), .val (.int sa), .val (.int sb), .val (.int (3 : Int32)), .val (.int (2 : Int32)), .val (.int (0 : Int32))] [(.int (1 : Int32))])) _
    exact retN X2 hx (t := .boolean) hret (by simp) (hb hby at_138) hr
  · exact ⟨rfl, N2⟩
def Q25_49 (Z : State) (ob0 : Addr) (ob1 : Addr) (ob2 : Addr) (k_ob1 : ClassId) (q0 : Int32) (k_ob2 : ClassId) (q1 : Int32) (h0 : Heap) (n0 : Nat) (v : Option Value) (h : Heap) (L : List Loc) : Prop := v = some (.int (0 : Int32)) ∧ Fr n0 L ∧ h = h0
set_option maxRecDepth 65536 in
set_option maxHeartbeats 40000000 in
theorem rm25_49 (l : Launch) (Z : State) (a0 : Array Value) (hw : ∀ d ∈ tables_1, d.before a0 Z = true) (ws : List Jvm.Cond) (ob0 : Addr) (ob1 : Addr) (ob2 : Addr) (k_ob1 : ClassId) (q0 : Int32) (k_ob2 : ClassId) (q1 : Int32) (h0 : Heap) (n0 : Nat) (Z0 : n0 ≤ h0.size) (O0 : Old Z n0 h0) (PE_ob0 : Exa Z h0 ob0 "com/example/minos/minos/analysis/Circuit") (PF_ob0_first : Fld Z h0 ob0 "com/example/minos/minos/analysis/Circuit" "first" "[I" (.ref ob1)) (PF_ob0_second : Fld Z h0 ob0 "com/example/minos/minos/analysis/Circuit" "second" "[I" (.ref ob2)) (PF_ob0_nodes : Fld Z h0 ob0 "com/example/minos/minos/analysis/Circuit" "nodes" "I" (.int (5 : Int32))) (PV_ob1 : Arv Z h0 ob1 k_ob1 .int (1024 : Int32) [(.int (0 : Int32)), (.int (-1 : Int32)), (.int (-1 : Int32)), (.int (-1 : Int32)), (.int q0), (.int (0 : Int32))] (.int (0 : Int32))) (PV_ob2 : Arv Z h0 ob2 k_ob2 .int (1024 : Int32) [(.int (0 : Int32)), (.int (-1 : Int32)), (.int (-1 : Int32)), (.int (-1 : Int32)), (.int q1), (.int (0 : Int32))] (.int (0 : Int32))) :
    MetFree l (⟨"com/example/minos/minos/analysis/Circuit", "isGate", "(I)Z"⟩ : MethodName) (head1 (Jvm.Cond.code (⟨"com/example/minos/minos/analysis/Circuit", "isGate", "(I)Z"⟩ : MethodName) prog_12_method_11_code 2 (some .boolean) :: ws) ({ frames := 0, cells := 0, slots := 0, locals := 0 } : Room)) (fun a U => a = #[(.ref ob0), (.int (2 : Int32))] ∧ Z.Warmed39 U.vm ∧ U.heap = h0) (fun _ _ _ _ _ => True) (fun _ U o U' => ∃ v L, o = .returned v ∧ Q25_49 Z  ob0 ob1 ob2 k_ob1 q0 k_ob2 q1 h0 n0 v U'.heap L ∧ FrameEnd U o U' L ({ frames := 0, cells := 0, slots := 0, locals := 0 } : Room).cells ({ frames := 0, cells := 0, slots := 0, locals := 0 } : Room).slots) := by
  refine MetFree.of_bodySF (plainFor_of_name pn37) hisR ?_
  intro p e s m args below meth c s₁ Bd hml0 hP hK
  obtain ⟨rfl, hZ, hh⟩ := hP
  have hx := Bd.exec
  have hby := Bd.bytes
  have hml : c.maxLocals = 2 := hml0
  have hown : s.vm.findClass "com/example/minos/minos/analysis/Circuit" = some m.cls := findClass_of_methodNamed Bd.named
  have hnm := (name_of_methodNamed Bd.named Bd.method).1
  have X0 : Stand p l e ({ frames := 0, cells := 0, slots := 0, locals := 0 } : Room) s m #[(.ref ob0), (.int (2 : Int32))] below meth c s₁ [] 0 0 := Stand.of_body Bd
  have e0 : s₁.heap = h0 := by rw [← hh, Bd.state]; rfl
  have N0 := Fr.nil n0
  have pre0 : ∀ t, Steps p.tables e below (s₁.setTop (mkF m 0 #[.val (.ref ob0), .val (.int (2 : Int32))] [])) t → Steps p.tables e below (s₁.setTop (entryFrame m #[(.ref ob0), (.int (2 : Int32))] 2)) t := fun t k => castTop (ef418 m ob0 (2 : Int32)) k
  obtain ⟨T1, X1, e1, st1⟩ := getF X0 hx hZ hown (host := "") (Or.inl (hw _ (List.mem_of_getElem? (i := 10) rfl))) Via.refl e0 PF_ob0_first (g := (mkF m 5 #[.val (.ref ob0), .val (.int (2 : Int32))] [(.ref ob0)])) rfl rfl (hb hby d25_5)
  obtain ⟨ac2, aA2, aq2, aS2, aN2, aH2, aG2⟩ := id PV_ob1
  obtain ⟨fs, hr, hrun, hended, hW, hsame⟩ := X1.leave (v := some (.int (0 : Int32))) (fun h => by rw [Bd.returns] at h; cases h)
  refine ⟨_, _, pre0 _ ?_, hrun, hended, _, _, rfl, ?_, ⟨_, rfl⟩, hW, hsame.mono (by decide) (by decide)⟩
  · show Steps p.tables e below (s₁.setTop (mkF m 0 #[.val (.ref ob0), .val (.int (2 : Int32))] [])) _
    refine XS.iloadN X0.here hx rfl (hb hby d25_0) rfl ?_
    show Steps p.tables e below (s₁.setTop (mkF m 1 #[.val (.ref ob0), .val (.int (2 : Int32))] [(.int (2 : Int32))])) _
    refine XS.ifNo X0.here hx rfl (hb hby d25_1) rfl ((if0 _ _).trans (tlt (by decide : (0 : Int32) < (2 : Int32))).2.2.2) ?_
    show Steps p.tables e below (s₁.setTop (mkF m 4 #[.val (.ref ob0), .val (.int (2 : Int32))] [])) _
    refine XS.aloadN X0.here hx rfl (hb hby d25_4) rfl rfl ?_
    show Steps p.tables e below (s₁.setTop (mkF m 5 #[.val (.ref ob0), .val (.int (2 : Int32))] [(.ref ob0)])) _
    refine st1 _ ?_
    show Steps p.tables e below (T1.setTop (mkF m 8 #[.val (.ref ob0), .val (.int (2 : Int32))] [(.ref ob1)])) _
    refine XS.iloadN X1.here hx rfl (hb hby d25_8) rfl ?_
    show Steps p.tables e below (T1.setTop (mkF m 9 #[.val (.ref ob0), .val (.int (2 : Int32))] [(.int (2 : Int32)), (.ref ob1)])) _
    refine X1.iaload hx (j := (2 : Int32)) (v := (.int (-1 : Int32))) (by rw [e1]; exact aA2.1) (State.isArrayOf_alike hZ.alike aA2.2.1) aA2.2.2 (inb_of aS2 ⟨by decide, by decide⟩) (aH2.at (inb_of aS2 ⟨by decide, by decide⟩) rfl) (g := (mkF m 9 #[.val (.ref ob0), .val (.int (2 : Int32))] [(.int (2 : Int32)), (.ref ob1)])) rfl rfl (hb hby d25_9) _ ?_
    show Steps p.tables e below (T1.setTop (mkF m 10 #[.val (.ref ob0), .val (.int (2 : Int32))] [(.int (-1 : Int32))])) _
    refine XS.iconst X1.here hx rfl (hb hby d25_10) ?_
    show Steps p.tables e below (T1.setTop (mkF m 11 #[.val (.ref ob0), .val (.int (2 : Int32))] [(.int (-1 : Int32)), (.int (-1 : Int32))])) _
    refine XS.icmpYes X1.here hx rfl (pc0 := 11) (pc' := 18) rfl (hb hby d25_11) rfl (teq (by decide : (-1 : Int32) = (-1 : Int32))).1 (by decide) (by decide) ?_
    show Steps p.tables e below (T1.setTop (mkF m 18 #[.val (.ref ob0), .val (.int (2 : Int32))] [])) _
    refine XS.iconst X1.here hx rfl (hb hby d25_18) ?_
    show Steps p.tables e below (T1.setTop (mkF m 19 #[.val (.ref ob0), .val (.int (2 : Int32))] [(.int (0 : Int32))])) _
    exact retN X1 hx (t := .boolean) Bd.returns (by simp) (hb hby d25_19) hr
  · exact ⟨rfl, N0, e1⟩
set_option maxRecDepth 65536 in
set_option maxHeartbeats 40000000 in
theorem lT02 {p : Program} {l : Launch} {e : Env} {s : State} {m : MethodId} {args : Array Value} {below : List Frame} {meth : Method} {c : Code} {T0 : State} {locs : List Loc} {Z : State} {a0 : Array Value} {h0 : Heap} {n0 : Nat} (p1 : Int32) (p2 : Int32) (p3 : Int32) (co : Addr) (sa : Int32) (sb : Int32) (rv : Int32) (F : Addr) (S : Addr) (k_F : ClassId) (va : Int32) (k_S : ClassId) (vb : Int32)
    (X0 : Stand p l e room_1 s m args below meth c T0 locs 8 2084) (hx : p.tables.exec = Jvm.exec) (hZ : Z.Warmed39 s.vm) (hw : ∀ d ∈ tables_1, d.before a0 Z = true) (hby : c.code = code) (hml : c.maxLocals = 12) (hown : s.vm.findClass "com/example/minos/minos/analysis/CircuitIsGatePinLaw" = some m.cls) (e0 : T0.heap = h0) (N0 : Fr n0 locs) (O0 : Old Z n0 h0) (hk : ((p1 &&& (2147483647 : Int32)) % (5 : Int32)) = (2 : Int32)) (PE_co : Exa Z h0 co "com/example/minos/minos/analysis/Circuit") (PF_co_first : Fld Z h0 co "com/example/minos/minos/analysis/Circuit" "first" "[I" (.ref F)) (PF_co_second : Fld Z h0 co "com/example/minos/minos/analysis/Circuit" "second" "[I" (.ref S)) (PF_co_nodes : Fld Z h0 co "com/example/minos/minos/analysis/Circuit" "nodes" "I" (.int (5 : Int32))) (PV_F : Arv Z h0 F k_F .int (1024 : Int32) [(.int (0 : Int32)), (.int (-1 : Int32)), (.int (-1 : Int32)), (.int (-1 : Int32)), (.int va), (.int (0 : Int32))] (.int (0 : Int32))) (PV_S : Arv Z h0 S k_S .int (1024 : Int32) [(.int (0 : Int32)), (.int (-1 : Int32)), (.int (-1 : Int32)), (.int (-1 : Int32)), (.int vb), (.int (0 : Int32))] (.int (0 : Int32))) (hd0 : ¬ (va = (-1 : Int32))) (hret : meth.sig.returnType = some .boolean) (hlk : meth.locks = false) {entry : State} (pre0 : ∀ t, Steps p.tables e below (T0.setTop (mkF m 96 #[.val (.int p1), .val (.int p2), .val (.int p3), .val (.ref co), .val (.int (2 : Int32)), .val (.int (4 : Int32)), .val (.int (0 : Int32)), .val (.int sa), .val (.int sb), .unset, .val (.int (6 : Int32)), .unset] [(.int rv)])) t → Steps p.tables e below entry t) :
    ∃ s₂ o, Steps p.tables e below entry s₂ ∧ s₂.status = .running ∧ Ended s₂ below o ∧ ∃ v L, o = .returned v ∧ Q0 h0 n0 v s₂.heap L ∧ FrameEnd s o s₂ L room_1.cells room_1.slots := by
  obtain ⟨cq1, kq1, q1a, q1b, q1c⟩ := isOf hZ e0 PE_co
  obtain ⟨_, _, ⟨T1, L1, k1, n1⟩, -, X1, ⟨Lc1, hQ1, l1, y1, z1⟩, st1⟩ := X0.virtualBack hx (y := (⟨"com/example/minos/minos/analysis/Circuit", "isGate", "(I)Z"⟩ : MethodName)) (z := (⟨"com/example/minos/minos/analysis/Circuit", "isGate", "(I)Z"⟩ : MethodName)) hown (mvT hZ (hw _ (List.mem_of_getElem? (i := 167) rfl))) (mvT hZ (hw _ (List.mem_of_getElem? (i := 168) rfl))) (notFace_of_selects (args := #[]) (mvT hZ (hw _ (List.mem_of_getElem? (i := 170) rfl)))) (mvT hZ (hw _ (List.mem_of_getElem? (i := 170) rfl))) (mvT hZ (hw _ (List.mem_of_getElem? (i := 169) rfl))) (by decide) (backOf (W := 0) (rm25_49 l Z a0 hw []  co F S k_F va k_S vb h0 n0 (own_n0 O0) O0 PE_co PF_co_first PF_co_second PF_co_nodes PV_F PV_S) hZ (hw _ (List.mem_of_getElem? (i := 171) rfl)) (hw _ (List.mem_of_getElem? (i := 2) rfl)) (by decide) (by decide)) q1a q1c (g := (mkF m 125 #[.val (.int p1), .val (.int p2), .val (.int p3), .val (.ref co), .val (.int (2 : Int32)), .val (.int (4 : Int32)), .val (.int (0 : Int32)), .val (.int sa), .val (.int sb), .val (.int (4 : Int32)), .val (.int (2 : Int32)), .val (.int (0 : Int32))] [(.int (2 : Int32)), (.ref co)])) rfl (by rw [hml]; rfl) (Steps.refl _) (argsL := [(.int (2 : Int32))]) (rest := []) (lenOf pd419 rfl) rfl (by show 2 * 0 + _ ≤ _; exact Nat.le_of_eq rfl) (hb hby at_125) (fun _ _ => ⟨rfl, e0, (by decide : 8 + 0 ≤ _), (by decide : 2084 + 0 ≤ _)⟩)
  dsimp only [Pt.U, Pt.locs, Pt.cells, Pt.slots] at X1 l1 y1 z1 st1 hQ1
  subst l1 y1 z1
  obtain ⟨rfl, N1q, e1⟩ := hQ1
  have N1 := Fr.app N0 N1q
  obtain ⟨fs, hr, hrun, hended, hW, hsame⟩ := X1.leave (v := some (.int (1 : Int32))) (fun h => by rw [hret] at h; cases h) hlk
  refine ⟨_, _, pre0 _ ?_, hrun, hended, _, _, rfl, ?_, ⟨_, rfl⟩, hW, hsame.mono (by decide) (by decide)⟩
  · show Steps p.tables e below (T0.setTop (mkF m 96 #[.val (.int p1), .val (.int p2), .val (.int p3), .val (.ref co), .val (.int (2 : Int32)), .val (.int (4 : Int32)), .val (.int (0 : Int32)), .val (.int sa), .val (.int sb), .unset, .val (.int (6 : Int32)), .unset] [(.int rv)])) _
    refine XS.pop X0.here hx rfl (hb hby at_96) rfl rfl ?_
    show Steps p.tables e below (T0.setTop (mkF m 97 #[.val (.int p1), .val (.int p2), .val (.int p3), .val (.ref co), .val (.int (2 : Int32)), .val (.int (4 : Int32)), .val (.int (0 : Int32)), .val (.int sa), .val (.int sb), .unset, .val (.int (6 : Int32)), .unset] [])) _
    refine XS.iconst X0.here hx rfl (hb hby at_97) ?_
    show Steps p.tables e below (T0.setTop (mkF m 98 #[.val (.int p1), .val (.int p2), .val (.int p3), .val (.ref co), .val (.int (2 : Int32)), .val (.int (4 : Int32)), .val (.int (0 : Int32)), .val (.int sa), .val (.int sb), .unset, .val (.int (6 : Int32)), .unset] [(.int (4 : Int32))])) _
    refine XS.istore X0.here hx rfl (hb hby at_98) rfl (l' := #[.val (.int p1), .val (.int p2), .val (.int p3), .val (.ref co), .val (.int (2 : Int32)), .val (.int (4 : Int32)), .val (.int (0 : Int32)), .val (.int sa), .val (.int sb), .val (.int (4 : Int32)), .val (.int (6 : Int32)), .unset]) rfl ?_
    show Steps p.tables e below (T0.setTop (mkF m 100 #[.val (.int p1), .val (.int p2), .val (.int p3), .val (.ref co), .val (.int (2 : Int32)), .val (.int (4 : Int32)), .val (.int (0 : Int32)), .val (.int sa), .val (.int sb), .val (.int (4 : Int32)), .val (.int (6 : Int32)), .unset] [])) _
    refine XS.iloadN X0.here hx rfl (hb hby at_100) rfl ?_
    show Steps p.tables e below (T0.setTop (mkF m 101 #[.val (.int p1), .val (.int p2), .val (.int p3), .val (.ref co), .val (.int (2 : Int32)), .val (.int (4 : Int32)), .val (.int (0 : Int32)), .val (.int sa), .val (.int sb), .val (.int (4 : Int32)), .val (.int (6 : Int32)), .unset] [(.int p1)])) _
    refine X0.ldcInt hx hown (mvT hZ (hw _ (List.mem_of_getElem? (i := 166) rfl))) (g := (mkF m 101 #[.val (.int p1), .val (.int p2), .val (.int p3), .val (.ref co), .val (.int (2 : Int32)), .val (.int (4 : Int32)), .val (.int (0 : Int32)), .val (.int sa), .val (.int sb), .val (.int (4 : Int32)), .val (.int (6 : Int32)), .unset] [(.int p1)])) rfl (hb hby at_101) _ ?_
    show Steps p.tables e below (T0.setTop (mkF m 103 #[.val (.int p1), .val (.int p2), .val (.int p3), .val (.ref co), .val (.int (2 : Int32)), .val (.int (4 : Int32)), .val (.int (0 : Int32)), .val (.int sa), .val (.int sb), .val (.int (4 : Int32)), .val (.int (6 : Int32)), .unset] [(.int (2147483647 : Int32)), (.int p1)])) _
    refine XS.iand X0.here hx rfl (hb hby at_103) rfl ?_
    show Steps p.tables e below (T0.setTop (mkF m 104 #[.val (.int p1), .val (.int p2), .val (.int p3), .val (.ref co), .val (.int (2 : Int32)), .val (.int (4 : Int32)), .val (.int (0 : Int32)), .val (.int sa), .val (.int sb), .val (.int (4 : Int32)), .val (.int (6 : Int32)), .unset] [(.int (p1 &&& (2147483647 : Int32)))])) _
    refine XS.iconst X0.here hx rfl (hb hby at_104) ?_
    show Steps p.tables e below (T0.setTop (mkF m 105 #[.val (.int p1), .val (.int p2), .val (.int p3), .val (.ref co), .val (.int (2 : Int32)), .val (.int (4 : Int32)), .val (.int (0 : Int32)), .val (.int sa), .val (.int sb), .val (.int (4 : Int32)), .val (.int (6 : Int32)), .unset] [(.int (5 : Int32)), (.int (p1 &&& (2147483647 : Int32)))])) _
    refine iremM X0 hx rfl (hb hby at_105) rfl (by decide) ?_
    rw [hk]
    show Steps p.tables e below (T0.setTop (mkF m 106 #[.val (.int p1), .val (.int p2), .val (.int p3), .val (.ref co), .val (.int (2 : Int32)), .val (.int (4 : Int32)), .val (.int (0 : Int32)), .val (.int sa), .val (.int sb), .val (.int (4 : Int32)), .val (.int (6 : Int32)), .unset] [(.int (2 : Int32))])) _
    refine XS.istore X0.here hx rfl (hb hby at_106) rfl (l' := #[.val (.int p1), .val (.int p2), .val (.int p3), .val (.ref co), .val (.int (2 : Int32)), .val (.int (4 : Int32)), .val (.int (0 : Int32)), .val (.int sa), .val (.int sb), .val (.int (4 : Int32)), .val (.int (2 : Int32)), .unset]) rfl ?_
    show Steps p.tables e below (T0.setTop (mkF m 108 #[.val (.int p1), .val (.int p2), .val (.int p3), .val (.ref co), .val (.int (2 : Int32)), .val (.int (4 : Int32)), .val (.int (0 : Int32)), .val (.int sa), .val (.int sb), .val (.int (4 : Int32)), .val (.int (2 : Int32)), .unset] [])) _
    refine XS.iload X0.here hx rfl (hb hby at_108) rfl ?_
    show Steps p.tables e below (T0.setTop (mkF m 110 #[.val (.int p1), .val (.int p2), .val (.int p3), .val (.ref co), .val (.int (2 : Int32)), .val (.int (4 : Int32)), .val (.int (0 : Int32)), .val (.int sa), .val (.int sb), .val (.int (4 : Int32)), .val (.int (2 : Int32)), .unset] [(.int (2 : Int32))])) _
    refine XS.iload X0.here hx rfl (hb hby at_110) rfl ?_
    show Steps p.tables e below (T0.setTop (mkF m 112 #[.val (.int p1), .val (.int p2), .val (.int p3), .val (.ref co), .val (.int (2 : Int32)), .val (.int (4 : Int32)), .val (.int (0 : Int32)), .val (.int sa), .val (.int sb), .val (.int (4 : Int32)), .val (.int (2 : Int32)), .unset] [(.int (4 : Int32)), (.int (2 : Int32))])) _
    refine XS.icmpYes X0.here hx rfl (pc0 := 112) (pc' := 119) rfl (hb hby at_112) rfl (feq (by decide : ¬ ((2 : Int32) = (4 : Int32)))).2 (by decide) (by decide) ?_
    show Steps p.tables e below (T0.setTop (mkF m 119 #[.val (.int p1), .val (.int p2), .val (.int p3), .val (.ref co), .val (.int (2 : Int32)), .val (.int (4 : Int32)), .val (.int (0 : Int32)), .val (.int sa), .val (.int sb), .val (.int (4 : Int32)), .val (.int (2 : Int32)), .unset] [])) _
    refine XS.iconst X0.here hx rfl (hb hby at_119) ?_
    show Steps p.tables e below (T0.setTop (mkF m 120 #[.val (.int p1), .val (.int p2), .val (.int p3), .val (.ref co), .val (.int (2 : Int32)), .val (.int (4 : Int32)), .val (.int (0 : Int32)), .val (.int sa), .val (.int sb), .val (.int (4 : Int32)), .val (.int (2 : Int32)), .unset] [(.int (0 : Int32))])) _
    refine XS.istore X0.here hx rfl (hb hby at_120) rfl (l' := #[.val (.int p1), .val (.int p2), .val (.int p3), .val (.ref co), .val (.int (2 : Int32)), .val (.int (4 : Int32)), .val (.int (0 : Int32)), .val (.int sa), .val (.int sb), .val (.int (4 : Int32)), .val (.int (2 : Int32)), .val (.int (0 : Int32))]) rfl ?_
    show Steps p.tables e below (T0.setTop (mkF m 122 #[.val (.int p1), .val (.int p2), .val (.int p3), .val (.ref co), .val (.int (2 : Int32)), .val (.int (4 : Int32)), .val (.int (0 : Int32)), .val (.int sa), .val (.int sb), .val (.int (4 : Int32)), .val (.int (2 : Int32)), .val (.int (0 : Int32))] [])) _
    refine XS.aloadN X0.here hx rfl (hb hby at_122) rfl rfl ?_
    show Steps p.tables e below (T0.setTop (mkF m 123 #[.val (.int p1), .val (.int p2), .val (.int p3), .val (.ref co), .val (.int (2 : Int32)), .val (.int (4 : Int32)), .val (.int (0 : Int32)), .val (.int sa), .val (.int sb), .val (.int (4 : Int32)), .val (.int (2 : Int32)), .val (.int (0 : Int32))] [(.ref co)])) _
    refine XS.iload X0.here hx rfl (hb hby at_123) rfl ?_
    show Steps p.tables e below (T0.setTop (mkF m 125 #[.val (.int p1), .val (.int p2), .val (.int p3), .val (.ref co), .val (.int (2 : Int32)), .val (.int (4 : Int32)), .val (.int (0 : Int32)), .val (.int sa), .val (.int sb), .val (.int (4 : Int32)), .val (.int (2 : Int32)), .val (.int (0 : Int32))] [(.int (2 : Int32)), (.ref co)])) _
    refine st1.trans ?_
    show Steps p.tables e below (T1.setTop (mkF m 128 #[.val (.int p1), .val (.int p2), .val (.int p3), .val (.ref co), .val (.int (2 : Int32)), .val (.int (4 : Int32)), .val (.int (0 : Int32)), .val (.int sa), .val (.int sb), .val (.int (4 : Int32)), .val (.int (2 : Int32)), .val (.int (0 : Int32))] [(.int (0 : Int32))])) _
    refine XS.iload X1.here hx rfl (hb hby at_128) rfl ?_
    show Steps p.tables e below (T1.setTop (mkF m 130 #[.val (.int p1), .val (.int p2), .val (.int p3), .val (.ref co), .val (.int (2 : Int32)), .val (.int (4 : Int32)), .val (.int (0 : Int32)), .val (.int sa), .val (.int sb), .val (.int (4 : Int32)), .val (.int (2 : Int32)), .val (.int (0 : Int32))] [(.int (0 : Int32)), (.int (0 : Int32))])) _
    refine XS.icmpNo X1.here hx rfl (hb hby at_130) rfl (teq (by decide : (0 : Int32) = (0 : Int32))).2 ?_
    show Steps p.tables e below (T1.setTop (mkF m 133 #[.val (.int p1), .val (.int p2), .val (.int p3), .val (.ref co), .val (.int (2 : Int32)), .val (.int (4 : Int32)), .val (.int (0 : Int32)), .val (.int sa), .val (.int sb), .val (.int (4 : Int32)), .val (.int (2 : Int32)), .val (.int (0 : Int32))] [])) _
    refine XS.iconst X1.here hx rfl (hb hby at_133) ?_
    show Steps p.tables e below (T1.setTop (mkF m 134 #[.val (.int p1), .val (.int p2), .val (.int p3), .val (.ref co), .val (.int (2 : Int32)), .val (.int (4 : Int32)), .val (.int (0 : Int32)), .val (.int sa), .val (.int sb), .val (.int (4 : Int32)), .val (.int (2 : Int32)), .val (.int (0 : Int32))] [(.int (1 : Int32))])) _
    refine XS.goto X1.here hx rfl (pc0 := 134) (pc' := 138) rfl (hb hby at_134) (by decide) (by decide) ?_
    show Steps p.tables e below (T1.setTop (mkF m 138 #[.val (.int p1), .val (.int p2), .val (.int p3), .val (.ref co), .val (.int (2 : Int32)), .val (.int (4 : Int32)), .val (.int (0 : Int32)), .val (.int sa), .val (.int sb), .val (.int (4 : Int32)), .val (.int (2 : Int32)), .val (.int (0 : Int32))] [(.int (1 : Int32))])) _
    exact retN X1 hx (t := .boolean) hret (by simp) (hb hby at_138) hr
  · exact ⟨rfl, N1⟩
theorem d25_14 : decode prog_12_method_11_code 14 = .ok (.iconst 1, 1) := by decide +kernel
theorem d25_15 : decode prog_12_method_11_code 15 = .ok (.goto 4, 3) := by decide +kernel
def Q25_51 (Z : State) (ob0 : Addr) (ob1 : Addr) (ob2 : Addr) (k_ob1 : ClassId) (q0 : Int32) (k_ob2 : ClassId) (q1 : Int32) (h0 : Heap) (n0 : Nat) (v : Option Value) (h : Heap) (L : List Loc) : Prop := v = some (.int (1 : Int32)) ∧ Fr n0 L ∧ h = h0
set_option maxRecDepth 65536 in
set_option maxHeartbeats 40000000 in
theorem rm25_51 (l : Launch) (Z : State) (a0 : Array Value) (hw : ∀ d ∈ tables_1, d.before a0 Z = true) (ws : List Jvm.Cond) (ob0 : Addr) (ob1 : Addr) (ob2 : Addr) (k_ob1 : ClassId) (q0 : Int32) (k_ob2 : ClassId) (q1 : Int32) (h0 : Heap) (n0 : Nat) (Z0 : n0 ≤ h0.size) (O0 : Old Z n0 h0) (PE_ob0 : Exa Z h0 ob0 "com/example/minos/minos/analysis/Circuit") (PF_ob0_first : Fld Z h0 ob0 "com/example/minos/minos/analysis/Circuit" "first" "[I" (.ref ob1)) (PF_ob0_second : Fld Z h0 ob0 "com/example/minos/minos/analysis/Circuit" "second" "[I" (.ref ob2)) (PF_ob0_nodes : Fld Z h0 ob0 "com/example/minos/minos/analysis/Circuit" "nodes" "I" (.int (5 : Int32))) (PV_ob1 : Arv Z h0 ob1 k_ob1 .int (1024 : Int32) [(.int (0 : Int32)), (.int (-1 : Int32)), (.int (-1 : Int32)), (.int q0), (.int (-1 : Int32)), (.int (0 : Int32))] (.int (0 : Int32))) (PV_ob2 : Arv Z h0 ob2 k_ob2 .int (1024 : Int32) [(.int (0 : Int32)), (.int (-1 : Int32)), (.int (-1 : Int32)), (.int q1), (.int (-1 : Int32)), (.int (0 : Int32))] (.int (0 : Int32))) (hd0 : ¬ (q0 = (-1 : Int32))) :
    MetFree l (⟨"com/example/minos/minos/analysis/Circuit", "isGate", "(I)Z"⟩ : MethodName) (head1 (Jvm.Cond.code (⟨"com/example/minos/minos/analysis/Circuit", "isGate", "(I)Z"⟩ : MethodName) prog_12_method_11_code 2 (some .boolean) :: ws) ({ frames := 0, cells := 0, slots := 0, locals := 0 } : Room)) (fun a U => a = #[(.ref ob0), (.int (3 : Int32))] ∧ Z.Warmed39 U.vm ∧ U.heap = h0) (fun _ _ _ _ _ => True) (fun _ U o U' => ∃ v L, o = .returned v ∧ Q25_51 Z  ob0 ob1 ob2 k_ob1 q0 k_ob2 q1 h0 n0 v U'.heap L ∧ FrameEnd U o U' L ({ frames := 0, cells := 0, slots := 0, locals := 0 } : Room).cells ({ frames := 0, cells := 0, slots := 0, locals := 0 } : Room).slots) := by
  refine MetFree.of_bodySF (plainFor_of_name pn37) hisR ?_
  intro p e s m args below meth c s₁ Bd hml0 hP hK
  obtain ⟨rfl, hZ, hh⟩ := hP
  have hx := Bd.exec
  have hby := Bd.bytes
  have hml : c.maxLocals = 2 := hml0
  have hown : s.vm.findClass "com/example/minos/minos/analysis/Circuit" = some m.cls := findClass_of_methodNamed Bd.named
  have hnm := (name_of_methodNamed Bd.named Bd.method).1
  have X0 : Stand p l e ({ frames := 0, cells := 0, slots := 0, locals := 0 } : Room) s m #[(.ref ob0), (.int (3 : Int32))] below meth c s₁ [] 0 0 := Stand.of_body Bd
  have e0 : s₁.heap = h0 := by rw [← hh, Bd.state]; rfl
  have N0 := Fr.nil n0
  have pre0 : ∀ t, Steps p.tables e below (s₁.setTop (mkF m 0 #[.val (.ref ob0), .val (.int (3 : Int32))] [])) t → Steps p.tables e below (s₁.setTop (entryFrame m #[(.ref ob0), (.int (3 : Int32))] 2)) t := fun t k => castTop (ef418 m ob0 (3 : Int32)) k
  obtain ⟨T1, X1, e1, st1⟩ := getF X0 hx hZ hown (host := "") (Or.inl (hw _ (List.mem_of_getElem? (i := 10) rfl))) Via.refl e0 PF_ob0_first (g := (mkF m 5 #[.val (.ref ob0), .val (.int (3 : Int32))] [(.ref ob0)])) rfl rfl (hb hby d25_5)
  obtain ⟨ac2, aA2, aq2, aS2, aN2, aH2, aG2⟩ := id PV_ob1
  obtain ⟨fs, hr, hrun, hended, hW, hsame⟩ := X1.leave (v := some (.int (1 : Int32))) (fun h => by rw [Bd.returns] at h; cases h)
  refine ⟨_, _, pre0 _ ?_, hrun, hended, _, _, rfl, ?_, ⟨_, rfl⟩, hW, hsame.mono (by decide) (by decide)⟩
  · show Steps p.tables e below (s₁.setTop (mkF m 0 #[.val (.ref ob0), .val (.int (3 : Int32))] [])) _
    refine XS.iloadN X0.here hx rfl (hb hby d25_0) rfl ?_
    show Steps p.tables e below (s₁.setTop (mkF m 1 #[.val (.ref ob0), .val (.int (3 : Int32))] [(.int (3 : Int32))])) _
    refine XS.ifNo X0.here hx rfl (hb hby d25_1) rfl ((if0 _ _).trans (tlt (by decide : (0 : Int32) < (3 : Int32))).2.2.2) ?_
    show Steps p.tables e below (s₁.setTop (mkF m 4 #[.val (.ref ob0), .val (.int (3 : Int32))] [])) _
    refine XS.aloadN X0.here hx rfl (hb hby d25_4) rfl rfl ?_
    show Steps p.tables e below (s₁.setTop (mkF m 5 #[.val (.ref ob0), .val (.int (3 : Int32))] [(.ref ob0)])) _
    refine st1 _ ?_
    show Steps p.tables e below (T1.setTop (mkF m 8 #[.val (.ref ob0), .val (.int (3 : Int32))] [(.ref ob1)])) _
    refine XS.iloadN X1.here hx rfl (hb hby d25_8) rfl ?_
    show Steps p.tables e below (T1.setTop (mkF m 9 #[.val (.ref ob0), .val (.int (3 : Int32))] [(.int (3 : Int32)), (.ref ob1)])) _
    refine X1.iaload hx (j := (3 : Int32)) (v := (.int q0)) (by rw [e1]; exact aA2.1) (State.isArrayOf_alike hZ.alike aA2.2.1) aA2.2.2 (inb_of aS2 ⟨by decide, by decide⟩) (aH2.at (inb_of aS2 ⟨by decide, by decide⟩) rfl) (g := (mkF m 9 #[.val (.ref ob0), .val (.int (3 : Int32))] [(.int (3 : Int32)), (.ref ob1)])) rfl rfl (hb hby d25_9) _ ?_
    show Steps p.tables e below (T1.setTop (mkF m 10 #[.val (.ref ob0), .val (.int (3 : Int32))] [(.int q0)])) _
    refine XS.iconst X1.here hx rfl (hb hby d25_10) ?_
    show Steps p.tables e below (T1.setTop (mkF m 11 #[.val (.ref ob0), .val (.int (3 : Int32))] [(.int (-1 : Int32)), (.int q0)])) _
    refine XS.icmpNo X1.here hx rfl (hb hby d25_11) rfl (feq hd0).1 ?_
    show Steps p.tables e below (T1.setTop (mkF m 14 #[.val (.ref ob0), .val (.int (3 : Int32))] [])) _
    refine XS.iconst X1.here hx rfl (hb hby d25_14) ?_
    show Steps p.tables e below (T1.setTop (mkF m 15 #[.val (.ref ob0), .val (.int (3 : Int32))] [(.int (1 : Int32))])) _
    refine XS.goto X1.here hx rfl (pc0 := 15) (pc' := 19) rfl (hb hby d25_15) (by decide) (by decide) ?_
    show Steps p.tables e below (T1.setTop (mkF m 19 #[.val (.ref ob0), .val (.int (3 : Int32))] [(.int (1 : Int32))])) _
    exact retN X1 hx (t := .boolean) Bd.returns (by simp) (hb hby d25_19) hr
  · exact ⟨rfl, N0, e1⟩
set_option maxRecDepth 65536 in
set_option maxHeartbeats 40000000 in
theorem lT13 {p : Program} {l : Launch} {e : Env} {s : State} {m : MethodId} {args : Array Value} {below : List Frame} {meth : Method} {c : Code} {T0 : State} {locs : List Loc} {Z : State} {a0 : Array Value} {h0 : Heap} {n0 : Nat} (p1 : Int32) (p2 : Int32) (p3 : Int32) (co : Addr) (sa : Int32) (sb : Int32) (rv : Int32) (F : Addr) (S : Addr) (k_F : ClassId) (va : Int32) (k_S : ClassId) (vb : Int32)
    (X0 : Stand p l e room_1 s m args below meth c T0 locs 8 2084) (hx : p.tables.exec = Jvm.exec) (hZ : Z.Warmed39 s.vm) (hw : ∀ d ∈ tables_1, d.before a0 Z = true) (hby : c.code = code) (hml : c.maxLocals = 12) (hown : s.vm.findClass "com/example/minos/minos/analysis/CircuitIsGatePinLaw" = some m.cls) (e0 : T0.heap = h0) (N0 : Fr n0 locs) (O0 : Old Z n0 h0) (hk : ((p1 &&& (2147483647 : Int32)) % (5 : Int32)) = (3 : Int32)) (PE_co : Exa Z h0 co "com/example/minos/minos/analysis/Circuit") (PF_co_first : Fld Z h0 co "com/example/minos/minos/analysis/Circuit" "first" "[I" (.ref F)) (PF_co_second : Fld Z h0 co "com/example/minos/minos/analysis/Circuit" "second" "[I" (.ref S)) (PF_co_nodes : Fld Z h0 co "com/example/minos/minos/analysis/Circuit" "nodes" "I" (.int (4 : Int32))) (PV_F : Arv Z h0 F k_F .int (1024 : Int32) [(.int (0 : Int32)), (.int (-1 : Int32)), (.int (-1 : Int32)), (.int va), (.int (0 : Int32)), (.int (0 : Int32))] (.int (0 : Int32))) (PV_S : Arv Z h0 S k_S .int (1024 : Int32) [(.int (0 : Int32)), (.int (-1 : Int32)), (.int (-1 : Int32)), (.int vb), (.int (0 : Int32)), (.int (0 : Int32))] (.int (0 : Int32))) (ne_F_co : F ≠ co) (ne_F_S : F ≠ S) (ne_S_co : S ≠ co) (g_F : n0 ≤ F) (g_S : n0 ≤ S) (g_co : n0 ≤ co) (hd0 : ¬ (va = (-1 : Int32))) (hret : meth.sig.returnType = some .boolean) (hlk : meth.locks = false) {entry : State} (pre0 : ∀ t, Steps p.tables e below (T0.setTop (mkF m 64 #[.val (.int p1), .val (.int p2), .val (.int p3), .val (.ref co), .val (.int (2 : Int32)), .val (.int (4 : Int32)), .val (.int (1 : Int32)), .val (.int sa), .val (.int sb), .unset, .unset, .unset] [(.int rv)])) t → Steps p.tables e below entry t) :
    ∃ s₂ o, Steps p.tables e below entry s₂ ∧ s₂.status = .running ∧ Ended s₂ below o ∧ ∃ v L, o = .returned v ∧ Q0 h0 n0 v s₂.heap L ∧ FrameEnd s o s₂ L room_1.cells room_1.slots := by
  obtain ⟨cq1, kq1, q1a, q1b, q1c⟩ := isOf hZ e0 PE_co
  obtain ⟨_, _, ⟨T1, L1, k1, n1⟩, -, X1, ⟨Lc1, hQ1, l1, y1, z1⟩, st1⟩ := X0.virtualBack hx (y := (⟨"com/example/minos/minos/analysis/Circuit", "input", "()I"⟩ : MethodName)) (z := (⟨"com/example/minos/minos/analysis/Circuit", "input", "()I"⟩ : MethodName)) hown (mvT hZ (hw _ (List.mem_of_getElem? (i := 34) rfl))) (mvT hZ (hw _ (List.mem_of_getElem? (i := 35) rfl))) (notFace_of_selects (args := #[]) (mvT hZ (hw _ (List.mem_of_getElem? (i := 37) rfl)))) (mvT hZ (hw _ (List.mem_of_getElem? (i := 37) rfl))) (mvT hZ (hw _ (List.mem_of_getElem? (i := 36) rfl))) (by decide) (backOf (W := 0) (rm5_38 l Z a0 hw []  co F S k_F va k_S vb h0 n0 (own_n0 O0) O0 PE_co PF_co_first PF_co_second PF_co_nodes PV_F PV_S (Ne.symm ne_F_co) ne_F_S (Ne.symm ne_S_co) g_F g_S g_co) hZ (hw _ (List.mem_of_getElem? (i := 38) rfl)) (hw _ (List.mem_of_getElem? (i := 2) rfl)) (by decide) (by decide)) q1a q1c (g := (mkF m 66 #[.val (.int p1), .val (.int p2), .val (.int p3), .val (.ref co), .val (.int (2 : Int32)), .val (.int (4 : Int32)), .val (.int (1 : Int32)), .val (.int sa), .val (.int sb), .unset, .unset, .unset] [(.ref co)])) rfl (by rw [hml]; rfl) (Steps.refl _) (argsL := []) (rest := []) (lenOf pd120 rfl) rfl (by show 2 * 0 + _ ≤ _; exact Nat.le_of_eq rfl) (hb hby at_66) (fun _ _ => ⟨rfl, e0, (by decide : 8 + 0 ≤ _), (by decide : 2084 + 0 ≤ _)⟩)
  dsimp only [Pt.U, Pt.locs, Pt.cells, Pt.slots] at X1 l1 y1 z1 st1 hQ1
  subst l1 y1 z1
  obtain ⟨rfl, N1q, K1, O1, pf1_0, pf1_1, pf1_2, pf1_3, pf1_4, pf1_5, -⟩ := hQ1
  have KK1 : Keep h0 T1.heap [F, S, co] := (Keep.refl h0 [F, S, co]).trans K1 (allS (Or.inl (List.mem_of_getElem? (i := 0) rfl)) (allS (Or.inl (List.mem_of_getElem? (i := 1) rfl)) (allS (Or.inl (List.mem_of_getElem? (i := 2) rfl)) all0)))
  have N1 := Fr.app N0 N1q
  obtain ⟨cq2, kq2, q2a, q2b, q2c⟩ := isOf hZ rfl pf1_2
  obtain ⟨_, _, ⟨T2, L2, k2, n2⟩, -, X2, ⟨Lc2, hQ2, l2, y2, z2⟩, st2⟩ := X1.virtualBack hx (y := (⟨"com/example/minos/minos/analysis/Circuit", "isGate", "(I)Z"⟩ : MethodName)) (z := (⟨"com/example/minos/minos/analysis/Circuit", "isGate", "(I)Z"⟩ : MethodName)) hown (mvT hZ (hw _ (List.mem_of_getElem? (i := 167) rfl))) (mvT hZ (hw _ (List.mem_of_getElem? (i := 168) rfl))) (notFace_of_selects (args := #[]) (mvT hZ (hw _ (List.mem_of_getElem? (i := 170) rfl)))) (mvT hZ (hw _ (List.mem_of_getElem? (i := 170) rfl))) (mvT hZ (hw _ (List.mem_of_getElem? (i := 169) rfl))) (by decide) (backOf (W := 0) (rm25_51 l Z a0 hw []  co F S k_F va k_S vb T1.heap n0 (own_n0 O1) O1 pf1_2 pf1_3 pf1_4 pf1_5 pf1_0 pf1_1 hd0) hZ (hw _ (List.mem_of_getElem? (i := 171) rfl)) (hw _ (List.mem_of_getElem? (i := 2) rfl)) (by decide) (by decide)) q2a q2c (g := (mkF m 125 #[.val (.int p1), .val (.int p2), .val (.int p3), .val (.ref co), .val (.int (2 : Int32)), .val (.int (4 : Int32)), .val (.int (1 : Int32)), .val (.int sa), .val (.int sb), .val (.int (3 : Int32)), .val (.int (3 : Int32)), .val (.int (1 : Int32))] [(.int (3 : Int32)), (.ref co)])) rfl (by rw [hml]; rfl) (Steps.refl _) (argsL := [(.int (3 : Int32))]) (rest := []) (lenOf pd419 rfl) rfl (by show 2 * 0 + _ ≤ _; exact Nat.le_of_eq rfl) (hb hby at_125) (fun _ _ => ⟨rfl, rfl, (by decide : 8 + 0 ≤ _), (by decide : 2084 + 0 ≤ _)⟩)
  dsimp only [Pt.U, Pt.locs, Pt.cells, Pt.slots] at X2 l2 y2 z2 st2 hQ2
  subst l2 y2 z2
  obtain ⟨rfl, N2q, e2⟩ := hQ2
  have N2 := Fr.app N1 N2q
  obtain ⟨fs, hr, hrun, hended, hW, hsame⟩ := X2.leave (v := some (.int (1 : Int32))) (fun h => by rw [hret] at h; cases h) hlk
  refine ⟨_, _, pre0 _ ?_, hrun, hended, _, _, rfl, ?_, ⟨_, rfl⟩, hW, hsame.mono (by decide) (by decide)⟩
  · show Steps p.tables e below (T0.setTop (mkF m 64 #[.val (.int p1), .val (.int p2), .val (.int p3), .val (.ref co), .val (.int (2 : Int32)), .val (.int (4 : Int32)), .val (.int (1 : Int32)), .val (.int sa), .val (.int sb), .unset, .unset, .unset] [(.int rv)])) _
    refine XS.pop X0.here hx rfl (hb hby at_64) rfl rfl ?_
    show Steps p.tables e below (T0.setTop (mkF m 65 #[.val (.int p1), .val (.int p2), .val (.int p3), .val (.ref co), .val (.int (2 : Int32)), .val (.int (4 : Int32)), .val (.int (1 : Int32)), .val (.int sa), .val (.int sb), .unset, .unset, .unset] [])) _
    refine XS.aloadN X0.here hx rfl (hb hby at_65) rfl rfl ?_
    show Steps p.tables e below (T0.setTop (mkF m 66 #[.val (.int p1), .val (.int p2), .val (.int p3), .val (.ref co), .val (.int (2 : Int32)), .val (.int (4 : Int32)), .val (.int (1 : Int32)), .val (.int sa), .val (.int sb), .unset, .unset, .unset] [(.ref co)])) _
    refine st1.trans ?_
    show Steps p.tables e below (T1.setTop (mkF m 69 #[.val (.int p1), .val (.int p2), .val (.int p3), .val (.ref co), .val (.int (2 : Int32)), .val (.int (4 : Int32)), .val (.int (1 : Int32)), .val (.int sa), .val (.int sb), .unset, .unset, .unset] [(.int (8 : Int32))])) _
    refine XS.pop X1.here hx rfl (hb hby at_69) rfl rfl ?_
    show Steps p.tables e below (T1.setTop (mkF m 70 #[.val (.int p1), .val (.int p2), .val (.int p3), .val (.ref co), .val (.int (2 : Int32)), .val (.int (4 : Int32)), .val (.int (1 : Int32)), .val (.int sa), .val (.int sb), .unset, .unset, .unset] [])) _
    refine XS.iconst X1.here hx rfl (hb hby at_70) ?_
    show Steps p.tables e below (T1.setTop (mkF m 71 #[.val (.int p1), .val (.int p2), .val (.int p3), .val (.ref co), .val (.int (2 : Int32)), .val (.int (4 : Int32)), .val (.int (1 : Int32)), .val (.int sa), .val (.int sb), .unset, .unset, .unset] [(.int (3 : Int32))])) _
    refine XS.istore X1.here hx rfl (hb hby at_71) rfl (l' := #[.val (.int p1), .val (.int p2), .val (.int p3), .val (.ref co), .val (.int (2 : Int32)), .val (.int (4 : Int32)), .val (.int (1 : Int32)), .val (.int sa), .val (.int sb), .val (.int (3 : Int32)), .unset, .unset]) rfl ?_
    show Steps p.tables e below (T1.setTop (mkF m 73 #[.val (.int p1), .val (.int p2), .val (.int p3), .val (.ref co), .val (.int (2 : Int32)), .val (.int (4 : Int32)), .val (.int (1 : Int32)), .val (.int sa), .val (.int sb), .val (.int (3 : Int32)), .unset, .unset] [])) _
    refine XS.goto X1.here hx rfl (pc0 := 73) (pc' := 100) rfl (hb hby at_73) (by decide) (by decide) ?_
    show Steps p.tables e below (T1.setTop (mkF m 100 #[.val (.int p1), .val (.int p2), .val (.int p3), .val (.ref co), .val (.int (2 : Int32)), .val (.int (4 : Int32)), .val (.int (1 : Int32)), .val (.int sa), .val (.int sb), .val (.int (3 : Int32)), .unset, .unset] [])) _
    refine XS.iloadN X1.here hx rfl (hb hby at_100) rfl ?_
    show Steps p.tables e below (T1.setTop (mkF m 101 #[.val (.int p1), .val (.int p2), .val (.int p3), .val (.ref co), .val (.int (2 : Int32)), .val (.int (4 : Int32)), .val (.int (1 : Int32)), .val (.int sa), .val (.int sb), .val (.int (3 : Int32)), .unset, .unset] [(.int p1)])) _
    refine X1.ldcInt hx hown (mvT hZ (hw _ (List.mem_of_getElem? (i := 166) rfl))) (g := (mkF m 101 #[.val (.int p1), .val (.int p2), .val (.int p3), .val (.ref co), .val (.int (2 : Int32)), .val (.int (4 : Int32)), .val (.int (1 : Int32)), .val (.int sa), .val (.int sb), .val (.int (3 : Int32)), .unset, .unset] [(.int p1)])) rfl (hb hby at_101) _ ?_
    show Steps p.tables e below (T1.setTop (mkF m 103 #[.val (.int p1), .val (.int p2), .val (.int p3), .val (.ref co), .val (.int (2 : Int32)), .val (.int (4 : Int32)), .val (.int (1 : Int32)), .val (.int sa), .val (.int sb), .val (.int (3 : Int32)), .unset, .unset] [(.int (2147483647 : Int32)), (.int p1)])) _
    refine XS.iand X1.here hx rfl (hb hby at_103) rfl ?_
    show Steps p.tables e below (T1.setTop (mkF m 104 #[.val (.int p1), .val (.int p2), .val (.int p3), .val (.ref co), .val (.int (2 : Int32)), .val (.int (4 : Int32)), .val (.int (1 : Int32)), .val (.int sa), .val (.int sb), .val (.int (3 : Int32)), .unset, .unset] [(.int (p1 &&& (2147483647 : Int32)))])) _
    refine XS.iconst X1.here hx rfl (hb hby at_104) ?_
    show Steps p.tables e below (T1.setTop (mkF m 105 #[.val (.int p1), .val (.int p2), .val (.int p3), .val (.ref co), .val (.int (2 : Int32)), .val (.int (4 : Int32)), .val (.int (1 : Int32)), .val (.int sa), .val (.int sb), .val (.int (3 : Int32)), .unset, .unset] [(.int (5 : Int32)), (.int (p1 &&& (2147483647 : Int32)))])) _
    refine iremM X1 hx rfl (hb hby at_105) rfl (by decide) ?_
    rw [hk]
    show Steps p.tables e below (T1.setTop (mkF m 106 #[.val (.int p1), .val (.int p2), .val (.int p3), .val (.ref co), .val (.int (2 : Int32)), .val (.int (4 : Int32)), .val (.int (1 : Int32)), .val (.int sa), .val (.int sb), .val (.int (3 : Int32)), .unset, .unset] [(.int (3 : Int32))])) _
    refine XS.istore X1.here hx rfl (hb hby at_106) rfl (l' := #[.val (.int p1), .val (.int p2), .val (.int p3), .val (.ref co), .val (.int (2 : Int32)), .val (.int (4 : Int32)), .val (.int (1 : Int32)), .val (.int sa), .val (.int sb), .val (.int (3 : Int32)), .val (.int (3 : Int32)), .unset]) rfl ?_
    show Steps p.tables e below (T1.setTop (mkF m 108 #[.val (.int p1), .val (.int p2), .val (.int p3), .val (.ref co), .val (.int (2 : Int32)), .val (.int (4 : Int32)), .val (.int (1 : Int32)), .val (.int sa), .val (.int sb), .val (.int (3 : Int32)), .val (.int (3 : Int32)), .unset] [])) _
    refine XS.iload X1.here hx rfl (hb hby at_108) rfl ?_
    show Steps p.tables e below (T1.setTop (mkF m 110 #[.val (.int p1), .val (.int p2), .val (.int p3), .val (.ref co), .val (.int (2 : Int32)), .val (.int (4 : Int32)), .val (.int (1 : Int32)), .val (.int sa), .val (.int sb), .val (.int (3 : Int32)), .val (.int (3 : Int32)), .unset] [(.int (3 : Int32))])) _
    refine XS.iload X1.here hx rfl (hb hby at_110) rfl ?_
    show Steps p.tables e below (T1.setTop (mkF m 112 #[.val (.int p1), .val (.int p2), .val (.int p3), .val (.ref co), .val (.int (2 : Int32)), .val (.int (4 : Int32)), .val (.int (1 : Int32)), .val (.int sa), .val (.int sb), .val (.int (3 : Int32)), .val (.int (3 : Int32)), .unset] [(.int (3 : Int32)), (.int (3 : Int32))])) _
    refine XS.icmpNo X1.here hx rfl (hb hby at_112) rfl (teq (by decide : (3 : Int32) = (3 : Int32))).2 ?_
    show Steps p.tables e below (T1.setTop (mkF m 115 #[.val (.int p1), .val (.int p2), .val (.int p3), .val (.ref co), .val (.int (2 : Int32)), .val (.int (4 : Int32)), .val (.int (1 : Int32)), .val (.int sa), .val (.int sb), .val (.int (3 : Int32)), .val (.int (3 : Int32)), .unset] [])) _
    refine XS.iconst X1.here hx rfl (hb hby at_115) ?_
    show Steps p.tables e below (T1.setTop (mkF m 116 #[.val (.int p1), .val (.int p2), .val (.int p3), .val (.ref co), .val (.int (2 : Int32)), .val (.int (4 : Int32)), .val (.int (1 : Int32)), .val (.int sa), .val (.int sb), .val (.int (3 : Int32)), .val (.int (3 : Int32)), .unset] [(.int (1 : Int32))])) _
    refine XS.goto X1.here hx rfl (pc0 := 116) (pc' := 120) rfl (hb hby at_116) (by decide) (by decide) ?_
    show Steps p.tables e below (T1.setTop (mkF m 120 #[.val (.int p1), .val (.int p2), .val (.int p3), .val (.ref co), .val (.int (2 : Int32)), .val (.int (4 : Int32)), .val (.int (1 : Int32)), .val (.int sa), .val (.int sb), .val (.int (3 : Int32)), .val (.int (3 : Int32)), .unset] [(.int (1 : Int32))])) _
    refine XS.istore X1.here hx rfl (hb hby at_120) rfl (l' := #[.val (.int p1), .val (.int p2), .val (.int p3), .val (.ref co), .val (.int (2 : Int32)), .val (.int (4 : Int32)), .val (.int (1 : Int32)), .val (.int sa), .val (.int sb), .val (.int (3 : Int32)), .val (.int (3 : Int32)), .val (.int (1 : Int32))]) rfl ?_
    show Steps p.tables e below (T1.setTop (mkF m 122 #[.val (.int p1), .val (.int p2), .val (.int p3), .val (.ref co), .val (.int (2 : Int32)), .val (.int (4 : Int32)), .val (.int (1 : Int32)), .val (.int sa), .val (.int sb), .val (.int (3 : Int32)), .val (.int (3 : Int32)), .val (.int (1 : Int32))] [])) _
    refine XS.aloadN X1.here hx rfl (hb hby at_122) rfl rfl ?_
    show Steps p.tables e below (T1.setTop (mkF m 123 #[.val (.int p1), .val (.int p2), .val (.int p3), .val (.ref co), .val (.int (2 : Int32)), .val (.int (4 : Int32)), .val (.int (1 : Int32)), .val (.int sa), .val (.int sb), .val (.int (3 : Int32)), .val (.int (3 : Int32)), .val (.int (1 : Int32))] [(.ref co)])) _
    refine XS.iload X1.here hx rfl (hb hby at_123) rfl ?_
    show Steps p.tables e below (T1.setTop (mkF m 125 #[.val (.int p1), .val (.int p2), .val (.int p3), .val (.ref co), .val (.int (2 : Int32)), .val (.int (4 : Int32)), .val (.int (1 : Int32)), .val (.int sa), .val (.int sb), .val (.int (3 : Int32)), .val (.int (3 : Int32)), .val (.int (1 : Int32))] [(.int (3 : Int32)), (.ref co)])) _
    refine st2.trans ?_
    show Steps p.tables e below (T2.setTop (mkF m 128 #[.val (.int p1), .val (.int p2), .val (.int p3), .val (.ref co), .val (.int (2 : Int32)), .val (.int (4 : Int32)), .val (.int (1 : Int32)), .val (.int sa), .val (.int sb), .val (.int (3 : Int32)), .val (.int (3 : Int32)), .val (.int (1 : Int32))] [(.int (1 : Int32))])) _
    refine XS.iload X2.here hx rfl (hb hby at_128) rfl ?_
    show Steps p.tables e below (T2.setTop (mkF m 130 #[.val (.int p1), .val (.int p2), .val (.int p3), .val (.ref co), .val (.int (2 : Int32)), .val (.int (4 : Int32)), .val (.int (1 : Int32)), .val (.int sa), .val (.int sb), .val (.int (3 : Int32)), .val (.int (3 : Int32)), .val (.int (1 : Int32))] [(.int (1 : Int32)), (.int (1 : Int32))])) _
    refine XS.icmpNo X2.here hx rfl (hb hby at_130) rfl (teq (by decide : (1 : Int32) = (1 : Int32))).2 ?_
    show Steps p.tables e below (T2.setTop (mkF m 133 #[.val (.int p1), .val (.int p2), .val (.int p3), .val (.ref co), .val (.int (2 : Int32)), .val (.int (4 : Int32)), .val (.int (1 : Int32)), .val (.int sa), .val (.int sb), .val (.int (3 : Int32)), .val (.int (3 : Int32)), .val (.int (1 : Int32))] [])) _
    refine XS.iconst X2.here hx rfl (hb hby at_133) ?_
    show Steps p.tables e below (T2.setTop (mkF m 134 #[.val (.int p1), .val (.int p2), .val (.int p3), .val (.ref co), .val (.int (2 : Int32)), .val (.int (4 : Int32)), .val (.int (1 : Int32)), .val (.int sa), .val (.int sb), .val (.int (3 : Int32)), .val (.int (3 : Int32)), .val (.int (1 : Int32))] [(.int (1 : Int32))])) _
    refine XS.goto X2.here hx rfl (pc0 := 134) (pc' := 138) rfl (hb hby at_134) (by decide) (by decide) ?_
    show Steps p.tables e below (T2.setTop (mkF m 138 #[.val (.int p1), .val (.int p2), .val (.int p3), .val (.ref co), .val (.int (2 : Int32)), .val (.int (4 : Int32)), .val (.int (1 : Int32)), .val (.int sa), .val (.int sb), .val (.int (3 : Int32)), .val (.int (3 : Int32)), .val (.int (1 : Int32))] [(.int (1 : Int32))])) _
    exact retN X2 hx (t := .boolean) hret (by simp) (hb hby at_138) hr
  · exact ⟨rfl, N2⟩
def Q25_53 (Z : State) (ob0 : Addr) (ob1 : Addr) (ob2 : Addr) (k_ob1 : ClassId) (q0 : Int32) (k_ob2 : ClassId) (q1 : Int32) (h0 : Heap) (n0 : Nat) (v : Option Value) (h : Heap) (L : List Loc) : Prop := v = some (.int (0 : Int32)) ∧ Fr n0 L ∧ h = h0
set_option maxRecDepth 65536 in
set_option maxHeartbeats 40000000 in
theorem rm25_53 (l : Launch) (Z : State) (a0 : Array Value) (hw : ∀ d ∈ tables_1, d.before a0 Z = true) (ws : List Jvm.Cond) (ob0 : Addr) (ob1 : Addr) (ob2 : Addr) (k_ob1 : ClassId) (q0 : Int32) (k_ob2 : ClassId) (q1 : Int32) (h0 : Heap) (n0 : Nat) (Z0 : n0 ≤ h0.size) (O0 : Old Z n0 h0) (PE_ob0 : Exa Z h0 ob0 "com/example/minos/minos/analysis/Circuit") (PF_ob0_first : Fld Z h0 ob0 "com/example/minos/minos/analysis/Circuit" "first" "[I" (.ref ob1)) (PF_ob0_second : Fld Z h0 ob0 "com/example/minos/minos/analysis/Circuit" "second" "[I" (.ref ob2)) (PF_ob0_nodes : Fld Z h0 ob0 "com/example/minos/minos/analysis/Circuit" "nodes" "I" (.int (5 : Int32))) (PV_ob1 : Arv Z h0 ob1 k_ob1 .int (1024 : Int32) [(.int (0 : Int32)), (.int (-1 : Int32)), (.int (-1 : Int32)), (.int (-1 : Int32)), (.int q0), (.int (0 : Int32))] (.int (0 : Int32))) (PV_ob2 : Arv Z h0 ob2 k_ob2 .int (1024 : Int32) [(.int (0 : Int32)), (.int (-1 : Int32)), (.int (-1 : Int32)), (.int (-1 : Int32)), (.int q1), (.int (0 : Int32))] (.int (0 : Int32))) :
    MetFree l (⟨"com/example/minos/minos/analysis/Circuit", "isGate", "(I)Z"⟩ : MethodName) (head1 (Jvm.Cond.code (⟨"com/example/minos/minos/analysis/Circuit", "isGate", "(I)Z"⟩ : MethodName) prog_12_method_11_code 2 (some .boolean) :: ws) ({ frames := 0, cells := 0, slots := 0, locals := 0 } : Room)) (fun a U => a = #[(.ref ob0), (.int (3 : Int32))] ∧ Z.Warmed39 U.vm ∧ U.heap = h0) (fun _ _ _ _ _ => True) (fun _ U o U' => ∃ v L, o = .returned v ∧ Q25_53 Z  ob0 ob1 ob2 k_ob1 q0 k_ob2 q1 h0 n0 v U'.heap L ∧ FrameEnd U o U' L ({ frames := 0, cells := 0, slots := 0, locals := 0 } : Room).cells ({ frames := 0, cells := 0, slots := 0, locals := 0 } : Room).slots) := by
  refine MetFree.of_bodySF (plainFor_of_name pn37) hisR ?_
  intro p e s m args below meth c s₁ Bd hml0 hP hK
  obtain ⟨rfl, hZ, hh⟩ := hP
  have hx := Bd.exec
  have hby := Bd.bytes
  have hml : c.maxLocals = 2 := hml0
  have hown : s.vm.findClass "com/example/minos/minos/analysis/Circuit" = some m.cls := findClass_of_methodNamed Bd.named
  have hnm := (name_of_methodNamed Bd.named Bd.method).1
  have X0 : Stand p l e ({ frames := 0, cells := 0, slots := 0, locals := 0 } : Room) s m #[(.ref ob0), (.int (3 : Int32))] below meth c s₁ [] 0 0 := Stand.of_body Bd
  have e0 : s₁.heap = h0 := by rw [← hh, Bd.state]; rfl
  have N0 := Fr.nil n0
  have pre0 : ∀ t, Steps p.tables e below (s₁.setTop (mkF m 0 #[.val (.ref ob0), .val (.int (3 : Int32))] [])) t → Steps p.tables e below (s₁.setTop (entryFrame m #[(.ref ob0), (.int (3 : Int32))] 2)) t := fun t k => castTop (ef418 m ob0 (3 : Int32)) k
  obtain ⟨T1, X1, e1, st1⟩ := getF X0 hx hZ hown (host := "") (Or.inl (hw _ (List.mem_of_getElem? (i := 10) rfl))) Via.refl e0 PF_ob0_first (g := (mkF m 5 #[.val (.ref ob0), .val (.int (3 : Int32))] [(.ref ob0)])) rfl rfl (hb hby d25_5)
  obtain ⟨ac2, aA2, aq2, aS2, aN2, aH2, aG2⟩ := id PV_ob1
  obtain ⟨fs, hr, hrun, hended, hW, hsame⟩ := X1.leave (v := some (.int (0 : Int32))) (fun h => by rw [Bd.returns] at h; cases h)
  refine ⟨_, _, pre0 _ ?_, hrun, hended, _, _, rfl, ?_, ⟨_, rfl⟩, hW, hsame.mono (by decide) (by decide)⟩
  · show Steps p.tables e below (s₁.setTop (mkF m 0 #[.val (.ref ob0), .val (.int (3 : Int32))] [])) _
    refine XS.iloadN X0.here hx rfl (hb hby d25_0) rfl ?_
    show Steps p.tables e below (s₁.setTop (mkF m 1 #[.val (.ref ob0), .val (.int (3 : Int32))] [(.int (3 : Int32))])) _
    refine XS.ifNo X0.here hx rfl (hb hby d25_1) rfl ((if0 _ _).trans (tlt (by decide : (0 : Int32) < (3 : Int32))).2.2.2) ?_
    show Steps p.tables e below (s₁.setTop (mkF m 4 #[.val (.ref ob0), .val (.int (3 : Int32))] [])) _
    refine XS.aloadN X0.here hx rfl (hb hby d25_4) rfl rfl ?_
    show Steps p.tables e below (s₁.setTop (mkF m 5 #[.val (.ref ob0), .val (.int (3 : Int32))] [(.ref ob0)])) _
    refine st1 _ ?_
    show Steps p.tables e below (T1.setTop (mkF m 8 #[.val (.ref ob0), .val (.int (3 : Int32))] [(.ref ob1)])) _
    refine XS.iloadN X1.here hx rfl (hb hby d25_8) rfl ?_
    show Steps p.tables e below (T1.setTop (mkF m 9 #[.val (.ref ob0), .val (.int (3 : Int32))] [(.int (3 : Int32)), (.ref ob1)])) _
    refine X1.iaload hx (j := (3 : Int32)) (v := (.int (-1 : Int32))) (by rw [e1]; exact aA2.1) (State.isArrayOf_alike hZ.alike aA2.2.1) aA2.2.2 (inb_of aS2 ⟨by decide, by decide⟩) (aH2.at (inb_of aS2 ⟨by decide, by decide⟩) rfl) (g := (mkF m 9 #[.val (.ref ob0), .val (.int (3 : Int32))] [(.int (3 : Int32)), (.ref ob1)])) rfl rfl (hb hby d25_9) _ ?_
    show Steps p.tables e below (T1.setTop (mkF m 10 #[.val (.ref ob0), .val (.int (3 : Int32))] [(.int (-1 : Int32))])) _
    refine XS.iconst X1.here hx rfl (hb hby d25_10) ?_
    show Steps p.tables e below (T1.setTop (mkF m 11 #[.val (.ref ob0), .val (.int (3 : Int32))] [(.int (-1 : Int32)), (.int (-1 : Int32))])) _
    refine XS.icmpYes X1.here hx rfl (pc0 := 11) (pc' := 18) rfl (hb hby d25_11) rfl (teq (by decide : (-1 : Int32) = (-1 : Int32))).1 (by decide) (by decide) ?_
    show Steps p.tables e below (T1.setTop (mkF m 18 #[.val (.ref ob0), .val (.int (3 : Int32))] [])) _
    refine XS.iconst X1.here hx rfl (hb hby d25_18) ?_
    show Steps p.tables e below (T1.setTop (mkF m 19 #[.val (.ref ob0), .val (.int (3 : Int32))] [(.int (0 : Int32))])) _
    exact retN X1 hx (t := .boolean) Bd.returns (by simp) (hb hby d25_19) hr
  · exact ⟨rfl, N0, e1⟩
set_option maxRecDepth 65536 in
set_option maxHeartbeats 40000000 in
theorem lT03 {p : Program} {l : Launch} {e : Env} {s : State} {m : MethodId} {args : Array Value} {below : List Frame} {meth : Method} {c : Code} {T0 : State} {locs : List Loc} {Z : State} {a0 : Array Value} {h0 : Heap} {n0 : Nat} (p1 : Int32) (p2 : Int32) (p3 : Int32) (co : Addr) (sa : Int32) (sb : Int32) (rv : Int32) (F : Addr) (S : Addr) (k_F : ClassId) (va : Int32) (k_S : ClassId) (vb : Int32)
    (X0 : Stand p l e room_1 s m args below meth c T0 locs 8 2084) (hx : p.tables.exec = Jvm.exec) (hZ : Z.Warmed39 s.vm) (hw : ∀ d ∈ tables_1, d.before a0 Z = true) (hby : c.code = code) (hml : c.maxLocals = 12) (hown : s.vm.findClass "com/example/minos/minos/analysis/CircuitIsGatePinLaw" = some m.cls) (e0 : T0.heap = h0) (N0 : Fr n0 locs) (O0 : Old Z n0 h0) (hk : ((p1 &&& (2147483647 : Int32)) % (5 : Int32)) = (3 : Int32)) (PE_co : Exa Z h0 co "com/example/minos/minos/analysis/Circuit") (PF_co_first : Fld Z h0 co "com/example/minos/minos/analysis/Circuit" "first" "[I" (.ref F)) (PF_co_second : Fld Z h0 co "com/example/minos/minos/analysis/Circuit" "second" "[I" (.ref S)) (PF_co_nodes : Fld Z h0 co "com/example/minos/minos/analysis/Circuit" "nodes" "I" (.int (5 : Int32))) (PV_F : Arv Z h0 F k_F .int (1024 : Int32) [(.int (0 : Int32)), (.int (-1 : Int32)), (.int (-1 : Int32)), (.int (-1 : Int32)), (.int va), (.int (0 : Int32))] (.int (0 : Int32))) (PV_S : Arv Z h0 S k_S .int (1024 : Int32) [(.int (0 : Int32)), (.int (-1 : Int32)), (.int (-1 : Int32)), (.int (-1 : Int32)), (.int vb), (.int (0 : Int32))] (.int (0 : Int32))) (hd0 : ¬ (va = (-1 : Int32))) (hret : meth.sig.returnType = some .boolean) (hlk : meth.locks = false) {entry : State} (pre0 : ∀ t, Steps p.tables e below (T0.setTop (mkF m 96 #[.val (.int p1), .val (.int p2), .val (.int p3), .val (.ref co), .val (.int (2 : Int32)), .val (.int (4 : Int32)), .val (.int (0 : Int32)), .val (.int sa), .val (.int sb), .unset, .val (.int (6 : Int32)), .unset] [(.int rv)])) t → Steps p.tables e below entry t) :
    ∃ s₂ o, Steps p.tables e below entry s₂ ∧ s₂.status = .running ∧ Ended s₂ below o ∧ ∃ v L, o = .returned v ∧ Q0 h0 n0 v s₂.heap L ∧ FrameEnd s o s₂ L room_1.cells room_1.slots := by
  obtain ⟨cq1, kq1, q1a, q1b, q1c⟩ := isOf hZ e0 PE_co
  obtain ⟨_, _, ⟨T1, L1, k1, n1⟩, -, X1, ⟨Lc1, hQ1, l1, y1, z1⟩, st1⟩ := X0.virtualBack hx (y := (⟨"com/example/minos/minos/analysis/Circuit", "isGate", "(I)Z"⟩ : MethodName)) (z := (⟨"com/example/minos/minos/analysis/Circuit", "isGate", "(I)Z"⟩ : MethodName)) hown (mvT hZ (hw _ (List.mem_of_getElem? (i := 167) rfl))) (mvT hZ (hw _ (List.mem_of_getElem? (i := 168) rfl))) (notFace_of_selects (args := #[]) (mvT hZ (hw _ (List.mem_of_getElem? (i := 170) rfl)))) (mvT hZ (hw _ (List.mem_of_getElem? (i := 170) rfl))) (mvT hZ (hw _ (List.mem_of_getElem? (i := 169) rfl))) (by decide) (backOf (W := 0) (rm25_53 l Z a0 hw []  co F S k_F va k_S vb h0 n0 (own_n0 O0) O0 PE_co PF_co_first PF_co_second PF_co_nodes PV_F PV_S) hZ (hw _ (List.mem_of_getElem? (i := 171) rfl)) (hw _ (List.mem_of_getElem? (i := 2) rfl)) (by decide) (by decide)) q1a q1c (g := (mkF m 125 #[.val (.int p1), .val (.int p2), .val (.int p3), .val (.ref co), .val (.int (2 : Int32)), .val (.int (4 : Int32)), .val (.int (0 : Int32)), .val (.int sa), .val (.int sb), .val (.int (4 : Int32)), .val (.int (3 : Int32)), .val (.int (0 : Int32))] [(.int (3 : Int32)), (.ref co)])) rfl (by rw [hml]; rfl) (Steps.refl _) (argsL := [(.int (3 : Int32))]) (rest := []) (lenOf pd419 rfl) rfl (by show 2 * 0 + _ ≤ _; exact Nat.le_of_eq rfl) (hb hby at_125) (fun _ _ => ⟨rfl, e0, (by decide : 8 + 0 ≤ _), (by decide : 2084 + 0 ≤ _)⟩)
  dsimp only [Pt.U, Pt.locs, Pt.cells, Pt.slots] at X1 l1 y1 z1 st1 hQ1
  subst l1 y1 z1
  obtain ⟨rfl, N1q, e1⟩ := hQ1
  have N1 := Fr.app N0 N1q
  obtain ⟨fs, hr, hrun, hended, hW, hsame⟩ := X1.leave (v := some (.int (1 : Int32))) (fun h => by rw [hret] at h; cases h) hlk
  refine ⟨_, _, pre0 _ ?_, hrun, hended, _, _, rfl, ?_, ⟨_, rfl⟩, hW, hsame.mono (by decide) (by decide)⟩
  · show Steps p.tables e below (T0.setTop (mkF m 96 #[.val (.int p1), .val (.int p2), .val (.int p3), .val (.ref co), .val (.int (2 : Int32)), .val (.int (4 : Int32)), .val (.int (0 : Int32)), .val (.int sa), .val (.int sb), .unset, .val (.int (6 : Int32)), .unset] [(.int rv)])) _
    refine XS.pop X0.here hx rfl (hb hby at_96) rfl rfl ?_
    show Steps p.tables e below (T0.setTop (mkF m 97 #[.val (.int p1), .val (.int p2), .val (.int p3), .val (.ref co), .val (.int (2 : Int32)), .val (.int (4 : Int32)), .val (.int (0 : Int32)), .val (.int sa), .val (.int sb), .unset, .val (.int (6 : Int32)), .unset] [])) _
    refine XS.iconst X0.here hx rfl (hb hby at_97) ?_
    show Steps p.tables e below (T0.setTop (mkF m 98 #[.val (.int p1), .val (.int p2), .val (.int p3), .val (.ref co), .val (.int (2 : Int32)), .val (.int (4 : Int32)), .val (.int (0 : Int32)), .val (.int sa), .val (.int sb), .unset, .val (.int (6 : Int32)), .unset] [(.int (4 : Int32))])) _
    refine XS.istore X0.here hx rfl (hb hby at_98) rfl (l' := #[.val (.int p1), .val (.int p2), .val (.int p3), .val (.ref co), .val (.int (2 : Int32)), .val (.int (4 : Int32)), .val (.int (0 : Int32)), .val (.int sa), .val (.int sb), .val (.int (4 : Int32)), .val (.int (6 : Int32)), .unset]) rfl ?_
    show Steps p.tables e below (T0.setTop (mkF m 100 #[.val (.int p1), .val (.int p2), .val (.int p3), .val (.ref co), .val (.int (2 : Int32)), .val (.int (4 : Int32)), .val (.int (0 : Int32)), .val (.int sa), .val (.int sb), .val (.int (4 : Int32)), .val (.int (6 : Int32)), .unset] [])) _
    refine XS.iloadN X0.here hx rfl (hb hby at_100) rfl ?_
    show Steps p.tables e below (T0.setTop (mkF m 101 #[.val (.int p1), .val (.int p2), .val (.int p3), .val (.ref co), .val (.int (2 : Int32)), .val (.int (4 : Int32)), .val (.int (0 : Int32)), .val (.int sa), .val (.int sb), .val (.int (4 : Int32)), .val (.int (6 : Int32)), .unset] [(.int p1)])) _
    refine X0.ldcInt hx hown (mvT hZ (hw _ (List.mem_of_getElem? (i := 166) rfl))) (g := (mkF m 101 #[.val (.int p1), .val (.int p2), .val (.int p3), .val (.ref co), .val (.int (2 : Int32)), .val (.int (4 : Int32)), .val (.int (0 : Int32)), .val (.int sa), .val (.int sb), .val (.int (4 : Int32)), .val (.int (6 : Int32)), .unset] [(.int p1)])) rfl (hb hby at_101) _ ?_
    show Steps p.tables e below (T0.setTop (mkF m 103 #[.val (.int p1), .val (.int p2), .val (.int p3), .val (.ref co), .val (.int (2 : Int32)), .val (.int (4 : Int32)), .val (.int (0 : Int32)), .val (.int sa), .val (.int sb), .val (.int (4 : Int32)), .val (.int (6 : Int32)), .unset] [(.int (2147483647 : Int32)), (.int p1)])) _
    refine XS.iand X0.here hx rfl (hb hby at_103) rfl ?_
    show Steps p.tables e below (T0.setTop (mkF m 104 #[.val (.int p1), .val (.int p2), .val (.int p3), .val (.ref co), .val (.int (2 : Int32)), .val (.int (4 : Int32)), .val (.int (0 : Int32)), .val (.int sa), .val (.int sb), .val (.int (4 : Int32)), .val (.int (6 : Int32)), .unset] [(.int (p1 &&& (2147483647 : Int32)))])) _
    refine XS.iconst X0.here hx rfl (hb hby at_104) ?_
    show Steps p.tables e below (T0.setTop (mkF m 105 #[.val (.int p1), .val (.int p2), .val (.int p3), .val (.ref co), .val (.int (2 : Int32)), .val (.int (4 : Int32)), .val (.int (0 : Int32)), .val (.int sa), .val (.int sb), .val (.int (4 : Int32)), .val (.int (6 : Int32)), .unset] [(.int (5 : Int32)), (.int (p1 &&& (2147483647 : Int32)))])) _
    refine iremM X0 hx rfl (hb hby at_105) rfl (by decide) ?_
    rw [hk]
    show Steps p.tables e below (T0.setTop (mkF m 106 #[.val (.int p1), .val (.int p2), .val (.int p3), .val (.ref co), .val (.int (2 : Int32)), .val (.int (4 : Int32)), .val (.int (0 : Int32)), .val (.int sa), .val (.int sb), .val (.int (4 : Int32)), .val (.int (6 : Int32)), .unset] [(.int (3 : Int32))])) _
    refine XS.istore X0.here hx rfl (hb hby at_106) rfl (l' := #[.val (.int p1), .val (.int p2), .val (.int p3), .val (.ref co), .val (.int (2 : Int32)), .val (.int (4 : Int32)), .val (.int (0 : Int32)), .val (.int sa), .val (.int sb), .val (.int (4 : Int32)), .val (.int (3 : Int32)), .unset]) rfl ?_
    show Steps p.tables e below (T0.setTop (mkF m 108 #[.val (.int p1), .val (.int p2), .val (.int p3), .val (.ref co), .val (.int (2 : Int32)), .val (.int (4 : Int32)), .val (.int (0 : Int32)), .val (.int sa), .val (.int sb), .val (.int (4 : Int32)), .val (.int (3 : Int32)), .unset] [])) _
    refine XS.iload X0.here hx rfl (hb hby at_108) rfl ?_
    show Steps p.tables e below (T0.setTop (mkF m 110 #[.val (.int p1), .val (.int p2), .val (.int p3), .val (.ref co), .val (.int (2 : Int32)), .val (.int (4 : Int32)), .val (.int (0 : Int32)), .val (.int sa), .val (.int sb), .val (.int (4 : Int32)), .val (.int (3 : Int32)), .unset] [(.int (3 : Int32))])) _
    refine XS.iload X0.here hx rfl (hb hby at_110) rfl ?_
    show Steps p.tables e below (T0.setTop (mkF m 112 #[.val (.int p1), .val (.int p2), .val (.int p3), .val (.ref co), .val (.int (2 : Int32)), .val (.int (4 : Int32)), .val (.int (0 : Int32)), .val (.int sa), .val (.int sb), .val (.int (4 : Int32)), .val (.int (3 : Int32)), .unset] [(.int (4 : Int32)), (.int (3 : Int32))])) _
    refine XS.icmpYes X0.here hx rfl (pc0 := 112) (pc' := 119) rfl (hb hby at_112) rfl (feq (by decide : ¬ ((3 : Int32) = (4 : Int32)))).2 (by decide) (by decide) ?_
    show Steps p.tables e below (T0.setTop (mkF m 119 #[.val (.int p1), .val (.int p2), .val (.int p3), .val (.ref co), .val (.int (2 : Int32)), .val (.int (4 : Int32)), .val (.int (0 : Int32)), .val (.int sa), .val (.int sb), .val (.int (4 : Int32)), .val (.int (3 : Int32)), .unset] [])) _
    refine XS.iconst X0.here hx rfl (hb hby at_119) ?_
    show Steps p.tables e below (T0.setTop (mkF m 120 #[.val (.int p1), .val (.int p2), .val (.int p3), .val (.ref co), .val (.int (2 : Int32)), .val (.int (4 : Int32)), .val (.int (0 : Int32)), .val (.int sa), .val (.int sb), .val (.int (4 : Int32)), .val (.int (3 : Int32)), .unset] [(.int (0 : Int32))])) _
    refine XS.istore X0.here hx rfl (hb hby at_120) rfl (l' := #[.val (.int p1), .val (.int p2), .val (.int p3), .val (.ref co), .val (.int (2 : Int32)), .val (.int (4 : Int32)), .val (.int (0 : Int32)), .val (.int sa), .val (.int sb), .val (.int (4 : Int32)), .val (.int (3 : Int32)), .val (.int (0 : Int32))]) rfl ?_
    show Steps p.tables e below (T0.setTop (mkF m 122 #[.val (.int p1), .val (.int p2), .val (.int p3), .val (.ref co), .val (.int (2 : Int32)), .val (.int (4 : Int32)), .val (.int (0 : Int32)), .val (.int sa), .val (.int sb), .val (.int (4 : Int32)), .val (.int (3 : Int32)), .val (.int (0 : Int32))] [])) _
    refine XS.aloadN X0.here hx rfl (hb hby at_122) rfl rfl ?_
    show Steps p.tables e below (T0.setTop (mkF m 123 #[.val (.int p1), .val (.int p2), .val (.int p3), .val (.ref co), .val (.int (2 : Int32)), .val (.int (4 : Int32)), .val (.int (0 : Int32)), .val (.int sa), .val (.int sb), .val (.int (4 : Int32)), .val (.int (3 : Int32)), .val (.int (0 : Int32))] [(.ref co)])) _
    refine XS.iload X0.here hx rfl (hb hby at_123) rfl ?_
    show Steps p.tables e below (T0.setTop (mkF m 125 #[.val (.int p1), .val (.int p2), .val (.int p3), .val (.ref co), .val (.int (2 : Int32)), .val (.int (4 : Int32)), .val (.int (0 : Int32)), .val (.int sa), .val (.int sb), .val (.int (4 : Int32)), .val (.int (3 : Int32)), .val (.int (0 : Int32))] [(.int (3 : Int32)), (.ref co)])) _
    refine st1.trans ?_
    show Steps p.tables e below (T1.setTop (mkF m 128 #[.val (.int p1), .val (.int p2), .val (.int p3), .val (.ref co), .val (.int (2 : Int32)), .val (.int (4 : Int32)), .val (.int (0 : Int32)), .val (.int sa), .val (.int sb), .val (.int (4 : Int32)), .val (.int (3 : Int32)), .val (.int (0 : Int32))] [(.int (0 : Int32))])) _
    refine XS.iload X1.here hx rfl (hb hby at_128) rfl ?_
    show Steps p.tables e below (T1.setTop (mkF m 130 #[.val (.int p1), .val (.int p2), .val (.int p3), .val (.ref co), .val (.int (2 : Int32)), .val (.int (4 : Int32)), .val (.int (0 : Int32)), .val (.int sa), .val (.int sb), .val (.int (4 : Int32)), .val (.int (3 : Int32)), .val (.int (0 : Int32))] [(.int (0 : Int32)), (.int (0 : Int32))])) _
    refine XS.icmpNo X1.here hx rfl (hb hby at_130) rfl (teq (by decide : (0 : Int32) = (0 : Int32))).2 ?_
    show Steps p.tables e below (T1.setTop (mkF m 133 #[.val (.int p1), .val (.int p2), .val (.int p3), .val (.ref co), .val (.int (2 : Int32)), .val (.int (4 : Int32)), .val (.int (0 : Int32)), .val (.int sa), .val (.int sb), .val (.int (4 : Int32)), .val (.int (3 : Int32)), .val (.int (0 : Int32))] [])) _
    refine XS.iconst X1.here hx rfl (hb hby at_133) ?_
    show Steps p.tables e below (T1.setTop (mkF m 134 #[.val (.int p1), .val (.int p2), .val (.int p3), .val (.ref co), .val (.int (2 : Int32)), .val (.int (4 : Int32)), .val (.int (0 : Int32)), .val (.int sa), .val (.int sb), .val (.int (4 : Int32)), .val (.int (3 : Int32)), .val (.int (0 : Int32))] [(.int (1 : Int32))])) _
    refine XS.goto X1.here hx rfl (pc0 := 134) (pc' := 138) rfl (hb hby at_134) (by decide) (by decide) ?_
    show Steps p.tables e below (T1.setTop (mkF m 138 #[.val (.int p1), .val (.int p2), .val (.int p3), .val (.ref co), .val (.int (2 : Int32)), .val (.int (4 : Int32)), .val (.int (0 : Int32)), .val (.int sa), .val (.int sb), .val (.int (4 : Int32)), .val (.int (3 : Int32)), .val (.int (0 : Int32))] [(.int (1 : Int32))])) _
    exact retN X1 hx (t := .boolean) hret (by simp) (hb hby at_138) hr
  · exact ⟨rfl, N1⟩
def Q25_55 (Z : State) (ob0 : Addr) (ob1 : Addr) (ob2 : Addr) (k_ob1 : ClassId) (q0 : Int32) (k_ob2 : ClassId) (q1 : Int32) (h0 : Heap) (n0 : Nat) (v : Option Value) (h : Heap) (L : List Loc) : Prop := v = some (.int (0 : Int32)) ∧ Fr n0 L ∧ h = h0
set_option maxRecDepth 65536 in
set_option maxHeartbeats 40000000 in
theorem rm25_55 (l : Launch) (Z : State) (a0 : Array Value) (hw : ∀ d ∈ tables_1, d.before a0 Z = true) (ws : List Jvm.Cond) (ob0 : Addr) (ob1 : Addr) (ob2 : Addr) (k_ob1 : ClassId) (q0 : Int32) (k_ob2 : ClassId) (q1 : Int32) (h0 : Heap) (n0 : Nat) (Z0 : n0 ≤ h0.size) (O0 : Old Z n0 h0) (PE_ob0 : Exa Z h0 ob0 "com/example/minos/minos/analysis/Circuit") (PF_ob0_first : Fld Z h0 ob0 "com/example/minos/minos/analysis/Circuit" "first" "[I" (.ref ob1)) (PF_ob0_second : Fld Z h0 ob0 "com/example/minos/minos/analysis/Circuit" "second" "[I" (.ref ob2)) (PF_ob0_nodes : Fld Z h0 ob0 "com/example/minos/minos/analysis/Circuit" "nodes" "I" (.int (5 : Int32))) (PV_ob1 : Arv Z h0 ob1 k_ob1 .int (1024 : Int32) [(.int (0 : Int32)), (.int (-1 : Int32)), (.int (-1 : Int32)), (.int q0), (.int (-1 : Int32)), (.int (0 : Int32))] (.int (0 : Int32))) (PV_ob2 : Arv Z h0 ob2 k_ob2 .int (1024 : Int32) [(.int (0 : Int32)), (.int (-1 : Int32)), (.int (-1 : Int32)), (.int q1), (.int (-1 : Int32)), (.int (0 : Int32))] (.int (0 : Int32))) :
    MetFree l (⟨"com/example/minos/minos/analysis/Circuit", "isGate", "(I)Z"⟩ : MethodName) (head1 (Jvm.Cond.code (⟨"com/example/minos/minos/analysis/Circuit", "isGate", "(I)Z"⟩ : MethodName) prog_12_method_11_code 2 (some .boolean) :: ws) ({ frames := 0, cells := 0, slots := 0, locals := 0 } : Room)) (fun a U => a = #[(.ref ob0), (.int (4 : Int32))] ∧ Z.Warmed39 U.vm ∧ U.heap = h0) (fun _ _ _ _ _ => True) (fun _ U o U' => ∃ v L, o = .returned v ∧ Q25_55 Z  ob0 ob1 ob2 k_ob1 q0 k_ob2 q1 h0 n0 v U'.heap L ∧ FrameEnd U o U' L ({ frames := 0, cells := 0, slots := 0, locals := 0 } : Room).cells ({ frames := 0, cells := 0, slots := 0, locals := 0 } : Room).slots) := by
  refine MetFree.of_bodySF (plainFor_of_name pn37) hisR ?_
  intro p e s m args below meth c s₁ Bd hml0 hP hK
  obtain ⟨rfl, hZ, hh⟩ := hP
  have hx := Bd.exec
  have hby := Bd.bytes
  have hml : c.maxLocals = 2 := hml0
  have hown : s.vm.findClass "com/example/minos/minos/analysis/Circuit" = some m.cls := findClass_of_methodNamed Bd.named
  have hnm := (name_of_methodNamed Bd.named Bd.method).1
  have X0 : Stand p l e ({ frames := 0, cells := 0, slots := 0, locals := 0 } : Room) s m #[(.ref ob0), (.int (4 : Int32))] below meth c s₁ [] 0 0 := Stand.of_body Bd
  have e0 : s₁.heap = h0 := by rw [← hh, Bd.state]; rfl
  have N0 := Fr.nil n0
  have pre0 : ∀ t, Steps p.tables e below (s₁.setTop (mkF m 0 #[.val (.ref ob0), .val (.int (4 : Int32))] [])) t → Steps p.tables e below (s₁.setTop (entryFrame m #[(.ref ob0), (.int (4 : Int32))] 2)) t := fun t k => castTop (ef418 m ob0 (4 : Int32)) k
  obtain ⟨T1, X1, e1, st1⟩ := getF X0 hx hZ hown (host := "") (Or.inl (hw _ (List.mem_of_getElem? (i := 10) rfl))) Via.refl e0 PF_ob0_first (g := (mkF m 5 #[.val (.ref ob0), .val (.int (4 : Int32))] [(.ref ob0)])) rfl rfl (hb hby d25_5)
  obtain ⟨ac2, aA2, aq2, aS2, aN2, aH2, aG2⟩ := id PV_ob1
  obtain ⟨fs, hr, hrun, hended, hW, hsame⟩ := X1.leave (v := some (.int (0 : Int32))) (fun h => by rw [Bd.returns] at h; cases h)
  refine ⟨_, _, pre0 _ ?_, hrun, hended, _, _, rfl, ?_, ⟨_, rfl⟩, hW, hsame.mono (by decide) (by decide)⟩
  · show Steps p.tables e below (s₁.setTop (mkF m 0 #[.val (.ref ob0), .val (.int (4 : Int32))] [])) _
    refine XS.iloadN X0.here hx rfl (hb hby d25_0) rfl ?_
    show Steps p.tables e below (s₁.setTop (mkF m 1 #[.val (.ref ob0), .val (.int (4 : Int32))] [(.int (4 : Int32))])) _
    refine XS.ifNo X0.here hx rfl (hb hby d25_1) rfl ((if0 _ _).trans (tlt (by decide : (0 : Int32) < (4 : Int32))).2.2.2) ?_
    show Steps p.tables e below (s₁.setTop (mkF m 4 #[.val (.ref ob0), .val (.int (4 : Int32))] [])) _
    refine XS.aloadN X0.here hx rfl (hb hby d25_4) rfl rfl ?_
    show Steps p.tables e below (s₁.setTop (mkF m 5 #[.val (.ref ob0), .val (.int (4 : Int32))] [(.ref ob0)])) _
    refine st1 _ ?_
    show Steps p.tables e below (T1.setTop (mkF m 8 #[.val (.ref ob0), .val (.int (4 : Int32))] [(.ref ob1)])) _
    refine XS.iloadN X1.here hx rfl (hb hby d25_8) rfl ?_
    show Steps p.tables e below (T1.setTop (mkF m 9 #[.val (.ref ob0), .val (.int (4 : Int32))] [(.int (4 : Int32)), (.ref ob1)])) _
    refine X1.iaload hx (j := (4 : Int32)) (v := (.int (-1 : Int32))) (by rw [e1]; exact aA2.1) (State.isArrayOf_alike hZ.alike aA2.2.1) aA2.2.2 (inb_of aS2 ⟨by decide, by decide⟩) (aH2.at (inb_of aS2 ⟨by decide, by decide⟩) rfl) (g := (mkF m 9 #[.val (.ref ob0), .val (.int (4 : Int32))] [(.int (4 : Int32)), (.ref ob1)])) rfl rfl (hb hby d25_9) _ ?_
    show Steps p.tables e below (T1.setTop (mkF m 10 #[.val (.ref ob0), .val (.int (4 : Int32))] [(.int (-1 : Int32))])) _
    refine XS.iconst X1.here hx rfl (hb hby d25_10) ?_
    show Steps p.tables e below (T1.setTop (mkF m 11 #[.val (.ref ob0), .val (.int (4 : Int32))] [(.int (-1 : Int32)), (.int (-1 : Int32))])) _
    refine XS.icmpYes X1.here hx rfl (pc0 := 11) (pc' := 18) rfl (hb hby d25_11) rfl (teq (by decide : (-1 : Int32) = (-1 : Int32))).1 (by decide) (by decide) ?_
    show Steps p.tables e below (T1.setTop (mkF m 18 #[.val (.ref ob0), .val (.int (4 : Int32))] [])) _
    refine XS.iconst X1.here hx rfl (hb hby d25_18) ?_
    show Steps p.tables e below (T1.setTop (mkF m 19 #[.val (.ref ob0), .val (.int (4 : Int32))] [(.int (0 : Int32))])) _
    exact retN X1 hx (t := .boolean) Bd.returns (by simp) (hb hby d25_19) hr
  · exact ⟨rfl, N0, e1⟩
set_option maxRecDepth 65536 in
set_option maxHeartbeats 40000000 in
theorem lT14 {p : Program} {l : Launch} {e : Env} {s : State} {m : MethodId} {args : Array Value} {below : List Frame} {meth : Method} {c : Code} {T0 : State} {locs : List Loc} {Z : State} {a0 : Array Value} {h0 : Heap} {n0 : Nat} (p1 : Int32) (p2 : Int32) (p3 : Int32) (co : Addr) (sa : Int32) (sb : Int32) (rv : Int32) (F : Addr) (S : Addr) (k_F : ClassId) (va : Int32) (k_S : ClassId) (vb : Int32)
    (X0 : Stand p l e room_1 s m args below meth c T0 locs 8 2084) (hx : p.tables.exec = Jvm.exec) (hZ : Z.Warmed39 s.vm) (hw : ∀ d ∈ tables_1, d.before a0 Z = true) (hby : c.code = code) (hml : c.maxLocals = 12) (hown : s.vm.findClass "com/example/minos/minos/analysis/CircuitIsGatePinLaw" = some m.cls) (e0 : T0.heap = h0) (N0 : Fr n0 locs) (O0 : Old Z n0 h0) (hk : ((p1 &&& (2147483647 : Int32)) % (5 : Int32)) = (4 : Int32)) (PE_co : Exa Z h0 co "com/example/minos/minos/analysis/Circuit") (PF_co_first : Fld Z h0 co "com/example/minos/minos/analysis/Circuit" "first" "[I" (.ref F)) (PF_co_second : Fld Z h0 co "com/example/minos/minos/analysis/Circuit" "second" "[I" (.ref S)) (PF_co_nodes : Fld Z h0 co "com/example/minos/minos/analysis/Circuit" "nodes" "I" (.int (4 : Int32))) (PV_F : Arv Z h0 F k_F .int (1024 : Int32) [(.int (0 : Int32)), (.int (-1 : Int32)), (.int (-1 : Int32)), (.int va), (.int (0 : Int32)), (.int (0 : Int32))] (.int (0 : Int32))) (PV_S : Arv Z h0 S k_S .int (1024 : Int32) [(.int (0 : Int32)), (.int (-1 : Int32)), (.int (-1 : Int32)), (.int vb), (.int (0 : Int32)), (.int (0 : Int32))] (.int (0 : Int32))) (ne_F_co : F ≠ co) (ne_F_S : F ≠ S) (ne_S_co : S ≠ co) (g_F : n0 ≤ F) (g_S : n0 ≤ S) (g_co : n0 ≤ co) (hd0 : ¬ (va = (-1 : Int32))) (hret : meth.sig.returnType = some .boolean) (hlk : meth.locks = false) {entry : State} (pre0 : ∀ t, Steps p.tables e below (T0.setTop (mkF m 64 #[.val (.int p1), .val (.int p2), .val (.int p3), .val (.ref co), .val (.int (2 : Int32)), .val (.int (4 : Int32)), .val (.int (1 : Int32)), .val (.int sa), .val (.int sb), .unset, .unset, .unset] [(.int rv)])) t → Steps p.tables e below entry t) :
    ∃ s₂ o, Steps p.tables e below entry s₂ ∧ s₂.status = .running ∧ Ended s₂ below o ∧ ∃ v L, o = .returned v ∧ Q0 h0 n0 v s₂.heap L ∧ FrameEnd s o s₂ L room_1.cells room_1.slots := by
  obtain ⟨cq1, kq1, q1a, q1b, q1c⟩ := isOf hZ e0 PE_co
  obtain ⟨_, _, ⟨T1, L1, k1, n1⟩, -, X1, ⟨Lc1, hQ1, l1, y1, z1⟩, st1⟩ := X0.virtualBack hx (y := (⟨"com/example/minos/minos/analysis/Circuit", "input", "()I"⟩ : MethodName)) (z := (⟨"com/example/minos/minos/analysis/Circuit", "input", "()I"⟩ : MethodName)) hown (mvT hZ (hw _ (List.mem_of_getElem? (i := 34) rfl))) (mvT hZ (hw _ (List.mem_of_getElem? (i := 35) rfl))) (notFace_of_selects (args := #[]) (mvT hZ (hw _ (List.mem_of_getElem? (i := 37) rfl)))) (mvT hZ (hw _ (List.mem_of_getElem? (i := 37) rfl))) (mvT hZ (hw _ (List.mem_of_getElem? (i := 36) rfl))) (by decide) (backOf (W := 0) (rm5_38 l Z a0 hw []  co F S k_F va k_S vb h0 n0 (own_n0 O0) O0 PE_co PF_co_first PF_co_second PF_co_nodes PV_F PV_S (Ne.symm ne_F_co) ne_F_S (Ne.symm ne_S_co) g_F g_S g_co) hZ (hw _ (List.mem_of_getElem? (i := 38) rfl)) (hw _ (List.mem_of_getElem? (i := 2) rfl)) (by decide) (by decide)) q1a q1c (g := (mkF m 66 #[.val (.int p1), .val (.int p2), .val (.int p3), .val (.ref co), .val (.int (2 : Int32)), .val (.int (4 : Int32)), .val (.int (1 : Int32)), .val (.int sa), .val (.int sb), .unset, .unset, .unset] [(.ref co)])) rfl (by rw [hml]; rfl) (Steps.refl _) (argsL := []) (rest := []) (lenOf pd120 rfl) rfl (by show 2 * 0 + _ ≤ _; exact Nat.le_of_eq rfl) (hb hby at_66) (fun _ _ => ⟨rfl, e0, (by decide : 8 + 0 ≤ _), (by decide : 2084 + 0 ≤ _)⟩)
  dsimp only [Pt.U, Pt.locs, Pt.cells, Pt.slots] at X1 l1 y1 z1 st1 hQ1
  subst l1 y1 z1
  obtain ⟨rfl, N1q, K1, O1, pf1_0, pf1_1, pf1_2, pf1_3, pf1_4, pf1_5, -⟩ := hQ1
  have KK1 : Keep h0 T1.heap [F, S, co] := (Keep.refl h0 [F, S, co]).trans K1 (allS (Or.inl (List.mem_of_getElem? (i := 0) rfl)) (allS (Or.inl (List.mem_of_getElem? (i := 1) rfl)) (allS (Or.inl (List.mem_of_getElem? (i := 2) rfl)) all0)))
  have N1 := Fr.app N0 N1q
  obtain ⟨cq2, kq2, q2a, q2b, q2c⟩ := isOf hZ rfl pf1_2
  obtain ⟨_, _, ⟨T2, L2, k2, n2⟩, -, X2, ⟨Lc2, hQ2, l2, y2, z2⟩, st2⟩ := X1.virtualBack hx (y := (⟨"com/example/minos/minos/analysis/Circuit", "isGate", "(I)Z"⟩ : MethodName)) (z := (⟨"com/example/minos/minos/analysis/Circuit", "isGate", "(I)Z"⟩ : MethodName)) hown (mvT hZ (hw _ (List.mem_of_getElem? (i := 167) rfl))) (mvT hZ (hw _ (List.mem_of_getElem? (i := 168) rfl))) (notFace_of_selects (args := #[]) (mvT hZ (hw _ (List.mem_of_getElem? (i := 170) rfl)))) (mvT hZ (hw _ (List.mem_of_getElem? (i := 170) rfl))) (mvT hZ (hw _ (List.mem_of_getElem? (i := 169) rfl))) (by decide) (backOf (W := 0) (rm25_55 l Z a0 hw []  co F S k_F va k_S vb T1.heap n0 (own_n0 O1) O1 pf1_2 pf1_3 pf1_4 pf1_5 pf1_0 pf1_1) hZ (hw _ (List.mem_of_getElem? (i := 171) rfl)) (hw _ (List.mem_of_getElem? (i := 2) rfl)) (by decide) (by decide)) q2a q2c (g := (mkF m 125 #[.val (.int p1), .val (.int p2), .val (.int p3), .val (.ref co), .val (.int (2 : Int32)), .val (.int (4 : Int32)), .val (.int (1 : Int32)), .val (.int sa), .val (.int sb), .val (.int (3 : Int32)), .val (.int (4 : Int32)), .val (.int (0 : Int32))] [(.int (4 : Int32)), (.ref co)])) rfl (by rw [hml]; rfl) (Steps.refl _) (argsL := [(.int (4 : Int32))]) (rest := []) (lenOf pd419 rfl) rfl (by show 2 * 0 + _ ≤ _; exact Nat.le_of_eq rfl) (hb hby at_125) (fun _ _ => ⟨rfl, rfl, (by decide : 8 + 0 ≤ _), (by decide : 2084 + 0 ≤ _)⟩)
  dsimp only [Pt.U, Pt.locs, Pt.cells, Pt.slots] at X2 l2 y2 z2 st2 hQ2
  subst l2 y2 z2
  obtain ⟨rfl, N2q, e2⟩ := hQ2
  have N2 := Fr.app N1 N2q
  obtain ⟨fs, hr, hrun, hended, hW, hsame⟩ := X2.leave (v := some (.int (1 : Int32))) (fun h => by rw [hret] at h; cases h) hlk
  refine ⟨_, _, pre0 _ ?_, hrun, hended, _, _, rfl, ?_, ⟨_, rfl⟩, hW, hsame.mono (by decide) (by decide)⟩
  · show Steps p.tables e below (T0.setTop (mkF m 64 #[.val (.int p1), .val (.int p2), .val (.int p3), .val (.ref co), .val (.int (2 : Int32)), .val (.int (4 : Int32)), .val (.int (1 : Int32)), .val (.int sa), .val (.int sb), .unset, .unset, .unset] [(.int rv)])) _
    refine XS.pop X0.here hx rfl (hb hby at_64) rfl rfl ?_
    show Steps p.tables e below (T0.setTop (mkF m 65 #[.val (.int p1), .val (.int p2), .val (.int p3), .val (.ref co), .val (.int (2 : Int32)), .val (.int (4 : Int32)), .val (.int (1 : Int32)), .val (.int sa), .val (.int sb), .unset, .unset, .unset] [])) _
    refine XS.aloadN X0.here hx rfl (hb hby at_65) rfl rfl ?_
    show Steps p.tables e below (T0.setTop (mkF m 66 #[.val (.int p1), .val (.int p2), .val (.int p3), .val (.ref co), .val (.int (2 : Int32)), .val (.int (4 : Int32)), .val (.int (1 : Int32)), .val (.int sa), .val (.int sb), .unset, .unset, .unset] [(.ref co)])) _
    refine st1.trans ?_
    show Steps p.tables e below (T1.setTop (mkF m 69 #[.val (.int p1), .val (.int p2), .val (.int p3), .val (.ref co), .val (.int (2 : Int32)), .val (.int (4 : Int32)), .val (.int (1 : Int32)), .val (.int sa), .val (.int sb), .unset, .unset, .unset] [(.int (8 : Int32))])) _
    refine XS.pop X1.here hx rfl (hb hby at_69) rfl rfl ?_
    show Steps p.tables e below (T1.setTop (mkF m 70 #[.val (.int p1), .val (.int p2), .val (.int p3), .val (.ref co), .val (.int (2 : Int32)), .val (.int (4 : Int32)), .val (.int (1 : Int32)), .val (.int sa), .val (.int sb), .unset, .unset, .unset] [])) _
    refine XS.iconst X1.here hx rfl (hb hby at_70) ?_
    show Steps p.tables e below (T1.setTop (mkF m 71 #[.val (.int p1), .val (.int p2), .val (.int p3), .val (.ref co), .val (.int (2 : Int32)), .val (.int (4 : Int32)), .val (.int (1 : Int32)), .val (.int sa), .val (.int sb), .unset, .unset, .unset] [(.int (3 : Int32))])) _
    refine XS.istore X1.here hx rfl (hb hby at_71) rfl (l' := #[.val (.int p1), .val (.int p2), .val (.int p3), .val (.ref co), .val (.int (2 : Int32)), .val (.int (4 : Int32)), .val (.int (1 : Int32)), .val (.int sa), .val (.int sb), .val (.int (3 : Int32)), .unset, .unset]) rfl ?_
    show Steps p.tables e below (T1.setTop (mkF m 73 #[.val (.int p1), .val (.int p2), .val (.int p3), .val (.ref co), .val (.int (2 : Int32)), .val (.int (4 : Int32)), .val (.int (1 : Int32)), .val (.int sa), .val (.int sb), .val (.int (3 : Int32)), .unset, .unset] [])) _
    refine XS.goto X1.here hx rfl (pc0 := 73) (pc' := 100) rfl (hb hby at_73) (by decide) (by decide) ?_
    show Steps p.tables e below (T1.setTop (mkF m 100 #[.val (.int p1), .val (.int p2), .val (.int p3), .val (.ref co), .val (.int (2 : Int32)), .val (.int (4 : Int32)), .val (.int (1 : Int32)), .val (.int sa), .val (.int sb), .val (.int (3 : Int32)), .unset, .unset] [])) _
    refine XS.iloadN X1.here hx rfl (hb hby at_100) rfl ?_
    show Steps p.tables e below (T1.setTop (mkF m 101 #[.val (.int p1), .val (.int p2), .val (.int p3), .val (.ref co), .val (.int (2 : Int32)), .val (.int (4 : Int32)), .val (.int (1 : Int32)), .val (.int sa), .val (.int sb), .val (.int (3 : Int32)), .unset, .unset] [(.int p1)])) _
    refine X1.ldcInt hx hown (mvT hZ (hw _ (List.mem_of_getElem? (i := 166) rfl))) (g := (mkF m 101 #[.val (.int p1), .val (.int p2), .val (.int p3), .val (.ref co), .val (.int (2 : Int32)), .val (.int (4 : Int32)), .val (.int (1 : Int32)), .val (.int sa), .val (.int sb), .val (.int (3 : Int32)), .unset, .unset] [(.int p1)])) rfl (hb hby at_101) _ ?_
    show Steps p.tables e below (T1.setTop (mkF m 103 #[.val (.int p1), .val (.int p2), .val (.int p3), .val (.ref co), .val (.int (2 : Int32)), .val (.int (4 : Int32)), .val (.int (1 : Int32)), .val (.int sa), .val (.int sb), .val (.int (3 : Int32)), .unset, .unset] [(.int (2147483647 : Int32)), (.int p1)])) _
    refine XS.iand X1.here hx rfl (hb hby at_103) rfl ?_
    show Steps p.tables e below (T1.setTop (mkF m 104 #[.val (.int p1), .val (.int p2), .val (.int p3), .val (.ref co), .val (.int (2 : Int32)), .val (.int (4 : Int32)), .val (.int (1 : Int32)), .val (.int sa), .val (.int sb), .val (.int (3 : Int32)), .unset, .unset] [(.int (p1 &&& (2147483647 : Int32)))])) _
    refine XS.iconst X1.here hx rfl (hb hby at_104) ?_
    show Steps p.tables e below (T1.setTop (mkF m 105 #[.val (.int p1), .val (.int p2), .val (.int p3), .val (.ref co), .val (.int (2 : Int32)), .val (.int (4 : Int32)), .val (.int (1 : Int32)), .val (.int sa), .val (.int sb), .val (.int (3 : Int32)), .unset, .unset] [(.int (5 : Int32)), (.int (p1 &&& (2147483647 : Int32)))])) _
    refine iremM X1 hx rfl (hb hby at_105) rfl (by decide) ?_
    rw [hk]
    show Steps p.tables e below (T1.setTop (mkF m 106 #[.val (.int p1), .val (.int p2), .val (.int p3), .val (.ref co), .val (.int (2 : Int32)), .val (.int (4 : Int32)), .val (.int (1 : Int32)), .val (.int sa), .val (.int sb), .val (.int (3 : Int32)), .unset, .unset] [(.int (4 : Int32))])) _
    refine XS.istore X1.here hx rfl (hb hby at_106) rfl (l' := #[.val (.int p1), .val (.int p2), .val (.int p3), .val (.ref co), .val (.int (2 : Int32)), .val (.int (4 : Int32)), .val (.int (1 : Int32)), .val (.int sa), .val (.int sb), .val (.int (3 : Int32)), .val (.int (4 : Int32)), .unset]) rfl ?_
    show Steps p.tables e below (T1.setTop (mkF m 108 #[.val (.int p1), .val (.int p2), .val (.int p3), .val (.ref co), .val (.int (2 : Int32)), .val (.int (4 : Int32)), .val (.int (1 : Int32)), .val (.int sa), .val (.int sb), .val (.int (3 : Int32)), .val (.int (4 : Int32)), .unset] [])) _
    refine XS.iload X1.here hx rfl (hb hby at_108) rfl ?_
    show Steps p.tables e below (T1.setTop (mkF m 110 #[.val (.int p1), .val (.int p2), .val (.int p3), .val (.ref co), .val (.int (2 : Int32)), .val (.int (4 : Int32)), .val (.int (1 : Int32)), .val (.int sa), .val (.int sb), .val (.int (3 : Int32)), .val (.int (4 : Int32)), .unset] [(.int (4 : Int32))])) _
    refine XS.iload X1.here hx rfl (hb hby at_110) rfl ?_
    show Steps p.tables e below (T1.setTop (mkF m 112 #[.val (.int p1), .val (.int p2), .val (.int p3), .val (.ref co), .val (.int (2 : Int32)), .val (.int (4 : Int32)), .val (.int (1 : Int32)), .val (.int sa), .val (.int sb), .val (.int (3 : Int32)), .val (.int (4 : Int32)), .unset] [(.int (3 : Int32)), (.int (4 : Int32))])) _
    refine XS.icmpYes X1.here hx rfl (pc0 := 112) (pc' := 119) rfl (hb hby at_112) rfl (feq (by decide : ¬ ((4 : Int32) = (3 : Int32)))).2 (by decide) (by decide) ?_
    show Steps p.tables e below (T1.setTop (mkF m 119 #[.val (.int p1), .val (.int p2), .val (.int p3), .val (.ref co), .val (.int (2 : Int32)), .val (.int (4 : Int32)), .val (.int (1 : Int32)), .val (.int sa), .val (.int sb), .val (.int (3 : Int32)), .val (.int (4 : Int32)), .unset] [])) _
    refine XS.iconst X1.here hx rfl (hb hby at_119) ?_
    show Steps p.tables e below (T1.setTop (mkF m 120 #[.val (.int p1), .val (.int p2), .val (.int p3), .val (.ref co), .val (.int (2 : Int32)), .val (.int (4 : Int32)), .val (.int (1 : Int32)), .val (.int sa), .val (.int sb), .val (.int (3 : Int32)), .val (.int (4 : Int32)), .unset] [(.int (0 : Int32))])) _
    refine XS.istore X1.here hx rfl (hb hby at_120) rfl (l' := #[.val (.int p1), .val (.int p2), .val (.int p3), .val (.ref co), .val (.int (2 : Int32)), .val (.int (4 : Int32)), .val (.int (1 : Int32)), .val (.int sa), .val (.int sb), .val (.int (3 : Int32)), .val (.int (4 : Int32)), .val (.int (0 : Int32))]) rfl ?_
    show Steps p.tables e below (T1.setTop (mkF m 122 #[.val (.int p1), .val (.int p2), .val (.int p3), .val (.ref co), .val (.int (2 : Int32)), .val (.int (4 : Int32)), .val (.int (1 : Int32)), .val (.int sa), .val (.int sb), .val (.int (3 : Int32)), .val (.int (4 : Int32)), .val (.int (0 : Int32))] [])) _
    refine XS.aloadN X1.here hx rfl (hb hby at_122) rfl rfl ?_
    show Steps p.tables e below (T1.setTop (mkF m 123 #[.val (.int p1), .val (.int p2), .val (.int p3), .val (.ref co), .val (.int (2 : Int32)), .val (.int (4 : Int32)), .val (.int (1 : Int32)), .val (.int sa), .val (.int sb), .val (.int (3 : Int32)), .val (.int (4 : Int32)), .val (.int (0 : Int32))] [(.ref co)])) _
    refine XS.iload X1.here hx rfl (hb hby at_123) rfl ?_
    show Steps p.tables e below (T1.setTop (mkF m 125 #[.val (.int p1), .val (.int p2), .val (.int p3), .val (.ref co), .val (.int (2 : Int32)), .val (.int (4 : Int32)), .val (.int (1 : Int32)), .val (.int sa), .val (.int sb), .val (.int (3 : Int32)), .val (.int (4 : Int32)), .val (.int (0 : Int32))] [(.int (4 : Int32)), (.ref co)])) _
    refine st2.trans ?_
    show Steps p.tables e below (T2.setTop (mkF m 128 #[.val (.int p1), .val (.int p2), .val (.int p3), .val (.ref co), .val (.int (2 : Int32)), .val (.int (4 : Int32)), .val (.int (1 : Int32)), .val (.int sa), .val (.int sb), .val (.int (3 : Int32)), .val (.int (4 : Int32)), .val (.int (0 : Int32))] [(.int (0 : Int32))])) _
    refine XS.iload X2.here hx rfl (hb hby at_128) rfl ?_
    show Steps p.tables e below (T2.setTop (mkF m 130 #[.val (.int p1), .val (.int p2), .val (.int p3), .val (.ref co), .val (.int (2 : Int32)), .val (.int (4 : Int32)), .val (.int (1 : Int32)), .val (.int sa), .val (.int sb), .val (.int (3 : Int32)), .val (.int (4 : Int32)), .val (.int (0 : Int32))] [(.int (0 : Int32)), (.int (0 : Int32))])) _
    refine XS.icmpNo X2.here hx rfl (hb hby at_130) rfl (teq (by decide : (0 : Int32) = (0 : Int32))).2 ?_
    show Steps p.tables e below (T2.setTop (mkF m 133 #[.val (.int p1), .val (.int p2), .val (.int p3), .val (.ref co), .val (.int (2 : Int32)), .val (.int (4 : Int32)), .val (.int (1 : Int32)), .val (.int sa), .val (.int sb), .val (.int (3 : Int32)), .val (.int (4 : Int32)), .val (.int (0 : Int32))] [])) _
    refine XS.iconst X2.here hx rfl (hb hby at_133) ?_
    show Steps p.tables e below (T2.setTop (mkF m 134 #[.val (.int p1), .val (.int p2), .val (.int p3), .val (.ref co), .val (.int (2 : Int32)), .val (.int (4 : Int32)), .val (.int (1 : Int32)), .val (.int sa), .val (.int sb), .val (.int (3 : Int32)), .val (.int (4 : Int32)), .val (.int (0 : Int32))] [(.int (1 : Int32))])) _
    refine XS.goto X2.here hx rfl (pc0 := 134) (pc' := 138) rfl (hb hby at_134) (by decide) (by decide) ?_
    show Steps p.tables e below (T2.setTop (mkF m 138 #[.val (.int p1), .val (.int p2), .val (.int p3), .val (.ref co), .val (.int (2 : Int32)), .val (.int (4 : Int32)), .val (.int (1 : Int32)), .val (.int sa), .val (.int sb), .val (.int (3 : Int32)), .val (.int (4 : Int32)), .val (.int (0 : Int32))] [(.int (1 : Int32))])) _
    exact retN X2 hx (t := .boolean) hret (by simp) (hb hby at_138) hr
  · exact ⟨rfl, N2⟩
def Q25_57 (Z : State) (ob0 : Addr) (ob1 : Addr) (ob2 : Addr) (k_ob1 : ClassId) (q0 : Int32) (k_ob2 : ClassId) (q1 : Int32) (h0 : Heap) (n0 : Nat) (v : Option Value) (h : Heap) (L : List Loc) : Prop := v = some (.int (1 : Int32)) ∧ Fr n0 L ∧ h = h0
set_option maxRecDepth 65536 in
set_option maxHeartbeats 40000000 in
theorem rm25_57 (l : Launch) (Z : State) (a0 : Array Value) (hw : ∀ d ∈ tables_1, d.before a0 Z = true) (ws : List Jvm.Cond) (ob0 : Addr) (ob1 : Addr) (ob2 : Addr) (k_ob1 : ClassId) (q0 : Int32) (k_ob2 : ClassId) (q1 : Int32) (h0 : Heap) (n0 : Nat) (Z0 : n0 ≤ h0.size) (O0 : Old Z n0 h0) (PE_ob0 : Exa Z h0 ob0 "com/example/minos/minos/analysis/Circuit") (PF_ob0_first : Fld Z h0 ob0 "com/example/minos/minos/analysis/Circuit" "first" "[I" (.ref ob1)) (PF_ob0_second : Fld Z h0 ob0 "com/example/minos/minos/analysis/Circuit" "second" "[I" (.ref ob2)) (PF_ob0_nodes : Fld Z h0 ob0 "com/example/minos/minos/analysis/Circuit" "nodes" "I" (.int (5 : Int32))) (PV_ob1 : Arv Z h0 ob1 k_ob1 .int (1024 : Int32) [(.int (0 : Int32)), (.int (-1 : Int32)), (.int (-1 : Int32)), (.int (-1 : Int32)), (.int q0), (.int (0 : Int32))] (.int (0 : Int32))) (PV_ob2 : Arv Z h0 ob2 k_ob2 .int (1024 : Int32) [(.int (0 : Int32)), (.int (-1 : Int32)), (.int (-1 : Int32)), (.int (-1 : Int32)), (.int q1), (.int (0 : Int32))] (.int (0 : Int32))) (hd0 : ¬ (q0 = (-1 : Int32))) :
    MetFree l (⟨"com/example/minos/minos/analysis/Circuit", "isGate", "(I)Z"⟩ : MethodName) (head1 (Jvm.Cond.code (⟨"com/example/minos/minos/analysis/Circuit", "isGate", "(I)Z"⟩ : MethodName) prog_12_method_11_code 2 (some .boolean) :: ws) ({ frames := 0, cells := 0, slots := 0, locals := 0 } : Room)) (fun a U => a = #[(.ref ob0), (.int (4 : Int32))] ∧ Z.Warmed39 U.vm ∧ U.heap = h0) (fun _ _ _ _ _ => True) (fun _ U o U' => ∃ v L, o = .returned v ∧ Q25_57 Z  ob0 ob1 ob2 k_ob1 q0 k_ob2 q1 h0 n0 v U'.heap L ∧ FrameEnd U o U' L ({ frames := 0, cells := 0, slots := 0, locals := 0 } : Room).cells ({ frames := 0, cells := 0, slots := 0, locals := 0 } : Room).slots) := by
  refine MetFree.of_bodySF (plainFor_of_name pn37) hisR ?_
  intro p e s m args below meth c s₁ Bd hml0 hP hK
  obtain ⟨rfl, hZ, hh⟩ := hP
  have hx := Bd.exec
  have hby := Bd.bytes
  have hml : c.maxLocals = 2 := hml0
  have hown : s.vm.findClass "com/example/minos/minos/analysis/Circuit" = some m.cls := findClass_of_methodNamed Bd.named
  have hnm := (name_of_methodNamed Bd.named Bd.method).1
  have X0 : Stand p l e ({ frames := 0, cells := 0, slots := 0, locals := 0 } : Room) s m #[(.ref ob0), (.int (4 : Int32))] below meth c s₁ [] 0 0 := Stand.of_body Bd
  have e0 : s₁.heap = h0 := by rw [← hh, Bd.state]; rfl
  have N0 := Fr.nil n0
  have pre0 : ∀ t, Steps p.tables e below (s₁.setTop (mkF m 0 #[.val (.ref ob0), .val (.int (4 : Int32))] [])) t → Steps p.tables e below (s₁.setTop (entryFrame m #[(.ref ob0), (.int (4 : Int32))] 2)) t := fun t k => castTop (ef418 m ob0 (4 : Int32)) k
  obtain ⟨T1, X1, e1, st1⟩ := getF X0 hx hZ hown (host := "") (Or.inl (hw _ (List.mem_of_getElem? (i := 10) rfl))) Via.refl e0 PF_ob0_first (g := (mkF m 5 #[.val (.ref ob0), .val (.int (4 : Int32))] [(.ref ob0)])) rfl rfl (hb hby d25_5)
  obtain ⟨ac2, aA2, aq2, aS2, aN2, aH2, aG2⟩ := id PV_ob1
  obtain ⟨fs, hr, hrun, hended, hW, hsame⟩ := X1.leave (v := some (.int (1 : Int32))) (fun h => by rw [Bd.returns] at h; cases h)
  refine ⟨_, _, pre0 _ ?_, hrun, hended, _, _, rfl, ?_, ⟨_, rfl⟩, hW, hsame.mono (by decide) (by decide)⟩
  · show Steps p.tables e below (s₁.setTop (mkF m 0 #[.val (.ref ob0), .val (.int (4 : Int32))] [])) _
    refine XS.iloadN X0.here hx rfl (hb hby d25_0) rfl ?_
    show Steps p.tables e below (s₁.setTop (mkF m 1 #[.val (.ref ob0), .val (.int (4 : Int32))] [(.int (4 : Int32))])) _
    refine XS.ifNo X0.here hx rfl (hb hby d25_1) rfl ((if0 _ _).trans (tlt (by decide : (0 : Int32) < (4 : Int32))).2.2.2) ?_
    show Steps p.tables e below (s₁.setTop (mkF m 4 #[.val (.ref ob0), .val (.int (4 : Int32))] [])) _
    refine XS.aloadN X0.here hx rfl (hb hby d25_4) rfl rfl ?_
    show Steps p.tables e below (s₁.setTop (mkF m 5 #[.val (.ref ob0), .val (.int (4 : Int32))] [(.ref ob0)])) _
    refine st1 _ ?_
    show Steps p.tables e below (T1.setTop (mkF m 8 #[.val (.ref ob0), .val (.int (4 : Int32))] [(.ref ob1)])) _
    refine XS.iloadN X1.here hx rfl (hb hby d25_8) rfl ?_
    show Steps p.tables e below (T1.setTop (mkF m 9 #[.val (.ref ob0), .val (.int (4 : Int32))] [(.int (4 : Int32)), (.ref ob1)])) _
    refine X1.iaload hx (j := (4 : Int32)) (v := (.int q0)) (by rw [e1]; exact aA2.1) (State.isArrayOf_alike hZ.alike aA2.2.1) aA2.2.2 (inb_of aS2 ⟨by decide, by decide⟩) (aH2.at (inb_of aS2 ⟨by decide, by decide⟩) rfl) (g := (mkF m 9 #[.val (.ref ob0), .val (.int (4 : Int32))] [(.int (4 : Int32)), (.ref ob1)])) rfl rfl (hb hby d25_9) _ ?_
    show Steps p.tables e below (T1.setTop (mkF m 10 #[.val (.ref ob0), .val (.int (4 : Int32))] [(.int q0)])) _
    refine XS.iconst X1.here hx rfl (hb hby d25_10) ?_
    show Steps p.tables e below (T1.setTop (mkF m 11 #[.val (.ref ob0), .val (.int (4 : Int32))] [(.int (-1 : Int32)), (.int q0)])) _
    refine XS.icmpNo X1.here hx rfl (hb hby d25_11) rfl (feq hd0).1 ?_
    show Steps p.tables e below (T1.setTop (mkF m 14 #[.val (.ref ob0), .val (.int (4 : Int32))] [])) _
    refine XS.iconst X1.here hx rfl (hb hby d25_14) ?_
    show Steps p.tables e below (T1.setTop (mkF m 15 #[.val (.ref ob0), .val (.int (4 : Int32))] [(.int (1 : Int32))])) _
    refine XS.goto X1.here hx rfl (pc0 := 15) (pc' := 19) rfl (hb hby d25_15) (by decide) (by decide) ?_
    show Steps p.tables e below (T1.setTop (mkF m 19 #[.val (.ref ob0), .val (.int (4 : Int32))] [(.int (1 : Int32))])) _
    exact retN X1 hx (t := .boolean) Bd.returns (by simp) (hb hby d25_19) hr
  · exact ⟨rfl, N0, e1⟩
set_option maxRecDepth 65536 in
set_option maxHeartbeats 40000000 in
theorem lT04 {p : Program} {l : Launch} {e : Env} {s : State} {m : MethodId} {args : Array Value} {below : List Frame} {meth : Method} {c : Code} {T0 : State} {locs : List Loc} {Z : State} {a0 : Array Value} {h0 : Heap} {n0 : Nat} (p1 : Int32) (p2 : Int32) (p3 : Int32) (co : Addr) (sa : Int32) (sb : Int32) (rv : Int32) (F : Addr) (S : Addr) (k_F : ClassId) (va : Int32) (k_S : ClassId) (vb : Int32)
    (X0 : Stand p l e room_1 s m args below meth c T0 locs 8 2084) (hx : p.tables.exec = Jvm.exec) (hZ : Z.Warmed39 s.vm) (hw : ∀ d ∈ tables_1, d.before a0 Z = true) (hby : c.code = code) (hml : c.maxLocals = 12) (hown : s.vm.findClass "com/example/minos/minos/analysis/CircuitIsGatePinLaw" = some m.cls) (e0 : T0.heap = h0) (N0 : Fr n0 locs) (O0 : Old Z n0 h0) (hk : ((p1 &&& (2147483647 : Int32)) % (5 : Int32)) = (4 : Int32)) (PE_co : Exa Z h0 co "com/example/minos/minos/analysis/Circuit") (PF_co_first : Fld Z h0 co "com/example/minos/minos/analysis/Circuit" "first" "[I" (.ref F)) (PF_co_second : Fld Z h0 co "com/example/minos/minos/analysis/Circuit" "second" "[I" (.ref S)) (PF_co_nodes : Fld Z h0 co "com/example/minos/minos/analysis/Circuit" "nodes" "I" (.int (5 : Int32))) (PV_F : Arv Z h0 F k_F .int (1024 : Int32) [(.int (0 : Int32)), (.int (-1 : Int32)), (.int (-1 : Int32)), (.int (-1 : Int32)), (.int va), (.int (0 : Int32))] (.int (0 : Int32))) (PV_S : Arv Z h0 S k_S .int (1024 : Int32) [(.int (0 : Int32)), (.int (-1 : Int32)), (.int (-1 : Int32)), (.int (-1 : Int32)), (.int vb), (.int (0 : Int32))] (.int (0 : Int32))) (hd0 : ¬ (va = (-1 : Int32))) (hret : meth.sig.returnType = some .boolean) (hlk : meth.locks = false) {entry : State} (pre0 : ∀ t, Steps p.tables e below (T0.setTop (mkF m 96 #[.val (.int p1), .val (.int p2), .val (.int p3), .val (.ref co), .val (.int (2 : Int32)), .val (.int (4 : Int32)), .val (.int (0 : Int32)), .val (.int sa), .val (.int sb), .unset, .val (.int (6 : Int32)), .unset] [(.int rv)])) t → Steps p.tables e below entry t) :
    ∃ s₂ o, Steps p.tables e below entry s₂ ∧ s₂.status = .running ∧ Ended s₂ below o ∧ ∃ v L, o = .returned v ∧ Q0 h0 n0 v s₂.heap L ∧ FrameEnd s o s₂ L room_1.cells room_1.slots := by
  obtain ⟨cq1, kq1, q1a, q1b, q1c⟩ := isOf hZ e0 PE_co
  obtain ⟨_, _, ⟨T1, L1, k1, n1⟩, -, X1, ⟨Lc1, hQ1, l1, y1, z1⟩, st1⟩ := X0.virtualBack hx (y := (⟨"com/example/minos/minos/analysis/Circuit", "isGate", "(I)Z"⟩ : MethodName)) (z := (⟨"com/example/minos/minos/analysis/Circuit", "isGate", "(I)Z"⟩ : MethodName)) hown (mvT hZ (hw _ (List.mem_of_getElem? (i := 167) rfl))) (mvT hZ (hw _ (List.mem_of_getElem? (i := 168) rfl))) (notFace_of_selects (args := #[]) (mvT hZ (hw _ (List.mem_of_getElem? (i := 170) rfl)))) (mvT hZ (hw _ (List.mem_of_getElem? (i := 170) rfl))) (mvT hZ (hw _ (List.mem_of_getElem? (i := 169) rfl))) (by decide) (backOf (W := 0) (rm25_57 l Z a0 hw []  co F S k_F va k_S vb h0 n0 (own_n0 O0) O0 PE_co PF_co_first PF_co_second PF_co_nodes PV_F PV_S hd0) hZ (hw _ (List.mem_of_getElem? (i := 171) rfl)) (hw _ (List.mem_of_getElem? (i := 2) rfl)) (by decide) (by decide)) q1a q1c (g := (mkF m 125 #[.val (.int p1), .val (.int p2), .val (.int p3), .val (.ref co), .val (.int (2 : Int32)), .val (.int (4 : Int32)), .val (.int (0 : Int32)), .val (.int sa), .val (.int sb), .val (.int (4 : Int32)), .val (.int (4 : Int32)), .val (.int (1 : Int32))] [(.int (4 : Int32)), (.ref co)])) rfl (by rw [hml]; rfl) (Steps.refl _) (argsL := [(.int (4 : Int32))]) (rest := []) (lenOf pd419 rfl) rfl (by show 2 * 0 + _ ≤ _; exact Nat.le_of_eq rfl) (hb hby at_125) (fun _ _ => ⟨rfl, e0, (by decide : 8 + 0 ≤ _), (by decide : 2084 + 0 ≤ _)⟩)
  dsimp only [Pt.U, Pt.locs, Pt.cells, Pt.slots] at X1 l1 y1 z1 st1 hQ1
  subst l1 y1 z1
  obtain ⟨rfl, N1q, e1⟩ := hQ1
  have N1 := Fr.app N0 N1q
  obtain ⟨fs, hr, hrun, hended, hW, hsame⟩ := X1.leave (v := some (.int (1 : Int32))) (fun h => by rw [hret] at h; cases h) hlk
  refine ⟨_, _, pre0 _ ?_, hrun, hended, _, _, rfl, ?_, ⟨_, rfl⟩, hW, hsame.mono (by decide) (by decide)⟩
  · show Steps p.tables e below (T0.setTop (mkF m 96 #[.val (.int p1), .val (.int p2), .val (.int p3), .val (.ref co), .val (.int (2 : Int32)), .val (.int (4 : Int32)), .val (.int (0 : Int32)), .val (.int sa), .val (.int sb), .unset, .val (.int (6 : Int32)), .unset] [(.int rv)])) _
    refine XS.pop X0.here hx rfl (hb hby at_96) rfl rfl ?_
    show Steps p.tables e below (T0.setTop (mkF m 97 #[.val (.int p1), .val (.int p2), .val (.int p3), .val (.ref co), .val (.int (2 : Int32)), .val (.int (4 : Int32)), .val (.int (0 : Int32)), .val (.int sa), .val (.int sb), .unset, .val (.int (6 : Int32)), .unset] [])) _
    refine XS.iconst X0.here hx rfl (hb hby at_97) ?_
    show Steps p.tables e below (T0.setTop (mkF m 98 #[.val (.int p1), .val (.int p2), .val (.int p3), .val (.ref co), .val (.int (2 : Int32)), .val (.int (4 : Int32)), .val (.int (0 : Int32)), .val (.int sa), .val (.int sb), .unset, .val (.int (6 : Int32)), .unset] [(.int (4 : Int32))])) _
    refine XS.istore X0.here hx rfl (hb hby at_98) rfl (l' := #[.val (.int p1), .val (.int p2), .val (.int p3), .val (.ref co), .val (.int (2 : Int32)), .val (.int (4 : Int32)), .val (.int (0 : Int32)), .val (.int sa), .val (.int sb), .val (.int (4 : Int32)), .val (.int (6 : Int32)), .unset]) rfl ?_
    show Steps p.tables e below (T0.setTop (mkF m 100 #[.val (.int p1), .val (.int p2), .val (.int p3), .val (.ref co), .val (.int (2 : Int32)), .val (.int (4 : Int32)), .val (.int (0 : Int32)), .val (.int sa), .val (.int sb), .val (.int (4 : Int32)), .val (.int (6 : Int32)), .unset] [])) _
    refine XS.iloadN X0.here hx rfl (hb hby at_100) rfl ?_
    show Steps p.tables e below (T0.setTop (mkF m 101 #[.val (.int p1), .val (.int p2), .val (.int p3), .val (.ref co), .val (.int (2 : Int32)), .val (.int (4 : Int32)), .val (.int (0 : Int32)), .val (.int sa), .val (.int sb), .val (.int (4 : Int32)), .val (.int (6 : Int32)), .unset] [(.int p1)])) _
    refine X0.ldcInt hx hown (mvT hZ (hw _ (List.mem_of_getElem? (i := 166) rfl))) (g := (mkF m 101 #[.val (.int p1), .val (.int p2), .val (.int p3), .val (.ref co), .val (.int (2 : Int32)), .val (.int (4 : Int32)), .val (.int (0 : Int32)), .val (.int sa), .val (.int sb), .val (.int (4 : Int32)), .val (.int (6 : Int32)), .unset] [(.int p1)])) rfl (hb hby at_101) _ ?_
    show Steps p.tables e below (T0.setTop (mkF m 103 #[.val (.int p1), .val (.int p2), .val (.int p3), .val (.ref co), .val (.int (2 : Int32)), .val (.int (4 : Int32)), .val (.int (0 : Int32)), .val (.int sa), .val (.int sb), .val (.int (4 : Int32)), .val (.int (6 : Int32)), .unset] [(.int (2147483647 : Int32)), (.int p1)])) _
    refine XS.iand X0.here hx rfl (hb hby at_103) rfl ?_
    show Steps p.tables e below (T0.setTop (mkF m 104 #[.val (.int p1), .val (.int p2), .val (.int p3), .val (.ref co), .val (.int (2 : Int32)), .val (.int (4 : Int32)), .val (.int (0 : Int32)), .val (.int sa), .val (.int sb), .val (.int (4 : Int32)), .val (.int (6 : Int32)), .unset] [(.int (p1 &&& (2147483647 : Int32)))])) _
    refine XS.iconst X0.here hx rfl (hb hby at_104) ?_
    show Steps p.tables e below (T0.setTop (mkF m 105 #[.val (.int p1), .val (.int p2), .val (.int p3), .val (.ref co), .val (.int (2 : Int32)), .val (.int (4 : Int32)), .val (.int (0 : Int32)), .val (.int sa), .val (.int sb), .val (.int (4 : Int32)), .val (.int (6 : Int32)), .unset] [(.int (5 : Int32)), (.int (p1 &&& (2147483647 : Int32)))])) _
    refine iremM X0 hx rfl (hb hby at_105) rfl (by decide) ?_
    rw [hk]
    show Steps p.tables e below (T0.setTop (mkF m 106 #[.val (.int p1), .val (.int p2), .val (.int p3), .val (.ref co), .val (.int (2 : Int32)), .val (.int (4 : Int32)), .val (.int (0 : Int32)), .val (.int sa), .val (.int sb), .val (.int (4 : Int32)), .val (.int (6 : Int32)), .unset] [(.int (4 : Int32))])) _
    refine XS.istore X0.here hx rfl (hb hby at_106) rfl (l' := #[.val (.int p1), .val (.int p2), .val (.int p3), .val (.ref co), .val (.int (2 : Int32)), .val (.int (4 : Int32)), .val (.int (0 : Int32)), .val (.int sa), .val (.int sb), .val (.int (4 : Int32)), .val (.int (4 : Int32)), .unset]) rfl ?_
    show Steps p.tables e below (T0.setTop (mkF m 108 #[.val (.int p1), .val (.int p2), .val (.int p3), .val (.ref co), .val (.int (2 : Int32)), .val (.int (4 : Int32)), .val (.int (0 : Int32)), .val (.int sa), .val (.int sb), .val (.int (4 : Int32)), .val (.int (4 : Int32)), .unset] [])) _
    refine XS.iload X0.here hx rfl (hb hby at_108) rfl ?_
    show Steps p.tables e below (T0.setTop (mkF m 110 #[.val (.int p1), .val (.int p2), .val (.int p3), .val (.ref co), .val (.int (2 : Int32)), .val (.int (4 : Int32)), .val (.int (0 : Int32)), .val (.int sa), .val (.int sb), .val (.int (4 : Int32)), .val (.int (4 : Int32)), .unset] [(.int (4 : Int32))])) _
    refine XS.iload X0.here hx rfl (hb hby at_110) rfl ?_
    show Steps p.tables e below (T0.setTop (mkF m 112 #[.val (.int p1), .val (.int p2), .val (.int p3), .val (.ref co), .val (.int (2 : Int32)), .val (.int (4 : Int32)), .val (.int (0 : Int32)), .val (.int sa), .val (.int sb), .val (.int (4 : Int32)), .val (.int (4 : Int32)), .unset] [(.int (4 : Int32)), (.int (4 : Int32))])) _
    refine XS.icmpNo X0.here hx rfl (hb hby at_112) rfl (teq (by decide : (4 : Int32) = (4 : Int32))).2 ?_
    show Steps p.tables e below (T0.setTop (mkF m 115 #[.val (.int p1), .val (.int p2), .val (.int p3), .val (.ref co), .val (.int (2 : Int32)), .val (.int (4 : Int32)), .val (.int (0 : Int32)), .val (.int sa), .val (.int sb), .val (.int (4 : Int32)), .val (.int (4 : Int32)), .unset] [])) _
    refine XS.iconst X0.here hx rfl (hb hby at_115) ?_
    show Steps p.tables e below (T0.setTop (mkF m 116 #[.val (.int p1), .val (.int p2), .val (.int p3), .val (.ref co), .val (.int (2 : Int32)), .val (.int (4 : Int32)), .val (.int (0 : Int32)), .val (.int sa), .val (.int sb), .val (.int (4 : Int32)), .val (.int (4 : Int32)), .unset] [(.int (1 : Int32))])) _
    refine XS.goto X0.here hx rfl (pc0 := 116) (pc' := 120) rfl (hb hby at_116) (by decide) (by decide) ?_
    show Steps p.tables e below (T0.setTop (mkF m 120 #[.val (.int p1), .val (.int p2), .val (.int p3), .val (.ref co), .val (.int (2 : Int32)), .val (.int (4 : Int32)), .val (.int (0 : Int32)), .val (.int sa), .val (.int sb), .val (.int (4 : Int32)), .val (.int (4 : Int32)), .unset] [(.int (1 : Int32))])) _
    refine XS.istore X0.here hx rfl (hb hby at_120) rfl (l' := #[.val (.int p1), .val (.int p2), .val (.int p3), .val (.ref co), .val (.int (2 : Int32)), .val (.int (4 : Int32)), .val (.int (0 : Int32)), .val (.int sa), .val (.int sb), .val (.int (4 : Int32)), .val (.int (4 : Int32)), .val (.int (1 : Int32))]) rfl ?_
    show Steps p.tables e below (T0.setTop (mkF m 122 #[.val (.int p1), .val (.int p2), .val (.int p3), .val (.ref co), .val (.int (2 : Int32)), .val (.int (4 : Int32)), .val (.int (0 : Int32)), .val (.int sa), .val (.int sb), .val (.int (4 : Int32)), .val (.int (4 : Int32)), .val (.int (1 : Int32))] [])) _
    refine XS.aloadN X0.here hx rfl (hb hby at_122) rfl rfl ?_
    show Steps p.tables e below (T0.setTop (mkF m 123 #[.val (.int p1), .val (.int p2), .val (.int p3), .val (.ref co), .val (.int (2 : Int32)), .val (.int (4 : Int32)), .val (.int (0 : Int32)), .val (.int sa), .val (.int sb), .val (.int (4 : Int32)), .val (.int (4 : Int32)), .val (.int (1 : Int32))] [(.ref co)])) _
    refine XS.iload X0.here hx rfl (hb hby at_123) rfl ?_
    show Steps p.tables e below (T0.setTop (mkF m 125 #[.val (.int p1), .val (.int p2), .val (.int p3), .val (.ref co), .val (.int (2 : Int32)), .val (.int (4 : Int32)), .val (.int (0 : Int32)), .val (.int sa), .val (.int sb), .val (.int (4 : Int32)), .val (.int (4 : Int32)), .val (.int (1 : Int32))] [(.int (4 : Int32)), (.ref co)])) _
    refine st1.trans ?_
    show Steps p.tables e below (T1.setTop (mkF m 128 #[.val (.int p1), .val (.int p2), .val (.int p3), .val (.ref co), .val (.int (2 : Int32)), .val (.int (4 : Int32)), .val (.int (0 : Int32)), .val (.int sa), .val (.int sb), .val (.int (4 : Int32)), .val (.int (4 : Int32)), .val (.int (1 : Int32))] [(.int (1 : Int32))])) _
    refine XS.iload X1.here hx rfl (hb hby at_128) rfl ?_
    show Steps p.tables e below (T1.setTop (mkF m 130 #[.val (.int p1), .val (.int p2), .val (.int p3), .val (.ref co), .val (.int (2 : Int32)), .val (.int (4 : Int32)), .val (.int (0 : Int32)), .val (.int sa), .val (.int sb), .val (.int (4 : Int32)), .val (.int (4 : Int32)), .val (.int (1 : Int32))] [(.int (1 : Int32)), (.int (1 : Int32))])) _
    refine XS.icmpNo X1.here hx rfl (hb hby at_130) rfl (teq (by decide : (1 : Int32) = (1 : Int32))).2 ?_
    show Steps p.tables e below (T1.setTop (mkF m 133 #[.val (.int p1), .val (.int p2), .val (.int p3), .val (.ref co), .val (.int (2 : Int32)), .val (.int (4 : Int32)), .val (.int (0 : Int32)), .val (.int sa), .val (.int sb), .val (.int (4 : Int32)), .val (.int (4 : Int32)), .val (.int (1 : Int32))] [])) _
    refine XS.iconst X1.here hx rfl (hb hby at_133) ?_
    show Steps p.tables e below (T1.setTop (mkF m 134 #[.val (.int p1), .val (.int p2), .val (.int p3), .val (.ref co), .val (.int (2 : Int32)), .val (.int (4 : Int32)), .val (.int (0 : Int32)), .val (.int sa), .val (.int sb), .val (.int (4 : Int32)), .val (.int (4 : Int32)), .val (.int (1 : Int32))] [(.int (1 : Int32))])) _
    refine XS.goto X1.here hx rfl (pc0 := 134) (pc' := 138) rfl (hb hby at_134) (by decide) (by decide) ?_
    show Steps p.tables e below (T1.setTop (mkF m 138 #[.val (.int p1), .val (.int p2), .val (.int p3), .val (.ref co), .val (.int (2 : Int32)), .val (.int (4 : Int32)), .val (.int (0 : Int32)), .val (.int sa), .val (.int sb), .val (.int (4 : Int32)), .val (.int (4 : Int32)), .val (.int (1 : Int32))] [(.int (1 : Int32))])) _
    exact retN X1 hx (t := .boolean) hret (by simp) (hb hby at_138) hr
  · exact ⟨rfl, N1⟩
theorem d14_202 : decode jdk_69_method_35_code 202 = .ok (.invokeinterface 274 2, 5) := by decide +kernel
theorem d7_82 : decode prog_12_method_5_code 82 = .ok (.invokedynamic 49, 5) := by decide +kernel
theorem d7_87 : decode prog_12_method_5_code 87 = .ok (.invokeinterface 53 3, 5) := by decide +kernel
theorem pd451 : parseMethodDescriptor "(Ljava/lang/Object;Ljava/util/function/Function;)Ljava/lang/Object;" = some ⟨[(.object "java/lang/Object"), (.object "java/util/function/Function")], some (.object "java/lang/Object")⟩ := by decide +kernel
theorem pn452 : plainName "com/example/minos/minos/analysis/CircuitIsGatePinLaw" = true := by first | (simp [plainName, overriddenIn]; done) | decide +kernel
section Lam
open Jvm.LamKit
abbrev own_sh : Lambda.Shape := (Jvm.Lambda.Shape.mk "java/util/function/Function" "apply" (Jvm.ClassFile.MethodDescriptor.mk ([(Jvm.ClassFile.FieldType.object "java/lang/Object")] : List Jvm.ClassFile.FieldType) (Option.some (Jvm.ClassFile.FieldType.object "java/lang/Object"))) ([(Jvm.ClassFile.FieldType.object "com/example/minos/minos/analysis/Circuit"), Jvm.ClassFile.FieldType.int, Jvm.ClassFile.FieldType.int] : List Jvm.ClassFile.FieldType) (5 : Nat) "com/example/minos/minos/analysis/Circuit" "lambda$and$0" (Jvm.ClassFile.MethodDescriptor.mk ([Jvm.ClassFile.FieldType.int, Jvm.ClassFile.FieldType.int, (Jvm.ClassFile.FieldType.object "java/lang/Long")] : List Jvm.ClassFile.FieldType) (Option.some (Jvm.ClassFile.FieldType.object "java/lang/Integer"))) false (Jvm.ClassFile.MethodDescriptor.mk ([(Jvm.ClassFile.FieldType.object "java/lang/Long")] : List Jvm.ClassFile.FieldType) (Option.some (Jvm.ClassFile.FieldType.object "java/lang/Integer"))))
abbrev own_y : MethodName := ⟨"com/example/minos/minos/analysis/Circuit", "lambda$and$0", "(IILjava/lang/Long;)Ljava/lang/Integer;"⟩
abbrev own_xi : MethodName := ⟨"java/util/function/Function", "apply", "(Ljava/lang/Object;)Ljava/lang/Object;"⟩
def own_fw : ByteArray := ⟨#[0x2a, 0xb4, 0x00, 0x12, 0x2a, 0xb4, 0x00, 0x14, 0x2a, 0xb4, 0x00, 0x16, 0x2b, 0xc0, 0x00, 0x1a, 0xb6, 0x00, 0x20, 0xb0]⟩
theorem fw_0 : decode own_fw 0 = .ok (.aload_n 0, 1) := by decide +kernel
theorem fw_1 : decode own_fw 1 = .ok (.getfield 18, 3) := by decide +kernel
theorem fw_4 : decode own_fw 4 = .ok (.aload_n 0, 1) := by decide +kernel
theorem fw_5 : decode own_fw 5 = .ok (.getfield 20, 3) := by decide +kernel
theorem fw_8 : decode own_fw 8 = .ok (.aload_n 0, 1) := by decide +kernel
theorem fw_9 : decode own_fw 9 = .ok (.getfield 22, 3) := by decide +kernel
theorem fw_12 : decode own_fw 12 = .ok (.aload_n 1, 1) := by decide +kernel
theorem fw_13 : decode own_fw 13 = .ok (.checkcast 26, 3) := by decide +kernel
theorem fw_16 : decode own_fw 16 = .ok (.invokevirtual 32, 3) := by decide +kernel
theorem fw_19 : decode own_fw 19 = .ok (.areturn, 1) := by decide +kernel
theorem own_fwdok : fwdOK own_sh "com/example/minos/minos/analysis/Circuit" own_fw 2 (some (.object "java/lang/Object")) 32 28 = true := by decide +kernel
theorem own_cap0 : capOK own_sh "com/example/minos/minos/analysis/Circuit" 18 0 = true := by decide +kernel
theorem own_cap1 : capOK own_sh "com/example/minos/minos/analysis/Circuit" 20 1 = true := by decide +kernel
theorem own_cap2 : capOK own_sh "com/example/minos/minos/analysis/Circuit" 22 2 = true := by decide +kernel
def own_castOK (σ : Lambda.Shape) : Bool :=
  match σ.file "com/example/minos/minos/analysis/Circuit" with
  | none => false
  | some D =>
    match D.constantPool[26]? with
    | some (CpInfo.class_ n) => decide (D.constantPool.string? n = some "java/lang/Long") && decide (26 ≠ D.thisClass)
    | _ => false
theorem own_castok : own_castOK own_sh = true := by decide +kernel
theorem own_ydesc : own_y.desc = own_sh.implDesc.toString := by decide +kernel
theorem own_xidesc : own_xi.desc = own_sh.sam.toString := by decide +kernel
theorem own_made_cast {st : Setting} {vm : Vm} {d c x : ClassId} {dk : Class} {σ : Lambda.Shape} (hok : own_castOK σ = true) (hd : vm.classes[d]? = some dk) (hname : dk.name = "com/example/minos/minos/analysis/Circuit") (h : Lambda.isMade st vm d σ c = true) (hf : vm.findClass "java/lang/Long" = some x) : ∃ k : Class, vm.classes[c]? = some k ∧ k.resolved[26]? = some (some (.cls x)) := by
  obtain ⟨dk', k, ok, tk, file, cf, object, iface, toy, lay, methods, target, found, hd', hk, hfile, hcf, -, -, -, -, -, -, -, -, -, -, -, -, -, -, -, -, -, -, hres, -⟩ := Lambda.isMade_spec h
  cases hd.symm.trans hd'
  rw [hname] at hcf
  unfold own_castOK at hok
  rw [hcf] at hok
  dsimp only at hok
  split at hok
  · rename_i n hn
    simp only [Bool.and_eq_true, decide_eq_true_eq] at hok
    exact ⟨k, hk, hres 26 _ (Lambda.resolvedOf_class hn hok.2 hok.1 hf)⟩
  · cases hok
theorem own_keepR {Z : State} {vm' : Vm} (hZ : Z.Warmed39 vm') {d : ClassId} {k : Class} (hk : Z.vm.classes[d]? = some k) : ∃ k' : Class, vm'.classes[d]? = some k' ∧ k'.name = k.name ∧ k'.cf = k.cf ∧ k'.fields = k.fields ∧ k'.isInterface = k.isInterface ∧ k'.callSites = k.callSites ∧ ∀ (i : Nat) (r : Resolved), k.resolved[i]? = some (some r) → k'.resolved[i]? = some (some r) := by
  obtain ⟨k', a, b, -, c, -⟩ := hZ.2.2.2 _ _ hk
  refine ⟨k', a, by rw [b], by rw [b], by rw [b], by rw [b]; rfl, by rw [b], fun i r h => ?_⟩
  rcases c i with q | ⟨q, -⟩
  · rw [q]; exact h
  · rw [h] at q; cases q
theorem own_keepM {Z : State} {vm' : Vm} (hZ : Z.Warmed39 vm') {c i : Nat} {t : MethodId} (h : Z.vm.methodReady c i t) : vm'.methodReady c i t := by
  obtain ⟨k, hk, h⟩ := h
  obtain ⟨k', hk', -, -, -, -, -, hr⟩ := own_keepR hZ hk
  exact ⟨k', hk', hr _ _ h⟩
theorem own_keepC {Z : State} {vm' : Vm} (hZ : Z.Warmed39 vm') {c i t : Nat} (h : Z.vm.classReady c i t) : vm'.classReady c i t := by
  obtain ⟨k, hk, h⟩ := h
  obtain ⟨k', hk', -, -, -, -, -, hr⟩ := own_keepR hZ hk
  exact ⟨k', hk', hr _ _ h⟩
theorem own_keepF {Z : State} {vm' : Vm} (hZ : Z.Warmed39 vm') {c i d : Nat} {f : Field} (h : Z.vm.fieldReady c i d f) : vm'.fieldReady c i d f := by
  obtain ⟨k, j, kc, hk, h, hkc, hf⟩ := h
  obtain ⟨k', hk', -, -, -, -, -, hr⟩ := own_keepR hZ hk
  obtain ⟨kc', hkc', -, -, hfl, -, -, -⟩ := own_keepR hZ hkc
  exact ⟨k', j, kc', hk', hr _ _ h, hkc', by rw [hfl]; exact hf⟩
theorem own_pdy : parseMethodDescriptor own_y.desc = some ⟨[.int, .int, .object "java/lang/Long"], some (.object "java/lang/Integer")⟩ := by decide +kernel
theorem own_pdxi : parseMethodDescriptor own_xi.desc = some ⟨[.object "java/lang/Object"], some (.object "java/lang/Object")⟩ := by decide +kernel
theorem own_fw_at {Z : State} {vm' : Vm} {a0 : Array Value} (hZ : Z.Warmed39 vm') (hw : ∀ d ∈ tables_1, d.before a0 Z = true) {cK : ClassId} (hmd : Jvm.LamKit.Made Z "com/example/minos/minos/analysis/Circuit" own_sh cK) :
    ∃ (kK tk : Class) (file : ClassFile) (methk : Method) (ck : Code) (cL : ClassId) (t : MethodId) (methT : Method) (nt : Nat) (f0 f1 f2 : Field),
      (vm'.classes[cK]? = some kK ∧ plainName kK.name = true ∧ kK.cf = some file ∧ file.constantPool[32]? = some (.methodref 28 nt)) ∧
      (vm'.method? ⟨cK, 1⟩ = some methk ∧ methk.code = some ck ∧ ck.code = own_fw ∧ ck.maxLocals = 2 ∧ methk.locks = false ∧ methk.sig.returnType = some (.object "java/lang/Object")) ∧
      (Z.methodNamed? own_y = some t ∧ vm'.method? t = some methT ∧ methT.isStatic = false ∧ methT.isAbstract = false ∧ methT.isPrivate = true ∧ methT.sig.parameters.length = 3 ∧ vm'.classes[t.cls]? = some tk ∧ tk.isInterface = false ∧ tk.name = "com/example/minos/minos/analysis/Circuit") ∧
      (vm'.methodReady cK 32 t ∧ vm'.classReady cK 28 t.cls) ∧ (vm'.fieldReady cK 18 cK f0 ∧ f0.isStatic = false ∧ f0.slot = 0) ∧ (vm'.fieldReady cK 20 cK f1 ∧ f1.isStatic = false ∧ f1.slot = 1) ∧ (vm'.fieldReady cK 22 cK f2 ∧ f2.isStatic = false ∧ f2.slot = 2) ∧
      (vm'.classReady cK 26 cL ∧ Z.vm.findClass "java/lang/Long" = some cL) := by
  obtain ⟨d, dk, hd, hdn, hmade, -⟩ := hmd
  have hA := hZ.alike
  obtain ⟨k, tk, file, methk, ck, toy, t, nt, hk, hpn, hfile, hidx, hnt, hmk, hck, hb, hml, hlk, -, hret, htoy, htk, hlook, hready, hcls⟩ := made_static own_fwdok hd hdn hmade
  obtain ⟨mT, methT, hmT, hmethT, hst, hab⟩ := Cond.instanceMethod_spec (show (Jvm.Cond.instanceMethod own_y).before a0 Z = true from (hw _ (List.mem_of_getElem? (i := 122) rfl)))
  have hfT : Z.vm.findClass "com/example/minos/minos/analysis/Circuit" = some mT.cls := findClass_of_methodNamed hmT
  cases htoy.symm.trans hfT
  have ht : t = mT := by
    have h1 : Z.methodFound? own_y.cls own_y.name own_y.desc = some mT := State.methodFound?_of_named hmT (by decide)
    rw [own_ydesc] at h1
    have h2 : Z.methodFound? "com/example/minos/minos/analysis/Circuit" "lambda$and$0" own_sh.implDesc.toString = some mT := h1
    simp only [State.methodFound?, hfT, htk, Option.bind_eq_bind, Option.bind_some] at h2
    have h3 : ((methodIn mT.cls "lambda$and$0" own_sh.implDesc.toString tk.isInterface none).ask { classPath := fun _ => none } Z.vm).1 = .ok t := hlook
    rw [h3] at h2
    exact Option.some.inj h2
  subst ht
  have hO := noFields (show (Jvm.Cond.instantiable "java/lang/Object" 0).before a0 Z = true from (hw _ (List.mem_of_getElem? (i := 82) rfl))) (State.WarmedH.refl Z)
  obtain ⟨_, f0, -, -, -, r0, s0, l0⟩ := made_cap own_cap0 hd hdn hmade hO
  obtain ⟨_, f1, -, -, -, r1, s1, l1⟩ := made_cap own_cap1 hd hdn hmade hO
  obtain ⟨_, f2, -, -, -, r2, s2, l2⟩ := made_cap own_cap2 hd hdn hmade hO
  obtain ⟨cL, kL, hL, -⟩ := Cond.instantiable_spec (show (Jvm.Cond.instantiable "java/lang/Long" 1).before a0 Z = true from (hw _ (List.mem_of_getElem? (i := 65) rfl)))
  have hcast := own_made_cast own_castok hd hdn hmade hL
  obtain ⟨cC, kC, hC, hkC, -, hiC, -, -⟩ := Cond.instantiable_spec (show (Jvm.Cond.instantiable "com/example/minos/minos/analysis/Circuit" 4).before a0 Z = true from (hw _ (List.mem_of_getElem? (i := 1) rfl)))
  cases hfT.symm.trans hC
  cases htk.symm.trans hkC
  have hitf : tk.isInterface = false := by revert hiC; cases tk.isInterface <;> simp
  obtain ⟨_, htk2, hnm⟩ := Vm.findClass_spec hfT
  cases htk.symm.trans htk2
  obtain ⟨methT', cT, hmethT', -, -, -, -, -, -, hsigT⟩ := Cond.code_spec hmT (show (Jvm.Cond.code own_y prog_12_method_15_code 4 (some (.object "java/lang/Integer"))).before a0 Z = true from (hw _ (List.mem_of_getElem? (i := 124) rfl)))
  cases hmethT.symm.trans hmethT'
  have hsig := Option.some.inj (hsigT.symm.trans own_pdy)
  obtain ⟨kK', hkK', n1, n2, -, -, -, -⟩ := own_keepR hZ hk
  obtain ⟨tk', htk', m1, -, -, m4, -, -⟩ := own_keepR hZ htk
  exact ⟨kK', tk', file, methk, ck, cL, t, methT, nt, f0, f1, f2, ⟨hkK', by rw [n1]; exact hpn, by rw [n2]; exact hfile, hidx⟩, ⟨by rw [hA.method?]; exact hmk, hck, hb, hml, hlk, hret⟩,
    ⟨hmT, by rw [hA.method?]; exact hmethT, hst, hab, Cond.privateMethod_at (show (Jvm.Cond.privateMethod own_y).before a0 Z = true from (hw _ (List.mem_of_getElem? (i := 123) rfl))) t methT hmT hmethT, by rw [hsig]; rfl, htk', by rw [m4]; exact hitf, by rw [m1]; exact hnm⟩,
    ⟨own_keepM hZ hready, own_keepC hZ hcls⟩, ⟨own_keepF hZ r0, s0, l0⟩, ⟨own_keepF hZ r1, s1, l1⟩, ⟨own_keepF hZ r2, s2, l2⟩, ⟨own_keepC hZ hcast, hL⟩⟩
theorem own_get {p : Program} {e : Env} {U target : State} {cK : ClassId} {ck : Code} {bl : List Frame} {fi : Nat} {f : Field} (hx : p.tables.exec = Jvm.exec) (hU : At U ⟨cK, 1⟩ ck bl) (hr : U.vm.fieldReady cK fi cK f) (hs : f.isStatic = false) {a : Addr} {cell : Cell} {v : Value} (hc : U.heap[a]? = some cell) (hvm : cell.vm = .none) (hv : cell.slots[f.slot]? = some v) {g : JFrame} (hg : g.method = ⟨cK, 1⟩) {rest : List Value} (hst : g.stack = .ref a :: rest)
    (hd : decode ck.code g.pc = .ok (.getfield fi, 3)) (k : Steps p.tables e bl (U.setTop { g with pc := g.pc + 3, stack := v :: rest }) target) : Steps p.tables e bl (U.setTop g) target := by
  have hU' : At U g.method ck bl := by rw [hg]; exact hU
  jvm_step hU' [hx, hd, getfield.wp_ready (e := e) (s := U) (f := g) (c := cK) (field := f) (a := a) (rest := rest) (cell := cell) (v := v) hU.top (by rw [hg]; exact hr) hs hst hc (by rw [hvm]; decide) hv]
  exact k
theorem own_castL {p : Program} {e : Env} {U target : State} {cK : ClassId} {ck : Code} {bl : List Frame} {i cL : Nat} (hx : p.tables.exec = Jvm.exec) (hU : At U ⟨cK, 1⟩ ck bl) (hr : U.vm.classReady cK i cL) {a : Addr} {cell : Cell} {kL : Class} (hc : U.heap[a]? = some cell) (hvm : ∀ q, cell.vm ≠ .statics q) (hcl : cell.cls = cL) (hk : U.vm.classes[cL]? = some kL) (has : U.vm.assignable cL cL = true) {g : JFrame} (hg : g.method = ⟨cK, 1⟩) {rest : List Value} (hst : g.stack = .ref a :: rest)
    (hd : decode ck.code g.pc = .ok (.checkcast i, 3)) (k : Steps p.tables e bl (U.setTop { g with pc := g.pc + 3 }) target) : Steps p.tables e bl (U.setTop g) target := by
  have hU' : At U g.method ck bl := by rw [hg]; exact hU
  jvm_step hU' [hx, hd, checkcast.wp_ready (e := e) (s := U) (f := g) (c := cL) (x := .ref a) (rest := rest) hU.top (by rw [hg]; exact hr) hst]
  refine ⟨cell, hc, hvm, kL, by rw [hcl]; exact hk, kL, hk, ?_⟩
  rw [if_pos (by rw [hcl]; exact has)]
  exact k
set_option maxRecDepth 65536 in
set_option maxHeartbeats 4000000 in
theorem own_fwd {p : Program} {l : Launch} {e : Env} {R : Room} {s : State} {m : MethodId} {args : Array Value} {below : List Frame} {meth : Method} {c : Code} {T : State} {locs : List Loc} {cells slots : Nat} {Z : State} {a0 : Array Value} {h0 : Heap} {Ls : Array Slot} (X : Stand p l e R s m args below meth c T locs cells slots) (hx : p.tables.exec = Jvm.exec) (hZ : Z.Warmed39 s.vm) (hw : ∀ d ∈ tables_1, d.before a0 Z = true) (hby : c.code = jdk_69_method_35_code) (hml : c.maxLocals = 13) (hown : s.vm.findClass "java/util/HashMap" = some m.cls) (e0 : T.heap = h0) (hsz : Ls.size = 13)
    {fn ob key : Addr} {lo hi : Int32} {cK : ClassId} (hmd : Jvm.LamKit.Made Z "com/example/minos/minos/analysis/Circuit" own_sh cK) (hcf : h0[fn]? = some { cls := cK, slots := #[.ref ob, .int lo, .int hi], vm := .none }) (Ek : Exa Z h0 key "java/lang/Long") (Eo : Exa Z h0 ob "com/example/minos/minos/analysis/Circuit")
    {rm : Room} {Q : Option Value → Heap → List Loc → Prop} (M : MetFree l own_y (head1 [Jvm.Cond.code own_y prog_12_method_15_code 4 (some (.object "java/lang/Integer"))] rm) (fun a U => a = #[.ref ob, .int lo, .int hi, .ref key] ∧ Z.Warmed39 U.vm ∧ U.heap = h0) (fun _ _ _ _ _ => True) (fun _ U o U' => ∃ v L, o = .returned v ∧ Q v U'.heap L ∧ FrameEnd U o U' L rm.cells rm.slots)) (hq : ∀ v h L, Q v h L → ∃ w : Addr, v = some (.ref w))
    (hfr : rm.frames + 2 ≤ R.frames) (hlo : 13 + (15 + rm.locals) ≤ R.locals) (hce : cells + rm.cells ≤ R.cells) (hsl : slots + rm.slots ≤ R.slots) :
    ∃ (T' : State) (v : Option Value) (L : List Loc), Stand p l e R s m args below meth c T' (locs ++ L) (cells + rm.cells) (slots + rm.slots) ∧ Q v T'.heap L ∧ ∀ t, Steps p.tables e below (T'.setTop (mkF m 207 Ls (v.toList ++ []))) t → Steps p.tables e below (T.setTop (mkF m 202 Ls [.ref key, .ref fn])) t := by
  have hA := hZ.alike
  have wf : (Jvm.Cond.interfaceMethod own_xi.cls own_xi.cls own_xi.name own_xi.desc).before a0 Z = true := (hw _ (List.mem_of_getElem? (i := 121) rfl))
  obtain ⟨kF, methK, hkF, hmF, hpub, habs, hsel⟩ := madeSelects (xi := own_xi) hmd own_fwdok wf ⟨rfl, rfl, own_xidesc⟩
  obtain ⟨kF', hkF', -, -, -, -, -, -⟩ := own_keepR hZ hkF
  have wd : (Jvm.Cond.declares own_xi).before args s = true := mvT hZ (show (Jvm.Cond.declares own_xi).before a0 Z = true from (hw _ (List.mem_of_getElem? (i := 120) rfl)))
  obtain ⟨r0, r, hn, hrm, hstR, hsigR⟩ := Cond.declares_spec wd
  obtain ⟨cI, kI, r1, hcI, hkI, hiI, -, -⟩ := Cond.interfaceMethod_spec (show (Jvm.Cond.interfaceMethod own_xi.cls own_xi.cls own_xi.name own_xi.desc).before args s = true from mvT hZ wf)
  have hr0 : r0.cls = cI := Option.some.inj ((findClass_of_methodNamed hn).symm.trans hcI)
  have hnZ : Z.methodNamed? own_xi = some r0 := by
    rw [← hn, State.methodNamed?_of_vm (show s.vm = (Z.setVm s.vm).vm from rfl), State.methodNamed?_setVm hA]
  have hrmZ : Z.vm.method? r0 = some r := by rw [← hrm, hA.method?]
  obtain ⟨hasg, hsel', hway⟩ := hsel r0 r hnZ hrmZ
  have wl : (Jvm.Cond.methodLink "java/util/HashMap" 274 own_xi).before args s = true := mvT hZ (show (Jvm.Cond.methodLink "java/util/HashMap" 274 own_xi).before a0 Z = true from (hw _ (List.mem_of_getElem? (i := 119) rfl)))
  have hd0 : decode c.code 202 = .ok (.invokeinterface 274 2, 5) := hb hby d14_202
  have hasg' : s.vm.assignable cK r0.cls = true := by rw [hA.assignable]; exact hasg
  have hsel2 : selectMethod e.platform s.vm cK r0 = .method ⟨cK, 1⟩ := by rw [Launch.admits_selectMethod X.admits, hA.selectMethod]; exact hsel'
  have hmF' : s.vm.method? ⟨cK, 1⟩ = some methK := by rw [hA.method?]; exact hmF
  have hway' : ((cK :: s.vm.superclasses cK).any fun k => (declaredIn s.vm r.name r.desc k).any fun (_, y) => y.isPrivate || y.isStatic) = false := by
    simp only [hA.superclasses, hA.declaredIn]; exact hway
  obtain ⟨vm₁, X₁, hstep₁⟩ := X.invokeinterface hx hown wl hn hrm hstR (by rw [hr0]; exact hkI) hiI (by decide) (a := fn) (cell := { cls := cK, slots := #[.ref ob, .int lo, .int hi], vm := .none }) (kcell := kF') (by rw [e0]; exact hcf) (fun z h => by cases h) hkF' hasg'
    (m' := ⟨cK, 1⟩) (meth' := methK) hsel2 hmF' hway' hpub habs (g := mkF m 202 Ls [.ref key, .ref fn]) rfl (argsL := [.ref key]) (rest := []) (by rw [Option.some.inj (hsigR.symm.trans own_pdxi)]; rfl) rfl hd0
  have hW₁ : s.WarmedH vm₁ := X₁.warmed
  have hZ₁ : Z.Warmed39 vm₁ := wtrans (U := T.setVm vm₁) hZ X₁.warmed
  obtain ⟨kK, tk, file, methk, ck, cL, t, methT, nt, f0, f1, f2, ⟨hkK, hpn, hfile, hidx⟩, ⟨hmk, hck, hb', hmlk, hlk, hret⟩, ⟨hmT, hmethT, hst, hab, hpr, hpar, htk, hitf, hnmT⟩, ⟨hready, hclsR⟩, ⟨r0', s0, l0⟩, ⟨r1', s1, l1⟩, ⟨r2', s2, l2⟩, ⟨rL, hL⟩⟩ := own_fw_at hZ₁ hw hmd
  have hpk : (T.setVm vm₁).plainMethod ⟨cK, 1⟩ := State.plainMethod.of_name (fun k' hk' => by cases hkK.symm.trans hk'; exact hpn)
  obtain ⟨Y₀, hin⟩ := X₁.into (g := mkF m 202 Ls []) rfl (by rw [hml]; exact hsz) hd0 #[.ref fn, .ref key] (R' := { frames := rm.frames + 1, cells := rm.cells, slots := rm.slots, locals := 15 + rm.locals }) hmk hck hlk hpk hfr (by rw [hmlk]; show 2 * 0 + 0 + (2 + 11) + (15 + rm.locals) ≤ _; omega) hce hsl
  have hL0 : entryFrame ⟨cK, 1⟩ #[.ref fn, .ref key] 2 = mkF ⟨cK, 1⟩ 0 #[.val (.ref fn), .val (.ref key)] [] := by first | (simp [entryFrame, mkF, argsToLocals, Value.category]; done) | rfl
  rw [hmlk, hL0] at Y₀ hin
  generalize hU : ((T.setVm vm₁).setTop (mkF m 202 Ls [])).pushFrame (.java (mkF ⟨cK, 1⟩ 0 #[.val (.ref fn), .val (.ref key)] [])) = U at Y₀ hin
  have hvmU : U.vm = vm₁ := by rw [← hU]; rfl
  have hheapU : U.heap = h0 := by rw [← hU]; exact e0
  generalize hs' : (T.setVm vm₁).calling (mkF m 202 Ls []) ⟨cK, 1⟩ #[.ref fn, .ref key] = s' at Y₀
  have hvm' : s'.vm = vm₁ := by rw [← hs']; rfl
  have hZ' : Z.Warmed39 s'.vm := by rw [hvm']; exact hZ₁
  have hK := backOf (p := p) (e := e) (below := .java (mkF m 202 Ls []) :: below) (s := s') (args := #[.ref fn, .ref key]) (R := { frames := rm.frames + 1, cells := rm.cells, slots := rm.slots, locals := 15 + rm.locals }) (len := 3) (W := 0) M hZ' (show (Jvm.Cond.code own_y prog_12_method_15_code 4 (some (.object "java/lang/Integer"))).before a0 Z = true from (hw _ (List.mem_of_getElem? (i := 124) rfl))) (show (Jvm.Cond.initialized own_y.cls).before a0 Z = true from (hw _ (List.mem_of_getElem? (i := 2) rfl))) (Nat.le_refl _) (by show 0 + (4 + 11) + rm.locals ≤ 15 + rm.locals; omega)
  have hnamedU : U.methodNamed? own_y = some t := by
    rw [State.methodNamed?_of_vm (show U.vm = (Z.setVm vm₁).vm from hvmU), State.methodNamed?_setVm hZ₁.alike]; exact hmT
  obtain ⟨v, ⟨U', ls, cc, sl⟩, Y₁, ⟨L, hq1, hl, hc, hs⟩, hsteps⟩ := hK ⟨cK, 1⟩ methk ck ⟨U, [], 0, 0⟩ (mkF ⟨cK, 1⟩ 16 #[.val (.ref fn), .val (.ref key)] []) (.invokevirtual 32) t #[.ref ob, .int lo, .int hi, .ref key] Y₀ rfl (by rw [hmlk]; rfl) (by rw [hb']; exact fw_16) (by show 2 * 0 + 0 ≤ 0; omega) hnamedU ⟨rfl, hheapU, by show 0 + rm.cells ≤ rm.cells; omega, by show 0 + rm.slots ≤ rm.slots; omega⟩
  dsimp only [Pt.U, Pt.locs, Pt.cells, Pt.slots] at Y₁ hq1 hl hc hs hsteps
  subst hl; subst hc; subst hs
  obtain ⟨w, rfl⟩ := hq _ _ _ hq1
  obtain ⟨fs, hleave, -, hended, hWe, hsame⟩ := Y₁.leave (v := some (.ref w)) (fun h => by rw [hret] at h; cases h) hlk
  subst hs'
  obtain ⟨T', X', -, -, ht⟩ := X₁.outOf (g := mkF m 202 Ls []) rfl hd0 hended hWe hsame
  have hheap' : T'.heap = U'.heap := by
    have q : (U'.setFrames fs).heap = (T'.setTop _).heap := congrArg State.heap ht
    exact q.symm
  refine ⟨T', some (.ref w), ls, by simpa using X', by rw [hheap']; simpa using hq1, fun target kt => hstep₁ _ fun acts => ?_⟩
  have hin' := hin acts
  refine Steps.trans ?_ kt
  show Steps p.tables e below (doInvoke e ((T.setVm vm₁).setTop (mkF m 202 Ls [])) acts ⟨cK, 1⟩ #[.ref fn, .ref key]).1 _
  rw [hin']
  have ht' : U'.setFrames fs = T'.setTop (mkF m 207 Ls ((some (Value.ref w)).toList ++ [])) := ht
  rw [← ht']
  refine Steps.weaken (mid := [.java (mkF m 202 Ls [])]) ?_
  have hsU : U.topJava?.isSome := Y₀.here.top
  have hcU : U.heap[fn]? = some { cls := cK, slots := #[.ref ob, .int lo, .int hi], vm := .none } := by rw [hheapU]; exact hcf
  refine XS.aloadN Y₀.here hx rfl (by rw [hb']; exact fw_0) rfl rfl ?_
  refine own_get hx Y₀.here (g := mkF ⟨cK, 1⟩ 1 #[.val (.ref fn), .val (.ref key)] [.ref fn]) (v := .ref ob) (by rw [hvmU]; exact r0') s0 hcU rfl (by rw [l0]; rfl) rfl rfl (by rw [hb']; exact fw_1) ?_
  refine XS.aloadN (g := mkF ⟨cK, 1⟩ 4 #[.val (.ref fn), .val (.ref key)] [.ref ob]) Y₀.here hx rfl (by rw [hb']; exact fw_4) rfl rfl ?_
  refine own_get hx Y₀.here (g := mkF ⟨cK, 1⟩ 5 #[.val (.ref fn), .val (.ref key)] [.ref fn, .ref ob]) (v := .int lo) (by rw [hvmU]; exact r1') s1 hcU rfl (by rw [l1]; rfl) rfl rfl (by rw [hb']; exact fw_5) ?_
  refine XS.aloadN (g := mkF ⟨cK, 1⟩ 8 #[.val (.ref fn), .val (.ref key)] [.int lo, .ref ob]) Y₀.here hx rfl (by rw [hb']; exact fw_8) rfl rfl ?_
  refine own_get hx Y₀.here (g := mkF ⟨cK, 1⟩ 9 #[.val (.ref fn), .val (.ref key)] [.ref fn, .int lo, .ref ob]) (v := .int hi) (by rw [hvmU]; exact r2') s2 hcU rfl (by rw [l2]; rfl) rfl rfl (by rw [hb']; exact fw_9) ?_
  refine XS.aloadN (g := mkF ⟨cK, 1⟩ 12 #[.val (.ref fn), .val (.ref key)] [.int hi, .int lo, .ref ob]) Y₀.here hx rfl (by rw [hb']; exact fw_12) rfl rfl ?_
  obtain ⟨cellK, kk, hkc, hkf, hkk, hks, -⟩ := Ek
  cases hL.symm.trans hkf
  obtain ⟨kk', hkk', -, -, -, -, -, -⟩ := own_keepR hZ₁ hkk
  have hcas := Cond.castable_spec (show (Jvm.Cond.castable "java/lang/Long" "java/lang/Long").before a0 Z = true from (hw _ (List.mem_of_getElem? (i := 68) rfl)))
  obtain ⟨cA, cB, hcA, hcB, hcAB⟩ := hcas
  cases hkf.symm.trans hcA
  cases hkf.symm.trans hcB
  refine own_castL hx Y₀.here (g := mkF ⟨cK, 1⟩ 13 #[.val (.ref fn), .val (.ref key)] [.ref key, .int hi, .int lo, .ref ob]) (by rw [hvmU]; exact rL) (by rw [hheapU]; exact hkc) (fun q h => by rw [h] at hks; cases hks) rfl (by rw [hvmU]; exact hkk') (by rw [hvmU, hZ₁.alike.assignable]; exact hcAB) rfl rfl (by rw [hb']; exact fw_13) ?_
  obtain ⟨cellO, ko, hoc, hof, hok, hos, -⟩ := Eo
  have hselT : selectMethod e.platform U.vm cellO.cls t = .method t := selectMethod_private (by rw [hvmU]; exact hmethT) hpr
  have hsp : signaturePolymorphic tk methT = false := by simp [signaturePolymorphic, hnmT]
  have hd16 : decode ck.code 16 = .ok (.invokevirtual 32, 3) := by rw [hb']; exact fw_16
  show Steps p.tables e _ (U.setTop (mkF ⟨cK, 1⟩ 16 #[.val (.ref fn), .val (.ref key)] [.ref key, .int hi, .int lo, .ref ob])) _
  jvm_step Y₀.here [hx, hd16, invokevirtual.wp_ready (e := e) (s := U) (r := t) (m := t) (k := tk) (mk := tk) (rmeth := methT) (meth := methT) (a := ob) (args := [.int lo, .int hi, .ref key]) (rest := []) (cell := cellO)
    (f := mkF ⟨cK, 1⟩ 16 #[.val (.ref fn), .val (.ref key)] [.ref key, .int hi, .int lo, .ref ob]) hsU ⟨kK, file, 28, nt, t.cls, tk, by rw [hvmU]; exact hkK, hfile, hidx, by rw [hvmU]; exact hclsR, by rw [hvmU]; exact htk, hitf⟩ (by rw [hvmU]; exact hready) (by rw [hvmU]; exact htk) (by rw [hvmU]; exact hmethT) hsp hst hpar.symm rfl
    (by rw [hheapU]; exact hoc) (fun q h => by rw [h] at hos; cases hos) hselT (by rw [hvmU]; exact hmethT) hab (by rw [hvmU]; exact htk) hitf]
  intro acts'
  rw [doInvoke_state]
  refine hsteps.trans ?_
  have hfin := retOut Y₁ hx (pc := 19) (Ls := #[.val (.ref fn), .val (.ref key)]) hret (Or.inr (Or.inr (Or.inl ⟨_, _, rfl, rfl, rfl, rfl, rfl⟩))) (by rw [hb']; exact fw_19) hleave
  exact hfin
end Lam
theorem own_mask1 (x : Int32) : (x &&& (1 : Int32)) = (0 : Int32) ∨ (x &&& (1 : Int32)) = (1 : Int32) := by
  have e := Jvm.Kit.i32_mask x (1 : Int32) (k := 1) (by decide) (by decide)
  have h : (x &&& (1 : Int32)).toInt = 0 ∨ (x &&& (1 : Int32)).toInt = 1 := by omega
  rcases h with h | h
  · exact Or.inl (own_inj (h.trans (by decide)))
  · exact Or.inr (own_inj (h.trans (by decide)))
theorem own_mask15 (x : Int32) : (x &&& (15 : Int32)) = (0 : Int32) ∨ (x &&& (15 : Int32)) = (1 : Int32) ∨ (x &&& (15 : Int32)) = (2 : Int32) ∨ (x &&& (15 : Int32)) = (3 : Int32) ∨ (x &&& (15 : Int32)) = (4 : Int32) ∨ (x &&& (15 : Int32)) = (5 : Int32) ∨ (x &&& (15 : Int32)) = (6 : Int32) ∨ (x &&& (15 : Int32)) = (7 : Int32) ∨ (x &&& (15 : Int32)) = (8 : Int32) ∨ (x &&& (15 : Int32)) = (9 : Int32) ∨ (x &&& (15 : Int32)) = (10 : Int32) ∨ (x &&& (15 : Int32)) = (11 : Int32) ∨ (x &&& (15 : Int32)) = (12 : Int32) ∨ (x &&& (15 : Int32)) = (13 : Int32) ∨ (x &&& (15 : Int32)) = (14 : Int32) ∨ (x &&& (15 : Int32)) = (15 : Int32) := by
  have e := Jvm.Kit.i32_mask x (15 : Int32) (k := 4) (by decide) (by decide)
  have h : (x &&& (15 : Int32)).toInt = 0 ∨ (x &&& (15 : Int32)).toInt = 1 ∨ (x &&& (15 : Int32)).toInt = 2 ∨ (x &&& (15 : Int32)).toInt = 3 ∨ (x &&& (15 : Int32)).toInt = 4 ∨ (x &&& (15 : Int32)).toInt = 5 ∨ (x &&& (15 : Int32)).toInt = 6 ∨ (x &&& (15 : Int32)).toInt = 7 ∨ (x &&& (15 : Int32)).toInt = 8 ∨ (x &&& (15 : Int32)).toInt = 9 ∨ (x &&& (15 : Int32)).toInt = 10 ∨ (x &&& (15 : Int32)).toInt = 11 ∨ (x &&& (15 : Int32)).toInt = 12 ∨ (x &&& (15 : Int32)).toInt = 13 ∨ (x &&& (15 : Int32)).toInt = 14 ∨ (x &&& (15 : Int32)).toInt = 15 := by omega
  rcases h with h | h | h | h | h | h | h | h | h | h | h | h | h | h | h | h
  · exact Or.inl (own_inj (h.trans (by decide)))
  · exact Or.inr (Or.inl (own_inj (h.trans (by decide))))
  · exact Or.inr (Or.inr (Or.inl (own_inj (h.trans (by decide)))))
  · exact Or.inr (Or.inr (Or.inr (Or.inl (own_inj (h.trans (by decide))))))
  · exact Or.inr (Or.inr (Or.inr (Or.inr (Or.inl (own_inj (h.trans (by decide)))))))
  · exact Or.inr (Or.inr (Or.inr (Or.inr (Or.inr (Or.inl (own_inj (h.trans (by decide))))))))
  · exact Or.inr (Or.inr (Or.inr (Or.inr (Or.inr (Or.inr (Or.inl (own_inj (h.trans (by decide)))))))))
  · exact Or.inr (Or.inr (Or.inr (Or.inr (Or.inr (Or.inr (Or.inr (Or.inl (own_inj (h.trans (by decide))))))))))
  · exact Or.inr (Or.inr (Or.inr (Or.inr (Or.inr (Or.inr (Or.inr (Or.inr (Or.inl (own_inj (h.trans (by decide)))))))))))
  · exact Or.inr (Or.inr (Or.inr (Or.inr (Or.inr (Or.inr (Or.inr (Or.inr (Or.inr (Or.inl (own_inj (h.trans (by decide))))))))))))
  · exact Or.inr (Or.inr (Or.inr (Or.inr (Or.inr (Or.inr (Or.inr (Or.inr (Or.inr (Or.inr (Or.inl (own_inj (h.trans (by decide)))))))))))))
  · exact Or.inr (Or.inr (Or.inr (Or.inr (Or.inr (Or.inr (Or.inr (Or.inr (Or.inr (Or.inr (Or.inr (Or.inl (own_inj (h.trans (by decide))))))))))))))
  · exact Or.inr (Or.inr (Or.inr (Or.inr (Or.inr (Or.inr (Or.inr (Or.inr (Or.inr (Or.inr (Or.inr (Or.inr (Or.inl (own_inj (h.trans (by decide)))))))))))))))
  · exact Or.inr (Or.inr (Or.inr (Or.inr (Or.inr (Or.inr (Or.inr (Or.inr (Or.inr (Or.inr (Or.inr (Or.inr (Or.inr (Or.inl (own_inj (h.trans (by decide))))))))))))))))
  · exact Or.inr (Or.inr (Or.inr (Or.inr (Or.inr (Or.inr (Or.inr (Or.inr (Or.inr (Or.inr (Or.inr (Or.inr (Or.inr (Or.inr (Or.inl (own_inj (h.trans (by decide)))))))))))))))))
  · exact Or.inr (Or.inr (Or.inr (Or.inr (Or.inr (Or.inr (Or.inr (Or.inr (Or.inr (Or.inr (Or.inr (Or.inr (Or.inr (Or.inr (Or.inr (own_inj (h.trans (by decide)))))))))))))))))
theorem own_rem5 (x : Int32) : ((x &&& (2147483647 : Int32)) % (5 : Int32)) = (0 : Int32) ∨ ((x &&& (2147483647 : Int32)) % (5 : Int32)) = (1 : Int32) ∨ ((x &&& (2147483647 : Int32)) % (5 : Int32)) = (2 : Int32) ∨ ((x &&& (2147483647 : Int32)) % (5 : Int32)) = (3 : Int32) ∨ ((x &&& (2147483647 : Int32)) % (5 : Int32)) = (4 : Int32) := by
  have e := Jvm.Kit.i32_mask x (2147483647 : Int32) (k := 31) (by decide) (by decide)
  have e2 := Jvm.Kit.i32_rem_nonneg (x := x &&& (2147483647 : Int32)) (y := (5 : Int32)) (by omega)
  have e3 : (5 : Int32).toInt = 5 := by decide
  rw [e3] at e2
  have h : ((x &&& (2147483647 : Int32)) % (5 : Int32)).toInt = 0 ∨ ((x &&& (2147483647 : Int32)) % (5 : Int32)).toInt = 1 ∨ ((x &&& (2147483647 : Int32)) % (5 : Int32)).toInt = 2 ∨ ((x &&& (2147483647 : Int32)) % (5 : Int32)).toInt = 3 ∨ ((x &&& (2147483647 : Int32)) % (5 : Int32)).toInt = 4 := by omega
  rcases h with h | h | h | h | h
  · exact Or.inl (own_inj (h.trans (by decide)))
  · exact Or.inr (Or.inl (own_inj (h.trans (by decide))))
  · exact Or.inr (Or.inr (Or.inl (own_inj (h.trans (by decide)))))
  · exact Or.inr (Or.inr (Or.inr (Or.inl (own_inj (h.trans (by decide))))))
  · exact Or.inr (Or.inr (Or.inr (Or.inr (own_inj (h.trans (by decide))))))
abbrev RCI : Room := ({ frames := 5, cells := 2, slots := 20, locals := 120 } : Room)
abbrev RAN : Room := ({ frames := 7, cells := 4, slots := 24, locals := 3120 } : Room)
set_option maxRecDepth 65536 in
set_option maxHeartbeats 4000000 in
theorem own_site {p : Program} {l : Launch} {e : Env} {s : State} {m : MethodId} {args : Array Value} {below : List Frame} {meth : Method} {c : Code} {T : State} {locs : List Loc} {cells slots : Nat} {Z : State} {a0 : Array Value} {h0 : Heap} {Ls : Array Slot} (X : Stand p l e RAN s m args below meth c T locs cells slots) (hx : p.tables.exec = Jvm.exec) (hZ : Z.Warmed39 s.vm) (hw : ∀ d ∈ tables_1, d.before a0 Z = true) (hby : c.code = prog_12_method_5_code) (hml : c.maxLocals = 6) (hown : s.vm.findClass "com/example/minos/minos/analysis/Circuit" = some m.cls) (e0 : T.heap = h0) (hsz : Ls.size = 6) (hnamed : s.methodNamed? (⟨"com/example/minos/minos/analysis/Circuit", "and", "(II)I"⟩ : MethodName) = some m) (ob key hm : Addr) (lo hi : Int32) (hce : cells + 1 ≤ RAN.cells) (hsl : slots + 3 ≤ RAN.slots) :
    ∃ (cK : ClassId) (T' : State), LamKit.Made Z "com/example/minos/minos/analysis/Circuit" own_sh cK ∧ Stand p l e RAN s m args below meth c T' locs (cells + 1) (slots + 3) ∧ T'.heap = h0.push { cls := cK, slots := #[.ref ob, .int lo, .int hi], vm := .none } ∧ ∀ t, Steps p.tables e below (T'.setTop (mkF m 87 Ls [.ref h0.size, .ref key, .ref hm])) t → Steps p.tables e below (T.setTop (mkF m 82 Ls [.int hi, .int lo, .ref ob, .ref key, .ref hm])) t := by
  have hA := hZ.alike
  obtain ⟨cK, one, hat⟩ := Cond.lambdaSite_spec (show (Jvm.Cond.lambdaSite (⟨"com/example/minos/minos/analysis/Circuit", "and", "(II)I"⟩ : MethodName) 82 49 own_sh).before a0 Z = true from (hw _ (List.mem_of_getElem? (i := 79) rfl)))
  obtain ⟨mD, kD, cfD, i0, p0, lk, hmD, hkD, hcfD, hsh, -, hfind, hmade, hcan, hl⟩ := State.lambdaAt?_spec hat
  have hm2 : mD = m := by
    have q : s.methodNamed? (⟨"com/example/minos/minos/analysis/Circuit", "and", "(II)I"⟩ : MethodName) = some mD := by rw [State.methodNamed?_of_vm (show s.vm = (Z.setVm s.vm).vm from rfl), State.methodNamed?_setVm hA]; exact hmD
    exact Option.some.inj (q.symm.trans hnamed)
  subst hm2
  obtain ⟨kD', hkD', hnameD⟩ := className_of_methodNamed hmD
  cases hkD.symm.trans hkD'
  rcases hl with ⟨a, cell, -, -, hc0, -⟩ | ⟨rfl, -, -⟩
  · exact absurd hc0 (by first | decide | exact nofun | simp)
  · obtain ⟨b, nt, desc, site, h1, h2, h3, h4⟩ := Lambda.shapeOf?_site hsh
    obtain ⟨kc, f, hkc, hkind, hty, -⟩ := LamKit.made_cap own_cap0 hkD hnameD hmade (LamKit.noFields (show (Jvm.Cond.instantiable "java/lang/Object" 0).before a0 Z = true from (hw _ (List.mem_of_getElem? (i := 82) rfl))) (State.WarmedH.refl Z))
    obtain ⟨kD2, hkD2, -, ncf, -, -, ncs, -⟩ := own_keepR hZ hkD
    obtain ⟨kc2, hkc2, hec⟩ := hA.2.2 _ _ hkc
    have hty2 : kc2.instanceTypes = own_sh.captured.toArray := by rw [hec]; exact hty
    have hkind2 : kc2.kind = .ordinary := by rw [hec]; exact hkind
    have hz : ((kc2.instanceTypes.toList.zip [Value.ref ob, .int lo, .int hi]).map fun (t, v) => narrow t v) = [.ref ob, .int lo, .int hi] := by rw [hty2]; rfl
    have hw3 : e.platform.lambdaLinkWords = 3072 := by rw [X.admits.platform]
    have q := X.lambdaMakes hx (g := mkF mD 82 Ls [.int hi, .int lo, .ref ob, .ref key, .ref hm]) rfl (by rw [hml]; exact hsz) (hb hby d7_82) (vals := [.ref ob, .int lo, .int hi]) (rest := [.ref key, .ref hm]) hkD2 (by rw [ncs]; exact hfind) (by rw [ncf]; exact hcfD) h1 h2 (parseLong_of_parse h3) (by rw [h4]; rfl) rfl hkc2 (by rw [hw3]; show 2 * 0 + 5 + 3072 ≤ 3120; decide) hce (by rw [hz]; exact hsl)
      (fun i v hv => by
        rw [hz] at hv
        rcases i with _ | _ | _ | i
        · simp at hv; subst hv; simp [State.fitsSlot, State.slotType?, hkc2, hkind2, hty2, fits]
        · simp at hv; subst hv; simp [State.fitsSlot, State.slotType?, hkc2, hkind2, hty2, fits]
        · simp at hv; subst hv; simp [State.fitsSlot, State.slotType?, hkc2, hkind2, hty2, fits]
        · simp at hv)
    rw [hz] at q
    subst e0
    exact ⟨cK, _, ⟨_, kD, hkD, hnameD, hmade, hcan⟩, q.1, rfl, q.2⟩
set_option maxRecDepth 65536 in
set_option maxHeartbeats 4000000 in
theorem cCia {p : Program} {l : Launch} {e : Env} {s : State} {m : MethodId} {args : Array Value} {below : List Frame} {meth : Method} {c : Code} {T : State} {locs : List Loc} {cells slots : Nat} {Z : State} {a0 : Array Value} {h0 : Heap} {Ls : Array Slot} (X : Stand p l e RAN s m args below meth c T locs cells slots) (hx : p.tables.exec = Jvm.exec) (hZ : Z.Warmed39 s.vm) (hw : ∀ d ∈ tables_1, d.before a0 Z = true) (hby : c.code = prog_12_method_5_code) (hml : c.maxLocals = 6) (hown : s.vm.findClass "com/example/minos/minos/analysis/Circuit" = some m.cls) (e0 : T.heap = h0) (hsz : Ls.size = 6) (hm key fn : Addr) (ER : Exa Z h0 hm "java/util/HashMap") {rm : Room} {Q : Option Value → Heap → List Loc → Prop}
    (M : MetFree l (⟨"java/util/HashMap", "computeIfAbsent", "(Ljava/lang/Object;Ljava/util/function/Function;)Ljava/lang/Object;"⟩ : MethodName) (head1 [Jvm.Cond.code (⟨"java/util/HashMap", "computeIfAbsent", "(Ljava/lang/Object;Ljava/util/function/Function;)Ljava/lang/Object;"⟩ : MethodName) jdk_69_method_35_code 13 (some (.object "java/lang/Object"))] rm) (fun a U => a = #[.ref hm, .ref key, .ref fn] ∧ Z.Warmed39 U.vm ∧ U.heap = h0) (fun _ _ _ _ _ => True) (fun _ U o U' => ∃ v L, o = .returned v ∧ Q v U'.heap L ∧ FrameEnd U o U' L rm.cells rm.slots)) (hfr : rm.frames + 1 ≤ RAN.frames) (hlo : 0 + (13 + 11) + rm.locals ≤ RAN.locals) (hce : cells + rm.cells ≤ RAN.cells) (hsl : slots + rm.slots ≤ RAN.slots) :
    ∃ (T' : State) (v : Option Value) (L : List Loc), Stand p l e RAN s m args below meth c T' (locs ++ L) (cells + rm.cells) (slots + rm.slots) ∧ Q v T'.heap L ∧ ∀ t, Steps p.tables e below (T'.setTop (mkF m 92 Ls (v.toList ++ []))) t → Steps p.tables e below (T.setTop (mkF m 87 Ls [.ref fn, .ref key, .ref hm])) t := by
  obtain ⟨cq, kq, qa, qb, qc⟩ := isOf hZ e0 ER
  obtain ⟨v, _, ⟨T1, L1, k1, n1⟩, -, X1, ⟨Lc, hQ, l1, y1, z1⟩, st⟩ := X.interfaceBack hx (C := "java/util/HashMap") (xi := (⟨"java/util/Map", "computeIfAbsent", "(Ljava/lang/Object;Ljava/util/function/Function;)Ljava/lang/Object;"⟩ : MethodName)) (y := (⟨"java/util/HashMap", "computeIfAbsent", "(Ljava/lang/Object;Ljava/util/function/Function;)Ljava/lang/Object;"⟩ : MethodName)) hown (mvT hZ (hw _ (List.mem_of_getElem? (i := 83) rfl))) (mvT hZ (hw _ (List.mem_of_getElem? (i := 84) rfl))) (mvT hZ (hw _ (List.mem_of_getElem? (i := 85) rfl))) (mvT hZ (hw _ (List.mem_of_getElem? (i := 86) rfl))) (mvT hZ (hw _ (List.mem_of_getElem? (i := 87) rfl))) (mvT hZ (hw _ (List.mem_of_getElem? (i := 88) rfl))) (mvT hZ (hw _ (List.mem_of_getElem? (i := 89) rfl))) (mvT hZ (hw _ (List.mem_of_getElem? (i := 90) rfl))) (by decide) (backOf (W := 0) M hZ (hw _ (List.mem_of_getElem? (i := 91) rfl)) (hw _ (List.mem_of_getElem? (i := 18) rfl)) hfr hlo) qa qb qc (g := (mkF m 87 Ls [.ref fn, .ref key, .ref hm])) rfl (by rw [hml]; exact hsz) (Steps.refl _) (argsL := [.ref key, .ref fn]) (rest := []) (lenOf pd451 rfl) rfl (by show 2 * 0 + _ ≤ _; exact Nat.le_of_eq rfl) (hb hby d7_87) (fun _ _ => ⟨rfl, e0, hce, hsl⟩)
  dsimp only [Pt.U, Pt.locs, Pt.cells, Pt.slots] at X1 l1 y1 z1 st hQ
  subst l1 y1 z1
  exact ⟨T1, v, Lc, X1, hQ, fun t kt => st.trans kt⟩
theorem own_push {h : Heap} (c : Cell) : Ext h (h.push c) := ⟨by simp, fun x q hq => by rw [Array.getElem?_push_lt (Array.getElem?_eq_some_iff.mp hq).1]; exact congrArg some (Array.getElem?_eq_some_iff.mp hq).2⟩
theorem own_nul16 (i : Nat) : ([.null, .null, .null, .null, .null, .null, .null, .null, .null, .null, .null, .null, .null, .null, .null, .null] : List Value).getD i .null = .null := by
  rcases i with _ | _ | _ | _ | _ | _ | _ | _ | _ | _ | _ | _ | _ | _ | _ | _ | i <;> rfl
theorem own_ix16 (hh : Int32) : ¬ (((((16 : Nat).toInt32) - (1 : Int32)) &&& hh) < 0 ∨ (16 : Nat) ≤ (((((16 : Nat).toInt32) - (1 : Int32)) &&& hh)).toNatClampNeg) := by
  have q : ((((16 : Nat).toInt32) - (1 : Int32)) &&& hh) = (hh &&& (15 : Int32)) := by rw [Int32.and_comm]; rfl
  rw [q]
  rcases own_mask15 hh with h | h | h | h | h | h | h | h | h | h | h | h | h | h | h | h <;> rw [h] <;> decide
def QCI3 (Z : State) (hm ob F S : Addr) (kF kS : ClassId) (lo hi f0 f1 f2 f3 f4 f5 s0 s1 s2 s3 s4 s5 : Int32) (h0 : Heap) (n0 : Nat) (v : Option Value) (h : Heap) (L : List Loc) : Prop := ∃ w : Addr, v = some (.ref w) ∧ Fr n0 L ∧ Keep h0 h [hm, F, S, ob] ∧ Old Z n0 h ∧ Exa Z h ob "com/example/minos/minos/analysis/Circuit" ∧ Fld Z h ob "com/example/minos/minos/analysis/Circuit" "first" "[I" (.ref F) ∧ Fld Z h ob "com/example/minos/minos/analysis/Circuit" "second" "[I" (.ref S) ∧ Fld Z h ob "com/example/minos/minos/analysis/Circuit" "nodes" "I" (.int (4 : Int32)) ∧ Arv Z h F kF .int (1024 : Int32) [(.int f0), (.int f1), (.int f2), (.int lo), (.int f4), (.int f5)] (.int (0 : Int32)) ∧ Arv Z h S kS .int (1024 : Int32) [(.int s0), (.int s1), (.int s2), (.int hi), (.int s4), (.int s5)] (.int (0 : Int32)) ∧ Exa Z Z.heap w "java/lang/Integer" ∧ Fld Z Z.heap w "java/lang/Integer" "value" "I" (.int (6 : Int32))
set_option maxRecDepth 65536 in
set_option maxHeartbeats 4000000 in
theorem rmCI3 (l : Launch) (Z : State) (a0 : Array Value) (hw : ∀ d ∈ tables_1, d.before a0 Z = true) (w_cache : Addr) (cl_w_cache : Cell) (HW : World Z w_cache cl_w_cache) (hm key fn ob F S : Addr) (kF kS cK : ClassId) (kv : Int64) (lo hi f0 f1 f2 f3 f4 f5 s0 s1 s2 s3 s4 s5 : Int32) (h0 : Heap) (n0 : Nat) (O0 : Old Z n0 h0) (hmd : LamKit.Made Z "com/example/minos/minos/analysis/Circuit" own_sh cK) (hcf : h0[fn]? = some { cls := cK, slots := #[.ref ob, .int lo, .int hi], vm := .none }) (nfh : fn ≠ hm) (M0 : Exa Z h0 hm "java/util/HashMap") (M1 : Fld Z h0 hm "java/util/HashMap" "size" "I" (.int (0 : Int32))) (M2 : Fld Z h0 hm "java/util/HashMap" "threshold" "I" (.int (0 : Int32))) (M3 : Fld Z h0 hm "java/util/HashMap" "table" "[Ljava/util/HashMap$Node;" .null) (M4 : Fld Z h0 hm "java/util/HashMap" "modCount" "I" (.int (0 : Int32))) (Ek : Exa Z h0 key "java/lang/Long") (Fk : Fld Z h0 key "java/lang/Long" "value" "J" (.long kv)) (C0 : Exa Z h0 ob "com/example/minos/minos/analysis/Circuit") (C1 : Fld Z h0 ob "com/example/minos/minos/analysis/Circuit" "first" "[I" (.ref F)) (C2 : Fld Z h0 ob "com/example/minos/minos/analysis/Circuit" "second" "[I" (.ref S)) (C3 : Fld Z h0 ob "com/example/minos/minos/analysis/Circuit" "nodes" "I" (.int (3 : Int32))) (C4 : Arv Z h0 F kF .int (1024 : Int32) [(.int f0), (.int f1), (.int f2), (.int f3), (.int f4), (.int f5)] (.int (0 : Int32))) (C5 : Arv Z h0 S kS .int (1024 : Int32) [(.int s0), (.int s1), (.int s2), (.int s3), (.int s4), (.int s5)] (.int (0 : Int32))) (nF : F ≠ ob) (nFS : F ≠ S) (nS : S ≠ ob) (nhF : hm ≠ F) (nhS : hm ≠ S) (nho : hm ≠ ob) (gF : n0 ≤ F) (gS : n0 ≤ S) (go : n0 ≤ ob) (gh : n0 ≤ hm) :
    MetFree l (⟨"java/util/HashMap", "computeIfAbsent", "(Ljava/lang/Object;Ljava/util/function/Function;)Ljava/lang/Object;"⟩ : MethodName) (head1 [Jvm.Cond.code (⟨"java/util/HashMap", "computeIfAbsent", "(Ljava/lang/Object;Ljava/util/function/Function;)Ljava/lang/Object;"⟩ : MethodName) jdk_69_method_35_code 13 (some (.object "java/lang/Object"))] RCI) (fun a U => a = #[(.ref hm), (.ref key), (.ref fn)] ∧ Z.Warmed39 U.vm ∧ U.heap = h0) (fun _ _ _ _ _ => True) (fun _ U o U' => ∃ v L, o = .returned v ∧ QCI3 Z hm ob F S kF kS lo hi f0 f1 f2 f3 f4 f5 s0 s1 s2 s3 s4 s5 h0 n0 v U'.heap L ∧ FrameEnd U o U' L RCI.cells RCI.slots) := by
  refine MetFree.of_bodySF (plainFor_of_name pn31) hisR ?_
  intro p e s m args below meth c s₁ Bd hml0 hP hK
  obtain ⟨rfl, hZ, hh0⟩ := hP
  have hx := Bd.exec
  have hby := Bd.bytes
  have hml : c.maxLocals = 13 := hml0
  have hown : s.vm.findClass "java/util/HashMap" = some m.cls := findClass_of_methodNamed Bd.named
  have X0 : Stand p l e RCI s m #[(.ref hm), (.ref key), (.ref fn)] below meth c s₁ [] 0 0 := Stand.of_body Bd
  have e0 : s₁.heap = h0 := by rw [← hh0, Bd.state]; rfl
  have hlk : meth.locks = false := BodyLoose.notSynchronized Bd
  have ef : entryFrame m #[(.ref hm), (.ref key), (.ref fn)] 13 = mkF m 0 #[.val (.ref hm), .val (.ref key), .val (.ref fn), .unset, .unset, .unset, .unset, .unset, .unset, .unset, .unset, .unset, .unset] [] := by first | (simp [entryFrame, mkF, argsToLocals, Value.category]; done) | rfl
  obtain ⟨T1, L1, tb, kt, X1, N1, K1, O1, z1, E1, F1, F2, F3, F4, V1, Et, Ot, -, c1⟩ := ciA hm key fn kv X0 hx hZ hw hby hml hown e0 (Fr.nil n0) O0 M0 M1 M2 M3 M4 Ek Fk gh
  obtain ⟨hh, hhe⟩ : ∃ z : Int32, z = (((kv ^^^ ((kv.toUInt64 >>> ((32 : Int32) &&& 0x3f).toInt64.toUInt64).toInt64)).toInt32) ^^^ ((((kv ^^^ ((kv.toUInt64 >>> ((32 : Int32) &&& 0x3f).toInt64.toUInt64).toInt64)).toInt32).toUInt32 >>> ((16 : Int32) &&& 31).toUInt32).toInt32)) := ⟨_, rfl⟩
  rw [← hhe] at c1
  have A1 : Ars Z T1.heap tb kt (.object "java/util/HashMap$Node") (16 : Nat) (fun i => ([.null, .null, .null, .null, .null, .null, .null, .null, .null, .null, .null, .null, .null, .null, .null, .null] : List Value).getD i .null) := Ars.of_arv V1
  obtain ⟨T2, L2, X2, N2, e2, c2⟩ := ciB hm key fn hh tb 0 kt _ X1 hx hZ hw hby hml hown rfl N1 O1 E1 F4 A1 (own_ix16 hh) (own_nul16 _)
  have lk : hm < h0.size := M0.lt
  have lF : F < h0.size := C4.lt
  have lS : S < h0.size := C5.lt
  have lo' : ob < h0.size := C0.lt
  have nm1 : fn ∉ [hm] := ninS nfh nin0
  obtain ⟨T3, _, L3, X3, ⟨w, rfl, N3, K3, O3, VF3, VS3, Eo3, Ff3, Fs3, Fn3, Ew, Fw, -⟩, c3⟩ := own_fwd (Ls := #[.val (.ref hm), .val (.ref key), .val (.ref fn), .val (.int hh), .val (.ref tb), .val .null, .val (.int ((16 : Nat).toInt32)), .val (.int ((((16 : Nat).toInt32) - (1 : Int32)) &&& hh)), .val (.int (0 : Int32)), .val .null, .val .null, .val (.int (0 : Int32)), .unset]) X2 hx hZ hw hby hml hown e2 rfl hmd (K1.2.1 _ _ hcf nm1) (Ek.keep K1) (C0.keep K1) (rm19_5 l Z a0 hw [] w_cache cl_w_cache ob lo hi key F S kF f0 f1 f2 f3 f4 f5 kS s0 s1 s2 s3 s4 s5 T1.heap n0 (own_n0 O1) O1 HW (C0.keep K1) (C1.keep K1 (ninS nho.symm nin0)) (C2.keep K1 (ninS nho.symm nin0)) (C3.keep K1 (ninS nho.symm nin0)) (C4.keep K1 (ninS nhF.symm nin0)) (C5.keep K1 (ninS nhS.symm nin0)) nF nFS nS gF gS go) (fun v h L q => by obtain ⟨w, rfl, -⟩ := q; exact ⟨w, rfl⟩) (by decide) (by decide) (by decide) (by decide)
  have ntF : tb ≠ F := Nat.ne_of_gt (Nat.lt_of_lt_of_le lF z1)
  have ntS : tb ≠ S := Nat.ne_of_gt (Nat.lt_of_lt_of_le lS z1)
  have nto : tb ≠ ob := Nat.ne_of_gt (Nat.lt_of_lt_of_le lo' z1)
  have nth : hm ≠ tb := Nat.ne_of_lt (Nat.lt_of_lt_of_le lk z1)
  have nh3 : hm ∉ [F, S, ob] := ninS nhF (ninS nhS (ninS nho nin0))
  have nt3 : tb ∉ [F, S, ob] := ninS ntF (ninS ntS (ninS nto nin0))
  obtain ⟨s₂, o, r1, r2, r3, v, L, r4, ⟨r5, r6, r7, r8⟩, r9⟩ := ciC hm key fn hh tb ((16 : Nat).toInt32) ((((16 : Nat).toInt32) - (1 : Int32)) &&& hh) w kt _ X3 hx hZ hw hby hml hown rfl (Fr.app N2 N3) O3 Ot (E1.keep K3) (F4.keep K3 nh3) (F1.keep K3 nh3) (A1.keep K3 nt3) nth (Nat.le_trans (own_n0 O0) z1) gh (own_ix16 hh) Bd.returns hlk (fun t kt => castTop ef (c1 t (c2 t (c3 t kt))))
  have nF2 : F ∉ [tb, hm] := ninS ntF.symm (ninS nhF.symm nin0)
  have nS2 : S ∉ [tb, hm] := ninS ntS.symm (ninS nhS.symm nin0)
  have no2 : ob ∉ [tb, hm] := ninS nto.symm (ninS nho.symm nin0)
  refine ⟨s₂, o, r1, r2, r3, v, L, r4, ⟨w, r5, r6, ?_, r8, Eo3.keep r7, Ff3.keep r7 no2, Fs3.keep r7 no2, Fn3.keep r7 no2, VF3.keep r7 nF2, VS3.keep r7 nS2, Ew, Fw⟩, r9⟩
  exact (((Keep.refl h0 [hm, F, S, ob]).trans K1 (allS (Or.inl (by simp)) all0)).trans K3 (allS (Or.inl (by simp)) (allS (Or.inl (by simp)) (allS (Or.inl (by simp)) all0)))).trans r7 (allS (Or.inr z1) (allS (Or.inl (by simp)) all0))
def QAn3 (Z : State) (hm ob F S : Addr) (kF kS : ClassId) (lo hi f0 f1 f2 f3 f4 f5 s0 s1 s2 s3 s4 s5 : Int32) (h0 : Heap) (n0 : Nat) (v : Option Value) (h : Heap) (L : List Loc) : Prop := v = some (.int (6 : Int32)) ∧ Fr n0 L ∧ Keep h0 h [hm, F, S, ob] ∧ Old Z n0 h ∧ Exa Z h ob "com/example/minos/minos/analysis/Circuit" ∧ Fld Z h ob "com/example/minos/minos/analysis/Circuit" "first" "[I" (.ref F) ∧ Fld Z h ob "com/example/minos/minos/analysis/Circuit" "second" "[I" (.ref S) ∧ Fld Z h ob "com/example/minos/minos/analysis/Circuit" "nodes" "I" (.int (4 : Int32)) ∧ Arv Z h F kF .int (1024 : Int32) [(.int f0), (.int f1), (.int f2), (.int lo), (.int f4), (.int f5)] (.int (0 : Int32)) ∧ Arv Z h S kS .int (1024 : Int32) [(.int s0), (.int s1), (.int s2), (.int hi), (.int s4), (.int s5)] (.int (0 : Int32))
set_option maxRecDepth 65536 in
set_option maxHeartbeats 4000000 in
theorem rmAn3 (l : Launch) (Z : State) (a0 : Array Value) (hw : ∀ d ∈ tables_1, d.before a0 Z = true) (w_cache : Addr) (cl_w_cache : Cell) (HW : World Z w_cache cl_w_cache) (hm ob F S : Addr) (kF kS : ClassId) (lo hi f0 f1 f2 f3 f4 f5 s0 s1 s2 s3 s4 s5 : Int32) (h0 : Heap) (n0 : Nat) (O0 : Old Z n0 h0) (M0 : Exa Z h0 hm "java/util/HashMap") (M1 : Fld Z h0 hm "java/util/HashMap" "size" "I" (.int (0 : Int32))) (M2 : Fld Z h0 hm "java/util/HashMap" "threshold" "I" (.int (0 : Int32))) (M3 : Fld Z h0 hm "java/util/HashMap" "table" "[Ljava/util/HashMap$Node;" .null) (M4 : Fld Z h0 hm "java/util/HashMap" "modCount" "I" (.int (0 : Int32))) (C0 : Exa Z h0 ob "com/example/minos/minos/analysis/Circuit") (C1 : Fld Z h0 ob "com/example/minos/minos/analysis/Circuit" "first" "[I" (.ref F)) (C2 : Fld Z h0 ob "com/example/minos/minos/analysis/Circuit" "second" "[I" (.ref S)) (C3 : Fld Z h0 ob "com/example/minos/minos/analysis/Circuit" "nodes" "I" (.int (3 : Int32))) (C4 : Arv Z h0 F kF .int (1024 : Int32) [(.int f0), (.int f1), (.int f2), (.int f3), (.int f4), (.int f5)] (.int (0 : Int32))) (C5 : Arv Z h0 S kS .int (1024 : Int32) [(.int s0), (.int s1), (.int s2), (.int s3), (.int s4), (.int s5)] (.int (0 : Int32))) (CG : Fld Z h0 ob "com/example/minos/minos/analysis/Circuit" "gates" "Ljava/util/Map;" (.ref hm)) (nF : F ≠ ob) (nFS : F ≠ S) (nS : S ≠ ob) (nhF : hm ≠ F) (nhS : hm ≠ S) (nho : hm ≠ ob) (gF : n0 ≤ F) (gS : n0 ≤ S) (go : n0 ≤ ob) (gh : n0 ≤ hm) (d0 : ¬ (lo = (0 : Int32))) (d1 : ¬ (hi = (0 : Int32))) (d2 : ¬ (lo = (hi ^^^ (1 : Int32)))) (d3 : ¬ (lo = (1 : Int32))) (d4 : ¬ (lo = hi)) (d5 : ¬ (hi = (1 : Int32))) (d6 : ¬ (hi < lo)) (d7 : lo < hi) (d8 : ¬ ((((lo.toInt64) <<< ((32 : Int32) &&& 0x3f).toInt64) ||| (hi.toInt64)) < (-128 : Int64))) (d9 : (127 : Int64) < (((lo.toInt64) <<< ((32 : Int32) &&& 0x3f).toInt64) ||| (hi.toInt64))) :
    MetFree l (⟨"com/example/minos/minos/analysis/Circuit", "and", "(II)I"⟩ : MethodName) (head1 [Jvm.Cond.code (⟨"com/example/minos/minos/analysis/Circuit", "and", "(II)I"⟩ : MethodName) prog_12_method_5_code 6 (some .int)] RAN) (fun a U => a = #[(.ref ob), (.int lo), (.int hi)] ∧ Z.Warmed39 U.vm ∧ U.heap = h0) (fun _ _ _ _ _ => True) (fun _ U o U' => ∃ v L, o = .returned v ∧ QAn3 Z hm ob F S kF kS lo hi f0 f1 f2 f3 f4 f5 s0 s1 s2 s3 s4 s5 h0 n0 v U'.heap L ∧ FrameEnd U o U' L RAN.cells RAN.slots) := by
  refine MetFree.of_bodySF (plainFor_of_name pn37) hisR ?_
  intro p e s m args below meth c s₁ Bd hml0 hP hK
  obtain ⟨rfl, hZ, hh0⟩ := hP
  have hx := Bd.exec
  have hby := Bd.bytes
  have hml : c.maxLocals = 6 := hml0
  have hown : s.vm.findClass "com/example/minos/minos/analysis/Circuit" = some m.cls := findClass_of_methodNamed Bd.named
  have X0 : Stand p l e RAN s m #[(.ref ob), (.int lo), (.int hi)] below meth c s₁ [] 0 0 := Stand.of_body Bd
  have e0 : s₁.heap = h0 := by rw [← hh0, Bd.state]; rfl
  have hlk : meth.locks = false := BodyLoose.notSynchronized Bd
  have ef : entryFrame m #[(.ref ob), (.int lo), (.int hi)] 6 = mkF m 0 #[.val (.ref ob), .val (.int lo), .val (.int hi), .unset, .unset, .unset] [] := by first | (simp [entryFrame, mkF, argsToLocals, Value.category]; done) | rfl
  obtain ⟨T1, L1, key, X1, N1, K1, O1, z1, Ek, Fk, -, c1⟩ := anA ob lo hi hm X0 hx hZ hw hby hml hown e0 (Fr.nil n0) O0 C0 CG d0 d1 d2 d3 d4 d5 d6 d7 d8 d9
  obtain ⟨cK, T2, hmd, X2, e2, c2⟩ := own_site (Ls := #[.val (.ref ob), .val (.int lo), .val (.int hi), .unset, .val (.int lo), .val (.int hi)]) X1 hx hZ hw hby hml hown rfl rfl Bd.named ob key hm lo hi (by decide) (by decide)
  obtain ⟨h2, hh2⟩ : ∃ h2, h2 = T1.heap.push { cls := cK, slots := #[.ref ob, .int lo, .int hi], vm := .none } := ⟨_, rfl⟩
  rw [← hh2] at e2
  have E2 : Ext T1.heap h2 := by rw [hh2]; exact own_push _
  have hcf : h2[T1.heap.size]? = some { cls := cK, slots := #[.ref ob, .int lo, .int hi], vm := .none } := by rw [hh2]; simp
  have O2 := O1.ext E2
  have lk : hm < h0.size := M0.lt
  have K1s := K1.1
  have nfh : T1.heap.size ≠ hm := Nat.ne_of_gt (Nat.lt_of_lt_of_le lk K1s)
  obtain ⟨T3, _, L3, X3, ⟨w, rfl, N3, K3, O3, B0, B1, B2, B3, B4, B5, Ew, Fw⟩, c3⟩ := cCia (Ls := #[.val (.ref ob), .val (.int lo), .val (.int hi), .unset, .val (.int lo), .val (.int hi)]) X2 hx hZ hw hby hml hown e2 rfl hm key T1.heap.size ((M0.keep K1).ext E2) (rmCI3 l Z a0 hw w_cache cl_w_cache HW hm key T1.heap.size ob F S kF kS cK _ lo hi f0 f1 f2 f3 f4 f5 s0 s1 s2 s3 s4 s5 h2 n0 O2 hmd hcf nfh ((M0.keep K1).ext E2) ((M1.keep K1 nin0).ext E2) ((M2.keep K1 nin0).ext E2) ((M3.keep K1 nin0).ext E2) ((M4.keep K1 nin0).ext E2) (Ek.ext E2) (Fk.ext E2) ((C0.keep K1).ext E2) ((C1.keep K1 nin0).ext E2) ((C2.keep K1 nin0).ext E2) ((C3.keep K1 nin0).ext E2) ((C4.keep K1 nin0).ext E2) ((C5.keep K1 nin0).ext E2) nF nFS nS nhF nhS nho gF gS go gh) (by decide) (by decide) (by decide) (by decide)
  obtain ⟨s₂, o, r1, r2, r3, v, L, r4, ⟨r5, r6, r7⟩, r9⟩ := anB ob lo hi lo hi w (6 : Int32) X3 hx hZ hw hby hml hown rfl (Fr.app N1 N3) O3 (Ew.ext O3.2) (Fw.ext O3.2) Bd.returns hlk (fun t kt => castTop ef (c1 t (c2 t (c3 t kt))))
  refine ⟨s₂, o, r1, r2, r3, v, L, r4, ⟨r5, r6, ?_, ?_, ?_, ?_, ?_, ?_, ?_, ?_⟩, r9⟩ <;> rw [r7]
  · exact (((Keep.refl h0 [hm, F, S, ob]).trans K1 all0).ext E2).trans K3 (fun x hx' => Or.inl hx')
  · exact O3
  · exact B0
  · exact B1
  · exact B2
  · exact B3
  · exact B4
  · exact B5
def QCI4 (Z : State) (hm ob F S : Addr) (kF kS : ClassId) (lo hi f0 f1 f2 f3 f4 f5 s0 s1 s2 s3 s4 s5 : Int32) (h0 : Heap) (n0 : Nat) (v : Option Value) (h : Heap) (L : List Loc) : Prop := ∃ w : Addr, v = some (.ref w) ∧ Fr n0 L ∧ Keep h0 h [hm, F, S, ob] ∧ Old Z n0 h ∧ Exa Z h ob "com/example/minos/minos/analysis/Circuit" ∧ Fld Z h ob "com/example/minos/minos/analysis/Circuit" "first" "[I" (.ref F) ∧ Fld Z h ob "com/example/minos/minos/analysis/Circuit" "second" "[I" (.ref S) ∧ Fld Z h ob "com/example/minos/minos/analysis/Circuit" "nodes" "I" (.int (5 : Int32)) ∧ Arv Z h F kF .int (1024 : Int32) [(.int f0), (.int f1), (.int f2), (.int f3), (.int lo), (.int f5)] (.int (0 : Int32)) ∧ Arv Z h S kS .int (1024 : Int32) [(.int s0), (.int s1), (.int s2), (.int s3), (.int hi), (.int s5)] (.int (0 : Int32)) ∧ Exa Z Z.heap w "java/lang/Integer" ∧ Fld Z Z.heap w "java/lang/Integer" "value" "I" (.int (8 : Int32))
set_option maxRecDepth 65536 in
set_option maxHeartbeats 4000000 in
theorem rmCI4 (l : Launch) (Z : State) (a0 : Array Value) (hw : ∀ d ∈ tables_1, d.before a0 Z = true) (w_cache : Addr) (cl_w_cache : Cell) (HW : World Z w_cache cl_w_cache) (hm key fn ob F S : Addr) (kF kS cK : ClassId) (kv : Int64) (lo hi f0 f1 f2 f3 f4 f5 s0 s1 s2 s3 s4 s5 : Int32) (h0 : Heap) (n0 : Nat) (O0 : Old Z n0 h0) (hmd : LamKit.Made Z "com/example/minos/minos/analysis/Circuit" own_sh cK) (hcf : h0[fn]? = some { cls := cK, slots := #[.ref ob, .int lo, .int hi], vm := .none }) (nfh : fn ≠ hm) (M0 : Exa Z h0 hm "java/util/HashMap") (M1 : Fld Z h0 hm "java/util/HashMap" "size" "I" (.int (0 : Int32))) (M2 : Fld Z h0 hm "java/util/HashMap" "threshold" "I" (.int (0 : Int32))) (M3 : Fld Z h0 hm "java/util/HashMap" "table" "[Ljava/util/HashMap$Node;" .null) (M4 : Fld Z h0 hm "java/util/HashMap" "modCount" "I" (.int (0 : Int32))) (Ek : Exa Z h0 key "java/lang/Long") (Fk : Fld Z h0 key "java/lang/Long" "value" "J" (.long kv)) (C0 : Exa Z h0 ob "com/example/minos/minos/analysis/Circuit") (C1 : Fld Z h0 ob "com/example/minos/minos/analysis/Circuit" "first" "[I" (.ref F)) (C2 : Fld Z h0 ob "com/example/minos/minos/analysis/Circuit" "second" "[I" (.ref S)) (C3 : Fld Z h0 ob "com/example/minos/minos/analysis/Circuit" "nodes" "I" (.int (4 : Int32))) (C4 : Arv Z h0 F kF .int (1024 : Int32) [(.int f0), (.int f1), (.int f2), (.int f3), (.int f4), (.int f5)] (.int (0 : Int32))) (C5 : Arv Z h0 S kS .int (1024 : Int32) [(.int s0), (.int s1), (.int s2), (.int s3), (.int s4), (.int s5)] (.int (0 : Int32))) (nF : F ≠ ob) (nFS : F ≠ S) (nS : S ≠ ob) (nhF : hm ≠ F) (nhS : hm ≠ S) (nho : hm ≠ ob) (gF : n0 ≤ F) (gS : n0 ≤ S) (go : n0 ≤ ob) (gh : n0 ≤ hm) :
    MetFree l (⟨"java/util/HashMap", "computeIfAbsent", "(Ljava/lang/Object;Ljava/util/function/Function;)Ljava/lang/Object;"⟩ : MethodName) (head1 [Jvm.Cond.code (⟨"java/util/HashMap", "computeIfAbsent", "(Ljava/lang/Object;Ljava/util/function/Function;)Ljava/lang/Object;"⟩ : MethodName) jdk_69_method_35_code 13 (some (.object "java/lang/Object"))] RCI) (fun a U => a = #[(.ref hm), (.ref key), (.ref fn)] ∧ Z.Warmed39 U.vm ∧ U.heap = h0) (fun _ _ _ _ _ => True) (fun _ U o U' => ∃ v L, o = .returned v ∧ QCI4 Z hm ob F S kF kS lo hi f0 f1 f2 f3 f4 f5 s0 s1 s2 s3 s4 s5 h0 n0 v U'.heap L ∧ FrameEnd U o U' L RCI.cells RCI.slots) := by
  refine MetFree.of_bodySF (plainFor_of_name pn31) hisR ?_
  intro p e s m args below meth c s₁ Bd hml0 hP hK
  obtain ⟨rfl, hZ, hh0⟩ := hP
  have hx := Bd.exec
  have hby := Bd.bytes
  have hml : c.maxLocals = 13 := hml0
  have hown : s.vm.findClass "java/util/HashMap" = some m.cls := findClass_of_methodNamed Bd.named
  have X0 : Stand p l e RCI s m #[(.ref hm), (.ref key), (.ref fn)] below meth c s₁ [] 0 0 := Stand.of_body Bd
  have e0 : s₁.heap = h0 := by rw [← hh0, Bd.state]; rfl
  have hlk : meth.locks = false := BodyLoose.notSynchronized Bd
  have ef : entryFrame m #[(.ref hm), (.ref key), (.ref fn)] 13 = mkF m 0 #[.val (.ref hm), .val (.ref key), .val (.ref fn), .unset, .unset, .unset, .unset, .unset, .unset, .unset, .unset, .unset, .unset] [] := by first | (simp [entryFrame, mkF, argsToLocals, Value.category]; done) | rfl
  obtain ⟨T1, L1, tb, kt, X1, N1, K1, O1, z1, E1, F1, F2, F3, F4, V1, Et, Ot, -, c1⟩ := ciA hm key fn kv X0 hx hZ hw hby hml hown e0 (Fr.nil n0) O0 M0 M1 M2 M3 M4 Ek Fk gh
  obtain ⟨hh, hhe⟩ : ∃ z : Int32, z = (((kv ^^^ ((kv.toUInt64 >>> ((32 : Int32) &&& 0x3f).toInt64.toUInt64).toInt64)).toInt32) ^^^ ((((kv ^^^ ((kv.toUInt64 >>> ((32 : Int32) &&& 0x3f).toInt64.toUInt64).toInt64)).toInt32).toUInt32 >>> ((16 : Int32) &&& 31).toUInt32).toInt32)) := ⟨_, rfl⟩
  rw [← hhe] at c1
  have A1 : Ars Z T1.heap tb kt (.object "java/util/HashMap$Node") (16 : Nat) (fun i => ([.null, .null, .null, .null, .null, .null, .null, .null, .null, .null, .null, .null, .null, .null, .null, .null] : List Value).getD i .null) := Ars.of_arv V1
  obtain ⟨T2, L2, X2, N2, e2, c2⟩ := ciB hm key fn hh tb 0 kt _ X1 hx hZ hw hby hml hown rfl N1 O1 E1 F4 A1 (own_ix16 hh) (own_nul16 _)
  have lk : hm < h0.size := M0.lt
  have lF : F < h0.size := C4.lt
  have lS : S < h0.size := C5.lt
  have lo' : ob < h0.size := C0.lt
  have nm1 : fn ∉ [hm] := ninS nfh nin0
  obtain ⟨T3, _, L3, X3, ⟨w, rfl, N3, K3, O3, VF3, VS3, Eo3, Ff3, Fs3, Fn3, Ew, Fw, -⟩, c3⟩ := own_fwd (Ls := #[.val (.ref hm), .val (.ref key), .val (.ref fn), .val (.int hh), .val (.ref tb), .val .null, .val (.int ((16 : Nat).toInt32)), .val (.int ((((16 : Nat).toInt32) - (1 : Int32)) &&& hh)), .val (.int (0 : Int32)), .val .null, .val .null, .val (.int (0 : Int32)), .unset]) X2 hx hZ hw hby hml hown e2 rfl hmd (K1.2.1 _ _ hcf nm1) (Ek.keep K1) (C0.keep K1) (rm19_8 l Z a0 hw [] w_cache cl_w_cache ob lo hi key F S kF f0 f1 f2 f3 f4 f5 kS s0 s1 s2 s3 s4 s5 T1.heap n0 (own_n0 O1) O1 HW (C0.keep K1) (C1.keep K1 (ninS nho.symm nin0)) (C2.keep K1 (ninS nho.symm nin0)) (C3.keep K1 (ninS nho.symm nin0)) (C4.keep K1 (ninS nhF.symm nin0)) (C5.keep K1 (ninS nhS.symm nin0)) nF nFS nS gF gS go) (fun v h L q => by obtain ⟨w, rfl, -⟩ := q; exact ⟨w, rfl⟩) (by decide) (by decide) (by decide) (by decide)
  have ntF : tb ≠ F := Nat.ne_of_gt (Nat.lt_of_lt_of_le lF z1)
  have ntS : tb ≠ S := Nat.ne_of_gt (Nat.lt_of_lt_of_le lS z1)
  have nto : tb ≠ ob := Nat.ne_of_gt (Nat.lt_of_lt_of_le lo' z1)
  have nth : hm ≠ tb := Nat.ne_of_lt (Nat.lt_of_lt_of_le lk z1)
  have nh3 : hm ∉ [F, S, ob] := ninS nhF (ninS nhS (ninS nho nin0))
  have nt3 : tb ∉ [F, S, ob] := ninS ntF (ninS ntS (ninS nto nin0))
  obtain ⟨s₂, o, r1, r2, r3, v, L, r4, ⟨r5, r6, r7, r8⟩, r9⟩ := ciC hm key fn hh tb ((16 : Nat).toInt32) ((((16 : Nat).toInt32) - (1 : Int32)) &&& hh) w kt _ X3 hx hZ hw hby hml hown rfl (Fr.app N2 N3) O3 Ot (E1.keep K3) (F4.keep K3 nh3) (F1.keep K3 nh3) (A1.keep K3 nt3) nth (Nat.le_trans (own_n0 O0) z1) gh (own_ix16 hh) Bd.returns hlk (fun t kt => castTop ef (c1 t (c2 t (c3 t kt))))
  have nF2 : F ∉ [tb, hm] := ninS ntF.symm (ninS nhF.symm nin0)
  have nS2 : S ∉ [tb, hm] := ninS ntS.symm (ninS nhS.symm nin0)
  have no2 : ob ∉ [tb, hm] := ninS nto.symm (ninS nho.symm nin0)
  refine ⟨s₂, o, r1, r2, r3, v, L, r4, ⟨w, r5, r6, ?_, r8, Eo3.keep r7, Ff3.keep r7 no2, Fs3.keep r7 no2, Fn3.keep r7 no2, VF3.keep r7 nF2, VS3.keep r7 nS2, Ew, Fw⟩, r9⟩
  exact (((Keep.refl h0 [hm, F, S, ob]).trans K1 (allS (Or.inl (by simp)) all0)).trans K3 (allS (Or.inl (by simp)) (allS (Or.inl (by simp)) (allS (Or.inl (by simp)) all0)))).trans r7 (allS (Or.inr z1) (allS (Or.inl (by simp)) all0))
def QAn4 (Z : State) (hm ob F S : Addr) (kF kS : ClassId) (lo hi f0 f1 f2 f3 f4 f5 s0 s1 s2 s3 s4 s5 : Int32) (h0 : Heap) (n0 : Nat) (v : Option Value) (h : Heap) (L : List Loc) : Prop := v = some (.int (8 : Int32)) ∧ Fr n0 L ∧ Keep h0 h [hm, F, S, ob] ∧ Old Z n0 h ∧ Exa Z h ob "com/example/minos/minos/analysis/Circuit" ∧ Fld Z h ob "com/example/minos/minos/analysis/Circuit" "first" "[I" (.ref F) ∧ Fld Z h ob "com/example/minos/minos/analysis/Circuit" "second" "[I" (.ref S) ∧ Fld Z h ob "com/example/minos/minos/analysis/Circuit" "nodes" "I" (.int (5 : Int32)) ∧ Arv Z h F kF .int (1024 : Int32) [(.int f0), (.int f1), (.int f2), (.int f3), (.int lo), (.int f5)] (.int (0 : Int32)) ∧ Arv Z h S kS .int (1024 : Int32) [(.int s0), (.int s1), (.int s2), (.int s3), (.int hi), (.int s5)] (.int (0 : Int32))
set_option maxRecDepth 65536 in
set_option maxHeartbeats 4000000 in
theorem rmAn4 (l : Launch) (Z : State) (a0 : Array Value) (hw : ∀ d ∈ tables_1, d.before a0 Z = true) (w_cache : Addr) (cl_w_cache : Cell) (HW : World Z w_cache cl_w_cache) (hm ob F S : Addr) (kF kS : ClassId) (lo hi f0 f1 f2 f3 f4 f5 s0 s1 s2 s3 s4 s5 : Int32) (h0 : Heap) (n0 : Nat) (O0 : Old Z n0 h0) (M0 : Exa Z h0 hm "java/util/HashMap") (M1 : Fld Z h0 hm "java/util/HashMap" "size" "I" (.int (0 : Int32))) (M2 : Fld Z h0 hm "java/util/HashMap" "threshold" "I" (.int (0 : Int32))) (M3 : Fld Z h0 hm "java/util/HashMap" "table" "[Ljava/util/HashMap$Node;" .null) (M4 : Fld Z h0 hm "java/util/HashMap" "modCount" "I" (.int (0 : Int32))) (C0 : Exa Z h0 ob "com/example/minos/minos/analysis/Circuit") (C1 : Fld Z h0 ob "com/example/minos/minos/analysis/Circuit" "first" "[I" (.ref F)) (C2 : Fld Z h0 ob "com/example/minos/minos/analysis/Circuit" "second" "[I" (.ref S)) (C3 : Fld Z h0 ob "com/example/minos/minos/analysis/Circuit" "nodes" "I" (.int (4 : Int32))) (C4 : Arv Z h0 F kF .int (1024 : Int32) [(.int f0), (.int f1), (.int f2), (.int f3), (.int f4), (.int f5)] (.int (0 : Int32))) (C5 : Arv Z h0 S kS .int (1024 : Int32) [(.int s0), (.int s1), (.int s2), (.int s3), (.int s4), (.int s5)] (.int (0 : Int32))) (CG : Fld Z h0 ob "com/example/minos/minos/analysis/Circuit" "gates" "Ljava/util/Map;" (.ref hm)) (nF : F ≠ ob) (nFS : F ≠ S) (nS : S ≠ ob) (nhF : hm ≠ F) (nhS : hm ≠ S) (nho : hm ≠ ob) (gF : n0 ≤ F) (gS : n0 ≤ S) (go : n0 ≤ ob) (gh : n0 ≤ hm) (d0 : ¬ (lo = (0 : Int32))) (d1 : ¬ (hi = (0 : Int32))) (d2 : ¬ (lo = (hi ^^^ (1 : Int32)))) (d3 : ¬ (lo = (1 : Int32))) (d4 : ¬ (lo = hi)) (d5 : ¬ (hi = (1 : Int32))) (d6 : ¬ (hi < lo)) (d7 : lo < hi) (d8 : ¬ ((((lo.toInt64) <<< ((32 : Int32) &&& 0x3f).toInt64) ||| (hi.toInt64)) < (-128 : Int64))) (d9 : (127 : Int64) < (((lo.toInt64) <<< ((32 : Int32) &&& 0x3f).toInt64) ||| (hi.toInt64))) :
    MetFree l (⟨"com/example/minos/minos/analysis/Circuit", "and", "(II)I"⟩ : MethodName) (head1 [Jvm.Cond.code (⟨"com/example/minos/minos/analysis/Circuit", "and", "(II)I"⟩ : MethodName) prog_12_method_5_code 6 (some .int)] RAN) (fun a U => a = #[(.ref ob), (.int lo), (.int hi)] ∧ Z.Warmed39 U.vm ∧ U.heap = h0) (fun _ _ _ _ _ => True) (fun _ U o U' => ∃ v L, o = .returned v ∧ QAn4 Z hm ob F S kF kS lo hi f0 f1 f2 f3 f4 f5 s0 s1 s2 s3 s4 s5 h0 n0 v U'.heap L ∧ FrameEnd U o U' L RAN.cells RAN.slots) := by
  refine MetFree.of_bodySF (plainFor_of_name pn37) hisR ?_
  intro p e s m args below meth c s₁ Bd hml0 hP hK
  obtain ⟨rfl, hZ, hh0⟩ := hP
  have hx := Bd.exec
  have hby := Bd.bytes
  have hml : c.maxLocals = 6 := hml0
  have hown : s.vm.findClass "com/example/minos/minos/analysis/Circuit" = some m.cls := findClass_of_methodNamed Bd.named
  have X0 : Stand p l e RAN s m #[(.ref ob), (.int lo), (.int hi)] below meth c s₁ [] 0 0 := Stand.of_body Bd
  have e0 : s₁.heap = h0 := by rw [← hh0, Bd.state]; rfl
  have hlk : meth.locks = false := BodyLoose.notSynchronized Bd
  have ef : entryFrame m #[(.ref ob), (.int lo), (.int hi)] 6 = mkF m 0 #[.val (.ref ob), .val (.int lo), .val (.int hi), .unset, .unset, .unset] [] := by first | (simp [entryFrame, mkF, argsToLocals, Value.category]; done) | rfl
  obtain ⟨T1, L1, key, X1, N1, K1, O1, z1, Ek, Fk, -, c1⟩ := anA ob lo hi hm X0 hx hZ hw hby hml hown e0 (Fr.nil n0) O0 C0 CG d0 d1 d2 d3 d4 d5 d6 d7 d8 d9
  obtain ⟨cK, T2, hmd, X2, e2, c2⟩ := own_site (Ls := #[.val (.ref ob), .val (.int lo), .val (.int hi), .unset, .val (.int lo), .val (.int hi)]) X1 hx hZ hw hby hml hown rfl rfl Bd.named ob key hm lo hi (by decide) (by decide)
  obtain ⟨h2, hh2⟩ : ∃ h2, h2 = T1.heap.push { cls := cK, slots := #[.ref ob, .int lo, .int hi], vm := .none } := ⟨_, rfl⟩
  rw [← hh2] at e2
  have E2 : Ext T1.heap h2 := by rw [hh2]; exact own_push _
  have hcf : h2[T1.heap.size]? = some { cls := cK, slots := #[.ref ob, .int lo, .int hi], vm := .none } := by rw [hh2]; simp
  have O2 := O1.ext E2
  have lk : hm < h0.size := M0.lt
  have K1s := K1.1
  have nfh : T1.heap.size ≠ hm := Nat.ne_of_gt (Nat.lt_of_lt_of_le lk K1s)
  obtain ⟨T3, _, L3, X3, ⟨w, rfl, N3, K3, O3, B0, B1, B2, B3, B4, B5, Ew, Fw⟩, c3⟩ := cCia (Ls := #[.val (.ref ob), .val (.int lo), .val (.int hi), .unset, .val (.int lo), .val (.int hi)]) X2 hx hZ hw hby hml hown e2 rfl hm key T1.heap.size ((M0.keep K1).ext E2) (rmCI4 l Z a0 hw w_cache cl_w_cache HW hm key T1.heap.size ob F S kF kS cK _ lo hi f0 f1 f2 f3 f4 f5 s0 s1 s2 s3 s4 s5 h2 n0 O2 hmd hcf nfh ((M0.keep K1).ext E2) ((M1.keep K1 nin0).ext E2) ((M2.keep K1 nin0).ext E2) ((M3.keep K1 nin0).ext E2) ((M4.keep K1 nin0).ext E2) (Ek.ext E2) (Fk.ext E2) ((C0.keep K1).ext E2) ((C1.keep K1 nin0).ext E2) ((C2.keep K1 nin0).ext E2) ((C3.keep K1 nin0).ext E2) ((C4.keep K1 nin0).ext E2) ((C5.keep K1 nin0).ext E2) nF nFS nS nhF nhS nho gF gS go gh) (by decide) (by decide) (by decide) (by decide)
  obtain ⟨s₂, o, r1, r2, r3, v, L, r4, ⟨r5, r6, r7⟩, r9⟩ := anB ob lo hi lo hi w (8 : Int32) X3 hx hZ hw hby hml hown rfl (Fr.app N1 N3) O3 (Ew.ext O3.2) (Fw.ext O3.2) Bd.returns hlk (fun t kt => castTop ef (c1 t (c2 t (c3 t kt))))
  refine ⟨s₂, o, r1, r2, r3, v, L, r4, ⟨r5, r6, ?_, ?_, ?_, ?_, ?_, ?_, ?_, ?_⟩, r9⟩ <;> rw [r7]
  · exact (((Keep.refl h0 [hm, F, S, ob]).trans K1 all0).ext E2).trans K3 (fun x hx' => Or.inl hx')
  · exact O3
  · exact B0
  · exact B1
  · exact B2
  · exact B3
  · exact B4
  · exact B5
def DecS (lo hi : Int32) : Prop := ¬ (lo = (0 : Int32)) ∧ ¬ (hi = (0 : Int32)) ∧ ¬ (lo = (hi ^^^ (1 : Int32))) ∧ ¬ (lo = (1 : Int32)) ∧ ¬ (lo = hi) ∧ ¬ (hi = (1 : Int32)) ∧ ¬ (hi < lo) ∧ lo < hi ∧ ¬ ((((lo.toInt64) <<< ((32 : Int32) &&& 0x3f).toInt64) ||| (hi.toInt64)) < (-128 : Int64)) ∧ (127 : Int64) < (((lo.toInt64) <<< ((32 : Int32) &&& 0x3f).toInt64) ||| (hi.toInt64)) ∧ ¬ (lo = (-1 : Int32))
theorem own_dec1 (p2 : Int32) : DecS ((2 : Int32) ^^^ (p2 &&& (1 : Int32))) ((4 : Int32) ^^^ ((p2 >>> ((1 : Int32) &&& 31)) &&& (1 : Int32))) := by
  unfold DecS
  rcases own_mask1 p2 with h | h <;> rcases own_mask1 (p2 >>> ((1 : Int32) &&& 31)) with h' | h' <;> rw [h, h'] <;> decide +kernel
theorem own_dec0 (p2 : Int32) : DecS ((2 : Int32) ^^^ (p2 &&& (1 : Int32))) ((6 : Int32) ^^^ ((p2 >>> ((1 : Int32) &&& 31)) &&& (1 : Int32))) := by
  unfold DecS
  rcases own_mask1 p2 with h | h <;> rcases own_mask1 (p2 >>> ((1 : Int32) &&& 31)) with h' | h' <;> rw [h, h'] <;> decide +kernel
set_option maxRecDepth 65536 in
set_option maxHeartbeats 4000000 in
theorem rm0_all (l : Launch) (Z : State) (a0 : Array Value) (hw : ∀ d ∈ tables_1, d.before a0 Z = true) (ws : List Jvm.Cond) (w_cache : Addr) (cl_w_cache : Cell) (p1 p2 p3 : Int32) (h0 : Heap) (n0 : Nat) (Z0 : n0 ≤ h0.size) (O0 : Old Z n0 h0) (HW : World Z w_cache cl_w_cache) :
    MetFree l x (head1 (Jvm.Cond.code x code maxLocals ret :: ws) room_1) (fun a U => a = #[(.int p1), (.int p2), (.int p3)] ∧ Z.Warmed39 U.vm ∧ U.heap = h0) (fun _ _ _ _ _ => True) (fun _ U o U' => ∃ v L, o = .returned v ∧ Q0 h0 n0 v U'.heap L ∧ FrameEnd U o U' L room_1.cells room_1.slots) := by
  refine MetFree.of_bodySF (plainFor_of_name pn452) hisR ?_
  intro p e s m args below meth c s₁ Bd hml0 hP hK
  obtain ⟨rfl, hZ, hh0⟩ := hP
  have hx := Bd.exec
  have hby := Bd.bytes
  have hml : c.maxLocals = 12 := hml0
  have hown : s.vm.findClass "com/example/minos/minos/analysis/CircuitIsGatePinLaw" = some m.cls := findClass_of_methodNamed Bd.named
  have X0 : Stand p l e room_1 s m #[(.int p1), (.int p2), (.int p3)] below meth c s₁ [] 0 0 := Stand.of_body Bd
  have e0 : s₁.heap = h0 := by rw [← hh0, Bd.state]; rfl
  have hlk : meth.locks = false := BodyLoose.notSynchronized Bd
  have ef : entryFrame m #[(.int p1), (.int p2), (.int p3)] maxLocals = mkF m 0 #[.val (.int p1), .val (.int p2), .val (.int p3), .unset, .unset, .unset, .unset, .unset, .unset, .unset, .unset, .unset] [] := by first | (simp [entryFrame, mkF, argsToLocals, Value.category, maxLocals]; done) | rfl
  obtain ⟨T1, L1, co, X1, N1, K1, O1, z1, E1, A1, A2, A3, A4, -, c1⟩ := lA p1 p2 p3 X0 hx hZ hw hby hml hown e0 (Fr.nil n0) O0
  have go : n0 ≤ co := Nat.le_trans (own_n0 O0) z1
  have lco : co < T1.heap.size := E1.lt
  obtain ⟨T2, _, L2, X2, ⟨F, S, hm, kF, kS, rfl, N2, K2, O2, y1, y2, y3, y4, y5, E2, B1, B2, B3, B4, VF, EF, VS, ES, M0, -, M1, M2, M3, M4, -⟩, c2⟩ := cI (Ls := #[.val (.int p1), .val (.int p2), .val (.int p3), .unset, .unset, .unset, .unset, .unset, .unset, .unset, .unset, .unset]) co co X1 hx hZ hw hby hml hown rfl rfl (rm1_2 l Z a0 hw [] co T1.heap n0 (own_n0 O1) O1 E1 A1 A2 A3 A4 go) (by decide) (by decide) (by decide) (by decide)
  have nF : F ≠ co := Nat.ne_of_gt (Nat.lt_of_lt_of_le lco y1)
  have nS : S ≠ co := Nat.ne_of_gt (Nat.lt_of_lt_of_le lco y2)
  have nho : hm ≠ co := Nat.ne_of_gt (Nat.lt_of_lt_of_le lco y3)
  have nFS : F ≠ S := Nat.ne_of_lt y4
  have nhS : hm ≠ S := Nat.ne_of_gt y5
  have nhF : hm ≠ F := Nat.ne_of_gt (Nat.lt_trans y4 y5)
  have n1 := own_n0 O1
  have gF : n0 ≤ F := Nat.le_trans n1 y1
  have gS : n0 ≤ S := Nat.le_trans n1 y2
  have gh : n0 ≤ hm := Nat.le_trans n1 y3
  have nh3 : hm ∉ [F, S, co] := ninS nhF (ninS nhS (ninS nho nin0))
  by_cases hd : (p3 &&& (1 : Int32)) = (0 : Int32)
  · obtain ⟨T3, L3, X3, N3, K3, O3, VF3, VS3, E3, D1, D2, D3, D4, -, c3⟩ := lB0 p1 p2 p3 co F S kF kS hm X2 hx hZ hw hby hml hown rfl (Fr.app N1 N2) O2 E2 B1 B2 B3 VF VS B4 nF nFS nS gF gS go hd
    obtain ⟨d0, d1, d2, d3, d4, d5, d6, d7, d8, d9, d10⟩ := own_dec0 p2
    obtain ⟨T4, _, L4, X4, ⟨rfl, N4, K4, O4, G0, G1, G2, G3, G4, G5⟩, c4⟩ := cAnd0 (Ls := #[.val (.int p1), .val (.int p2), .val (.int p3), .val (.ref co), .val (.int (2 : Int32)), .val (.int (4 : Int32)), .val (.int (0 : Int32)), .val (.int (p2 &&& (1 : Int32))), .val (.int ((p2 >>> ((1 : Int32) &&& 31)) &&& (1 : Int32))), .unset, .val (.int (6 : Int32)), .unset]) co ((2 : Int32) ^^^ (p2 &&& (1 : Int32))) ((6 : Int32) ^^^ ((p2 >>> ((1 : Int32) &&& 31)) &&& (1 : Int32))) X3 hx hZ hw hby hml hown rfl rfl E3 (rmAn4 l Z a0 hw w_cache cl_w_cache HW hm co F S kF kS ((2 : Int32) ^^^ (p2 &&& (1 : Int32))) ((6 : Int32) ^^^ ((p2 >>> ((1 : Int32) &&& 31)) &&& (1 : Int32))) (0 : Int32) (-1 : Int32) (-1 : Int32) (-1 : Int32) (0 : Int32) (0 : Int32) (0 : Int32) (-1 : Int32) (-1 : Int32) (-1 : Int32) (0 : Int32) (0 : Int32) T3.heap n0 O3 (M0.keep K3) (M1.keep K3 nh3) (M2.keep K3 nh3) (M3.keep K3 nh3) (M4.keep K3 nh3) E3 D1 D2 D3 VF3 VS3 D4 nF nFS nS nhF nhS nho gF gS go gh d0 d1 d2 d3 d4 d5 d6 d7 d8 d9) (by decide) (by decide) (by decide) (by decide)
    rcases own_rem5 p1 with hk | hk | hk | hk | hk
    · exact lT00 p1 p2 p3 co (p2 &&& (1 : Int32)) ((p2 >>> ((1 : Int32) &&& 31)) &&& (1 : Int32)) (8 : Int32) F S kF ((2 : Int32) ^^^ (p2 &&& (1 : Int32))) kS ((6 : Int32) ^^^ ((p2 >>> ((1 : Int32) &&& 31)) &&& (1 : Int32))) X4 hx hZ hw hby hml hown rfl (Fr.app N3 N4) O4 hk G0 G1 G2 G3 G4 G5 d10 Bd.returns hlk (fun t kt => castTop ef (c1 t (c2 t (c3 t (c4 t kt)))))
    · exact lT01 p1 p2 p3 co (p2 &&& (1 : Int32)) ((p2 >>> ((1 : Int32) &&& 31)) &&& (1 : Int32)) (8 : Int32) F S kF ((2 : Int32) ^^^ (p2 &&& (1 : Int32))) kS ((6 : Int32) ^^^ ((p2 >>> ((1 : Int32) &&& 31)) &&& (1 : Int32))) X4 hx hZ hw hby hml hown rfl (Fr.app N3 N4) O4 hk G0 G1 G2 G3 G4 G5 d10 Bd.returns hlk (fun t kt => castTop ef (c1 t (c2 t (c3 t (c4 t kt)))))
    · exact lT02 p1 p2 p3 co (p2 &&& (1 : Int32)) ((p2 >>> ((1 : Int32) &&& 31)) &&& (1 : Int32)) (8 : Int32) F S kF ((2 : Int32) ^^^ (p2 &&& (1 : Int32))) kS ((6 : Int32) ^^^ ((p2 >>> ((1 : Int32) &&& 31)) &&& (1 : Int32))) X4 hx hZ hw hby hml hown rfl (Fr.app N3 N4) O4 hk G0 G1 G2 G3 G4 G5 d10 Bd.returns hlk (fun t kt => castTop ef (c1 t (c2 t (c3 t (c4 t kt)))))
    · exact lT03 p1 p2 p3 co (p2 &&& (1 : Int32)) ((p2 >>> ((1 : Int32) &&& 31)) &&& (1 : Int32)) (8 : Int32) F S kF ((2 : Int32) ^^^ (p2 &&& (1 : Int32))) kS ((6 : Int32) ^^^ ((p2 >>> ((1 : Int32) &&& 31)) &&& (1 : Int32))) X4 hx hZ hw hby hml hown rfl (Fr.app N3 N4) O4 hk G0 G1 G2 G3 G4 G5 d10 Bd.returns hlk (fun t kt => castTop ef (c1 t (c2 t (c3 t (c4 t kt)))))
    · exact lT04 p1 p2 p3 co (p2 &&& (1 : Int32)) ((p2 >>> ((1 : Int32) &&& 31)) &&& (1 : Int32)) (8 : Int32) F S kF ((2 : Int32) ^^^ (p2 &&& (1 : Int32))) kS ((6 : Int32) ^^^ ((p2 >>> ((1 : Int32) &&& 31)) &&& (1 : Int32))) X4 hx hZ hw hby hml hown rfl (Fr.app N3 N4) O4 hk G0 G1 G2 G3 G4 G5 d10 Bd.returns hlk (fun t kt => castTop ef (c1 t (c2 t (c3 t (c4 t kt)))))
  · obtain ⟨T3, L3, X3, N3, K3, O3, VF3, VS3, E3, D1, D2, D3, D4, -, c3⟩ := lB1 p1 p2 p3 co F S kF kS hm X2 hx hZ hw hby hml hown rfl (Fr.app N1 N2) O2 E2 B1 B2 B3 VF VS B4 nF nFS nS gF gS go hd
    obtain ⟨d0, d1, d2, d3, d4, d5, d6, d7, d8, d9, d10⟩ := own_dec1 p2
    obtain ⟨T4, _, L4, X4, ⟨rfl, N4, K4, O4, G0, G1, G2, G3, G4, G5⟩, c4⟩ := cAnd1 (Ls := #[.val (.int p1), .val (.int p2), .val (.int p3), .val (.ref co), .val (.int (2 : Int32)), .val (.int (4 : Int32)), .val (.int (1 : Int32)), .val (.int (p2 &&& (1 : Int32))), .val (.int ((p2 >>> ((1 : Int32) &&& 31)) &&& (1 : Int32))), .unset, .unset, .unset]) co ((2 : Int32) ^^^ (p2 &&& (1 : Int32))) ((4 : Int32) ^^^ ((p2 >>> ((1 : Int32) &&& 31)) &&& (1 : Int32))) X3 hx hZ hw hby hml hown rfl rfl E3 (rmAn3 l Z a0 hw w_cache cl_w_cache HW hm co F S kF kS ((2 : Int32) ^^^ (p2 &&& (1 : Int32))) ((4 : Int32) ^^^ ((p2 >>> ((1 : Int32) &&& 31)) &&& (1 : Int32))) (0 : Int32) (-1 : Int32) (-1 : Int32) (0 : Int32) (0 : Int32) (0 : Int32) (0 : Int32) (-1 : Int32) (-1 : Int32) (0 : Int32) (0 : Int32) (0 : Int32) T3.heap n0 O3 (M0.keep K3) (M1.keep K3 nh3) (M2.keep K3 nh3) (M3.keep K3 nh3) (M4.keep K3 nh3) E3 D1 D2 D3 VF3 VS3 D4 nF nFS nS nhF nhS nho gF gS go gh d0 d1 d2 d3 d4 d5 d6 d7 d8 d9) (by decide) (by decide) (by decide) (by decide)
    rcases own_rem5 p1 with hk | hk | hk | hk | hk
    · exact lT10 p1 p2 p3 co (p2 &&& (1 : Int32)) ((p2 >>> ((1 : Int32) &&& 31)) &&& (1 : Int32)) (6 : Int32) F S kF ((2 : Int32) ^^^ (p2 &&& (1 : Int32))) kS ((4 : Int32) ^^^ ((p2 >>> ((1 : Int32) &&& 31)) &&& (1 : Int32))) X4 hx hZ hw hby hml hown rfl (Fr.app N3 N4) O4 hk G0 G1 G2 G3 G4 G5 nF nFS nS gF gS go d10 Bd.returns hlk (fun t kt => castTop ef (c1 t (c2 t (c3 t (c4 t kt)))))
    · exact lT11 p1 p2 p3 co (p2 &&& (1 : Int32)) ((p2 >>> ((1 : Int32) &&& 31)) &&& (1 : Int32)) (6 : Int32) F S kF ((2 : Int32) ^^^ (p2 &&& (1 : Int32))) kS ((4 : Int32) ^^^ ((p2 >>> ((1 : Int32) &&& 31)) &&& (1 : Int32))) X4 hx hZ hw hby hml hown rfl (Fr.app N3 N4) O4 hk G0 G1 G2 G3 G4 G5 nF nFS nS gF gS go d10 Bd.returns hlk (fun t kt => castTop ef (c1 t (c2 t (c3 t (c4 t kt)))))
    · exact lT12 p1 p2 p3 co (p2 &&& (1 : Int32)) ((p2 >>> ((1 : Int32) &&& 31)) &&& (1 : Int32)) (6 : Int32) F S kF ((2 : Int32) ^^^ (p2 &&& (1 : Int32))) kS ((4 : Int32) ^^^ ((p2 >>> ((1 : Int32) &&& 31)) &&& (1 : Int32))) X4 hx hZ hw hby hml hown rfl (Fr.app N3 N4) O4 hk G0 G1 G2 G3 G4 G5 nF nFS nS gF gS go d10 Bd.returns hlk (fun t kt => castTop ef (c1 t (c2 t (c3 t (c4 t kt)))))
    · exact lT13 p1 p2 p3 co (p2 &&& (1 : Int32)) ((p2 >>> ((1 : Int32) &&& 31)) &&& (1 : Int32)) (6 : Int32) F S kF ((2 : Int32) ^^^ (p2 &&& (1 : Int32))) kS ((4 : Int32) ^^^ ((p2 >>> ((1 : Int32) &&& 31)) &&& (1 : Int32))) X4 hx hZ hw hby hml hown rfl (Fr.app N3 N4) O4 hk G0 G1 G2 G3 G4 G5 nF nFS nS gF gS go d10 Bd.returns hlk (fun t kt => castTop ef (c1 t (c2 t (c3 t (c4 t kt)))))
    · exact lT14 p1 p2 p3 co (p2 &&& (1 : Int32)) ((p2 >>> ((1 : Int32) &&& 31)) &&& (1 : Int32)) (6 : Int32) F S kF ((2 : Int32) ^^^ (p2 &&& (1 : Int32))) kS ((4 : Int32) ^^^ ((p2 >>> ((1 : Int32) &&& 31)) &&& (1 : Int32))) X4 hx hZ hw hby hml hown rfl (Fr.app N3 N4) O4 hk G0 G1 G2 G3 G4 G5 nF nFS nS gF gS go d10 Bd.returns hlk (fun t kt => castTop ef (c1 t (c2 t (c3 t (c4 t kt)))))
set_option maxRecDepth 65536 in
set_option maxHeartbeats 40000000 in
theorem comes_1 {Post : Tables → Env → Array Value → State → Outcome → State → Prop} (hpost : ∀ tb e args s v u, (limb_1_1.after args s (.returned v) u = true ∧ limb_1_2.after args s (.returned v) u = true ∧ True) → FrameEnd s (.returned v) u (Jvm.fieldLocs frame_1_writes args s ++ Jvm.arrayLocs frame_1_arrays args s ++ Jvm.staticLocs frame_1_statics s) 24 4288 → Post tb e args s (.returned v) u) :
    ArmFor flags0 classFile x code maxLocals ret World_1 tables_1 room_1 Calls_1 rest_1 Pre_1 Post := by
  intro l hfl _ _ p e ha hc hk s m args below hf hA hF happ hP
  obtain ⟨hcalls, hrest, hpre⟩ := hP
  obtain ⟨-, -, -, hnamed, -, -, -, hat⟩ := (Spec.applies_iff hf).mp happ
  obtain ⟨hg, hn⟩ := and_e (Cond.before_iff.mp (show (Jvm.Cond.and given_1 narrow_1).before args s = true from hpre))
  obtain ⟨hg1a, hg1b⟩ := and_e hg
  obtain ⟨hg2a, hg2b⟩ := and_e hg1b
  obtain ⟨hg3a, hg3b⟩ := and_e hg2b
  obtain ⟨w0, w1, w2, rfl⟩ : ∃ w0 w1 w2 : Value, args = #[w0, w1, w2] := by
    have hs : args.size = 3 := by simpa [Cond.value, given_1] using hg1a
    obtain ⟨L⟩ := args
    match L, hs with
    | [w0, w1, w2], _ => exact ⟨w0, w1, w2, rfl⟩
  have hw := fun d (hd : d ∈ tables_1) => atoms_spec (ws := Jvm.Cond.code x code maxLocals ret :: tables_1) hat d (List.mem_cons_of_mem _ hd)
  have hfit : Fit s := fun {y c} hc i hi => by
    obtain ⟨ha, rfl⟩ := Array.getElem?_eq_some_iff.mp hc
    have q := List.all_eq_true.mp ((Array.all_eq_true_iff_forall_mem.mp hF) _ (Array.getElem_mem ha)) i (List.mem_range.mpr hi)
    simpa [Array.getElem?_eq_getElem hi] using q
  obtain ⟨i0, ei0⟩ := is_v hg2a
  obtain rfl : w0 = (.int i0) := Option.some.inj ei0
  obtain ⟨i1, ei1⟩ := is_v hg3a
  obtain rfl : w1 = (.int i1) := Option.some.inj ei1
  obtain ⟨i2, ei2⟩ := is_v hg3b
  obtain rfl : w2 = (.int i2) := Option.some.inj ei2
  obtain ⟨hsets, hown0⟩ := atoms_of _ (rest_1_c_eq ▸ (show rest_1_c.before _ s = true from hrest))
  have ev_high := own_staI (Cond.before_iff.mp (hsets _ (List.mem_of_getElem? (i := 3) rfl)))
  have S_high := Sta.start ev_high (Or.inl (hsets _ (List.mem_of_getElem? (i := 1) rfl)))
  have hs4 := Cond.before_iff.mp (hsets _ (List.mem_of_getElem? (i := 4) rfl))
  obtain ⟨w_cache, ev_w_cache⟩ := arr_v hs4
  have S_w_cache := Sta.start ev_w_cache (Or.inr ⟨(hw _ (List.mem_of_getElem? (i := 130) rfl)), (hsets _ (List.mem_of_getElem? (i := 2) rfl))⟩)
  obtain ⟨cl_w_cache, Ar_w_cache⟩ := Arr.start ev_w_cache hs4
  have hs6 := Cond.before_iff.mp (hsets _ (List.mem_of_getElem? (i := 6) rfl))
  have Sz_w_cache := own_len (n := (256 : Int32)) hs6 ev_w_cache Ar_w_cache
  have AL_w_cache : (∀ j : Int32, (¬ j < 0 ∧ j < 256) → ∃ b : Addr, ¬ (j < 0 ∨ cl_w_cache.slots.size ≤ j.toNatClampNeg) ∧ cl_w_cache.slots[j.toNatClampNeg]? = some (.ref b) ∧ Exa s s.heap b "java/lang/Integer" ∧ Fld s s.heap b "java/lang/Integer" "value" "I" (.int (j - 128))) := fun j hj => by
    obtain ⟨b, q1, q2, q3, q4, q5⟩ := own_allE (Cond.before_iff.mp (hsets _ (List.mem_of_getElem? (i := 7) rfl))) ev_w_cache Ar_w_cache (own_small hs6 ev_w_cache Ar_w_cache) Sz_w_cache j hj
    refine ⟨b, q1, q2, q3, own_fldG q5 q4 ?_⟩
    show some (Value.int (j.toNatClampNeg.toInt32 - 128)) = _
    rw [(back32 hj.1).1]
  have HW : World s w_cache cl_w_cache := ⟨S_high, S_w_cache, Ar_w_cache, Sz_w_cache, AL_w_cache, trivial⟩
  obtain ⟨n, o, h1, h2, h3, _, L, rfl, ⟨rfl, N⟩, hq⟩ := rm0_all l s _ hw tables_1 w_cache cl_w_cache i0 i1 i2 s.heap s.heap.size (Nat.le_refl _) (Old.start s) HW p e ha hc hk s m _ below hf ((Spec.applies_iff_loose hf).mp happ).1 ⟨rfl, State.Warmed39.refl s, rfl⟩ trivial
  exact ⟨n, _, h1, h2, h3, hpost _ _ _ _ _ _ ⟨Cond.after_iff.mpr rfl, Cond.after_iff.mpr (eq_i res_at (Term.int_eval (1)) rfl), trivial⟩ ⟨hq.1, hq.2.1, (hq.2.2.sift fun y hy => Or.inr (N y hy)).mono (by decide) (by decide)⟩⟩
theorem main_1_1 : Claimed_1_1 := comes_1 fun _ _ _ _ _ _ h hF => ⟨h.1, Jvm.RoadKit.wide hF⟩
theorem main_1_2 : Claimed_1_2 := comes_1 fun _ _ _ _ _ _ h hF => ⟨h.2.1, Jvm.RoadKit.wide hF⟩
end Jvm.Pilot.@@N@@
namespace Jvm.Pilot.@@N@@
open Jvm Jvm.ClassFile Sem Op Lib Jvm.Free Jvm.Stand Jvm.Pilot.@@N@@.Jvm.D
/-! MADE BY PROGRAM (witnessworld.py) out of the Statement's table words and the real class files: 26 classes; the members and pool entries that the words name. The judged class is class 1, her method 1. -/
namespace start1
open Jvm.ClassFile
/-- so many bytes of a class file that the Statement bears -/
def own_cut (n off len : Nat) : ByteArray := ⟨((List.range len).map fun i => UInt8.ofNat (n >>> (8 * (off + i)))).toArray⟩
def u (s : String) : CpInfo := .utf8 (stringToUtf16 s)
/-- a pool by its gaps: so many unusable entries, then the entry; so many at the end -/
def gap : Nat → List CpInfo → List CpInfo
  | 0, r => r
  | n + 1, r => .unusable :: gap n r
def poolList (es : List (Nat × CpInfo)) (last : Nat) : List CpInfo := es.foldr (fun e r => gap e.1 (e.2 :: r)) (gap last [])
def pool (es : List (Nat × CpInfo)) (last : Nat) : Array CpInfo := ⟨poolList es last⟩
def fileOf (pool : Array CpInfo) (this : Nat) (attrs : Array Attribute := #[]) (ms : Array MethodInfo := #[]) (fl : Nat := 33) (sup : Nat := 0) (ifs : Array Nat := #[]) (fds : Array FieldInfo := #[]) : ClassFile where
  minorVersion := 0
  majorVersion := 65
  constantPool := pool
  accessFlags := fl
  thisClass := this
  superClass := sup
  interfaces := ifs
  fields := fds
  methods := ms
  attributes := attrs
def plain (name : String) (sup : Option ClassId) : Class where
  name := name
  kind := .ordinary
  loader := none
  accessFlags := 33
  super := sup
  interfaces := #[]
  cf := none
  fields := #[]
  methods := #[]
  instanceTypes := #[]
  staticTypes := #[]
  resolved := #[]
  callSites := []
  init := .initialized
  statics := none
  mirror := none

def pool0 : Array CpInfo := pool [(5, u "<init>"), (0, u "()V"), (1, .class_ 10), (1, u "java/lang/Object"), (16, u "hashCode"), (0, u "()I")] 95

def k0c0 : Code := { maxStack := 0, maxLocals := 1, code := object_method_1_code, exceptionTable := #[], attributes := #[] }
def k0m0 : Method := { name := "<init>", desc := "()V", sig := { parameters := [], returnType := none }, accessFlags := 1, code := some k0c0 }
def k0m1 : Method := { name := "hashCode", desc := "()I", sig := { parameters := [], returnType := some .int }, accessFlags := 257, code := none }
/-- java/lang/Object -/
def k0 : Class := { plain "java/lang/Object" none with
  accessFlags := 33
  interfaces := #[]
  cf := some (fileOf pool0 8 #[] #[{ accessFlags := 1, nameIndex := 5, descriptorIndex := 6, attributes := #[] }, { accessFlags := 257, nameIndex := 27, descriptorIndex := 28, attributes := #[] }] 33 0 #[] #[])
  fields := #[]
  methods := #[k0m0, k0m1]
  instanceTypes := #[]
  staticTypes := #[]
  resolved := Array.replicate 124 none
  statics := none }

def pool1 : Array CpInfo := pool [(2, .class_ 4), (0, .nameAndType 5 6), (0, u "java/lang/Object"), (0, u "<init>"), (0, u "()V"), (0, .class_ 8), (0, u "com/example/minos/minos/analysis/Circuit"), (0, .methodref 7 3), (0, .methodref 7 11), (0, .nameAndType 12 13), (0, u "input"), (0, u "()I"), (0, .methodref 7 15), (0, .nameAndType 16 17), (0, u "and"), (0, u "(II)I"), (0, .integer 2147483647), (0, .methodref 7 20), (0, .nameAndType 21 22), (0, u "isGate"), (0, u "(I)Z"), (0, .class_ 24), (0, u "com/example/minos/minos/analysis/CircuitIsGatePinLaw"), (2, u "law"), (0, u "(III)Z")] 3

def k1m0 : Method := { name := "<init>", desc := "()V", sig := { parameters := [], returnType := none }, accessFlags := 1, code := none }
def k1c1 : Code := { maxStack := 4, maxLocals := 12, code := code, exceptionTable := #[], attributes := #[] }
def k1m1 : Method := { name := "law", desc := "(III)Z", sig := { parameters := [.int, .int, .int], returnType := some .boolean }, accessFlags := 9, code := some k1c1 }
/-- com/example/minos/minos/analysis/CircuitIsGatePinLaw -/
def k1 : Class := { plain "com/example/minos/minos/analysis/CircuitIsGatePinLaw" (some 0) with
  accessFlags := 49
  interfaces := #[]
  cf := some (fileOf pool1 23 #[] #[{ accessFlags := 1, nameIndex := 5, descriptorIndex := 6, attributes := #[] }, { accessFlags := 9, nameIndex := 27, descriptorIndex := 28, attributes := #[] }] 49 2 #[] #[])
  fields := #[]
  methods := #[k1m0, k1m1]
  instanceTypes := #[]
  staticTypes := #[]
  resolved := Array.replicate 32 none
  statics := none }

def pool2 : Array CpInfo := pool [(1, .methodref 2 3), (0, .class_ 4), (0, .nameAndType 5 6), (0, u "java/lang/Object"), (0, u "<init>"), (0, u "()V"), (0, .fieldref 8 9), (0, .class_ 10), (0, .nameAndType 11 12), (0, u "com/example/minos/minos/analysis/Circuit"), (0, u "first"), (0, u "[I"), (0, .fieldref 8 14), (0, .nameAndType 15 12), (0, u "second"), (0, .fieldref 8 17), (0, .nameAndType 18 19), (0, u "nodes"), (0, u "I"), (0, .class_ 21), (0, u "java/util/HashMap"), (0, .methodref 20 3), (0, .fieldref 8 24), (0, .nameAndType 25 26), (0, u "gates"), (0, u "Ljava/util/Map;"), (0, .methodref 8 28), (0, .nameAndType 29 30), (0, u "add"), (0, u "(II)I"), (0, .methodref 8 32), (0, .nameAndType 33 34), (0, u "not"), (0, u "(I)I"), (0, .methodref 36 37), (0, .class_ 38), (0, .nameAndType 39 30), (0, u "java/lang/Math"), (0, u "min"), (0, .methodref 36 41), (0, .nameAndType 42 30), (0, u "max"), (0, .methodref 44 45), (0, .class_ 46), (0, .nameAndType 47 48), (0, u "java/lang/Long"), (0, u "valueOf"), (0, u "(J)Ljava/lang/Long;"), (0, .invokeDynamic 0 50), (0, .nameAndType 51 52), (0, u "apply"), (0, u "(Lcom/example/minos/minos/analysis/Circuit;II)Ljava/util/function/Function;"), (0, .interfaceMethodref 54 55), (0, .class_ 56), (0, .nameAndType 57 58), (0, u "java/util/Map"), (0, u "computeIfAbsent"), (0, u "(Ljava/lang/Object;Ljava/util/function/Function;)Ljava/lang/Object;"), (0, .class_ 60), (0, u "java/lang/Integer"), (0, .methodref 59 62), (0, .nameAndType 63 64), (0, u "intValue"), (0, u "()I"), (2, u "and"), (25, .methodref 59 94), (0, .nameAndType 47 95), (0, u "(I)Ljava/lang/Integer;"), (0, u "FALSE"), (2, u "TRUE"), (1, u "INPUT"), (6, u "input"), (6, u "isGate"), (0, u "(I)Z"), (0, u "lambda$and$0"), (0, u "(IILjava/lang/Long;)Ljava/lang/Integer;"), (3, .methodType 123), (0, u "(Ljava/lang/Object;)Ljava/lang/Object;"), (0, .methodHandle 5 125), (0, .methodref 8 126), (0, .nameAndType 117 118), (0, .methodType 128), (0, u "(Ljava/lang/Long;)Ljava/lang/Integer;"), (0, .methodHandle 6 130), (0, .methodref 131 132), (0, .class_ 133), (0, .nameAndType 134 135), (0, u "java/lang/invoke/LambdaMetafactory"), (0, u "metafactory"), (0, u "(Ljava/lang/invoke/MethodHandles$Lookup;Ljava/lang/String;Ljava/lang/invoke/MethodType;Ljava/lang/invoke/MethodType;Ljava/lang/invoke/MethodHandle;Ljava/lang/invoke/MethodType;)Ljava/lang/invoke/CallSite;")] 6

def k2c0 : Code := { maxStack := 3, maxLocals := 1, code := prog_12_method_1_code, exceptionTable := #[], attributes := #[] }
def k2m0 : Method := { name := "<init>", desc := "()V", sig := { parameters := [], returnType := none }, accessFlags := 0, code := some k2c0 }
def k2c1 : Code := { maxStack := 2, maxLocals := 1, code := prog_12_method_2_code, exceptionTable := #[], attributes := #[] }
def k2m1 : Method := { name := "not", desc := "(I)I", sig := { parameters := [.int], returnType := some .int }, accessFlags := 8, code := some k2c1 }
def k2c2 : Code := { maxStack := 4, maxLocals := 1, code := prog_12_method_4_code, exceptionTable := #[], attributes := #[] }
def k2m2 : Method := { name := "input", desc := "()I", sig := { parameters := [], returnType := some .int }, accessFlags := 0, code := some k2c2 }
def k2c3 : Code := { maxStack := 5, maxLocals := 6, code := prog_12_method_5_code, exceptionTable := #[], attributes := #[] }
def k2m3 : Method := { name := "and", desc := "(II)I", sig := { parameters := [.int, .int], returnType := some .int }, accessFlags := 0, code := some k2c3 }
def k2c4 : Code := { maxStack := 2, maxLocals := 2, code := prog_12_method_11_code, exceptionTable := #[], attributes := #[] }
def k2m4 : Method := { name := "isGate", desc := "(I)Z", sig := { parameters := [.int], returnType := some .boolean }, accessFlags := 0, code := some k2c4 }
def k2c5 : Code := { maxStack := 4, maxLocals := 3, code := prog_12_method_14_code, exceptionTable := #[], attributes := #[] }
def k2m5 : Method := { name := "add", desc := "(II)I", sig := { parameters := [.int, .int], returnType := some .int }, accessFlags := 2, code := some k2c5 }
def k2c6 : Code := { maxStack := 4, maxLocals := 4, code := prog_12_method_15_code, exceptionTable := #[], attributes := #[] }
def k2m6 : Method := { name := "lambda$and$0", desc := "(IILjava/lang/Long;)Ljava/lang/Integer;", sig := { parameters := [.int, .int, (.object "java/lang/Long")], returnType := some (.object "java/lang/Integer") }, accessFlags := 4098, code := some k2c6 }
/-- com/example/minos/minos/analysis/Circuit -/
def k2 : Class := { plain "com/example/minos/minos/analysis/Circuit" (some 0) with
  accessFlags := 48
  interfaces := #[]
  cf := some (fileOf pool2 8 #[.bootstrapMethods #[⟨129, #[122, 124, 127]⟩]] #[{ accessFlags := 0, nameIndex := 5, descriptorIndex := 6, attributes := #[] }, { accessFlags := 8, nameIndex := 33, descriptorIndex := 34, attributes := #[] }, { accessFlags := 0, nameIndex := 108, descriptorIndex := 64, attributes := #[] }, { accessFlags := 0, nameIndex := 67, descriptorIndex := 30, attributes := #[] }, { accessFlags := 0, nameIndex := 115, descriptorIndex := 116, attributes := #[] }, { accessFlags := 2, nameIndex := 29, descriptorIndex := 30, attributes := #[] }, { accessFlags := 4098, nameIndex := 117, descriptorIndex := 118, attributes := #[] }] 48 2 #[] #[{ accessFlags := 24, nameIndex := 96, descriptorIndex := 19, attributes := #[] }, { accessFlags := 24, nameIndex := 99, descriptorIndex := 19, attributes := #[] }, { accessFlags := 26, nameIndex := 101, descriptorIndex := 19, attributes := #[] }, { accessFlags := 2, nameIndex := 11, descriptorIndex := 12, attributes := #[] }, { accessFlags := 2, nameIndex := 15, descriptorIndex := 12, attributes := #[] }, { accessFlags := 2, nameIndex := 18, descriptorIndex := 19, attributes := #[] }, { accessFlags := 18, nameIndex := 25, descriptorIndex := 26, attributes := #[] }])
  fields := #[{ name := "FALSE", type := .int, accessFlags := 24, slot := 0, constantValue := 0 }, { name := "TRUE", type := .int, accessFlags := 24, slot := 1, constantValue := 0 }, { name := "INPUT", type := .int, accessFlags := 26, slot := 2, constantValue := 0 }, { name := "first", type := (.array .int), accessFlags := 2, slot := 0, constantValue := 0 }, { name := "second", type := (.array .int), accessFlags := 2, slot := 1, constantValue := 0 }, { name := "nodes", type := .int, accessFlags := 2, slot := 2, constantValue := 0 }, { name := "gates", type := (.object "java/util/Map"), accessFlags := 18, slot := 3, constantValue := 0 }]
  methods := #[k2m0, k2m1, k2m2, k2m3, k2m4, k2m5, k2m6]
  instanceTypes := #[(.array .int), (.array .int), .int, (.object "java/util/Map")]
  staticTypes := #[.int, .int, .int]
  resolved := Array.replicate 142 none
  callSites := [(3, 82, .makes 25)]
  statics := none }

def pool3 : Array CpInfo := pool [(2, .class_ 4), (1, u "java/util/Map"), (31, .class_ 37), (0, u "java/util/Map$Entry"), (55, .class_ 94), (0, u "java/lang/Object"), (85, u "computeIfAbsent"), (0, u "(Ljava/lang/Object;Ljava/util/function/Function;)Ljava/lang/Object;")] 81

def k3c0 : Code := { maxStack := 3, maxLocals := 5, code := own_cut jdk_72_file.n 9466 45, exceptionTable := #[], attributes := #[] }
def k3m0 : Method := { name := "computeIfAbsent", desc := "(Ljava/lang/Object;Ljava/util/function/Function;)Ljava/lang/Object;", sig := { parameters := [(.object "java/lang/Object"), (.object "java/util/function/Function")], returnType := some (.object "java/lang/Object") }, accessFlags := 1, code := some k3c0 }
/-- java/util/Map -/
def k3 : Class := { plain "java/util/Map" (some 0) with
  accessFlags := 1537
  interfaces := #[]
  cf := some (fileOf pool3 2 #[.nestMembers #[36]] #[{ accessFlags := 1, nameIndex := 180, descriptorIndex := 181, attributes := #[] }] 1537 93 #[] #[])
  fields := #[]
  methods := #[k3m0]
  instanceTypes := #[]
  staticTypes := #[]
  resolved := Array.replicate 263 none
  statics := none }

def pool4 : Array CpInfo := pool [(1, .methodref 2 3), (0, .class_ 4), (0, .nameAndType 5 6), (0, u "java/lang/Object"), (0, u "<init>"), (0, u "()V"), (1, .class_ 10), (1, u "java/util/AbstractMap"), (42, .class_ 54), (0, u "java/util/Map"), (9, u "keySet"), (0, u "Ljava/util/Set;"), (0, .class_ 67), (0, u "java/util/AbstractMap$1"), (5, u "values"), (0, u "Ljava/util/Collection;"), (0, .class_ 76), (0, u "java/util/AbstractMap$2"), (104, .class_ 182), (0, u "java/util/AbstractMap$ViewCollection"), (0, .class_ 184), (0, u "java/util/AbstractMap$SimpleImmutableEntry"), (0, .class_ 186), (0, u "java/util/AbstractMap$SimpleEntry"), (0, .class_ 188), (0, u "java/util/AbstractMap$2$1"), (0, .class_ 190), (0, u "java/util/AbstractMap$1$1")] 5

def k4c0 : Code := { maxStack := 1, maxLocals := 1, code := jdk_71_method_1_code, exceptionTable := #[], attributes := #[] }
def k4m0 : Method := { name := "<init>", desc := "()V", sig := { parameters := [], returnType := none }, accessFlags := 4, code := some k4c0 }
/-- java/util/AbstractMap -/
def k4 : Class := { plain "java/util/AbstractMap" (some 0) with
  accessFlags := 1057
  interfaces := #[3]
  cf := some (fileOf pool4 8 #[.nestMembers #[181, 183, 185, 75, 187, 66, 189]] #[{ accessFlags := 4, nameIndex := 5, descriptorIndex := 6, attributes := #[] }] 1057 2 #[53] #[{ accessFlags := 128, nameIndex := 64, descriptorIndex := 65, attributes := #[] }, { accessFlags := 128, nameIndex := 73, descriptorIndex := 74, attributes := #[] }])
  fields := #[{ name := "keySet", type := (.object "java/util/Set"), accessFlags := 128, slot := 0, constantValue := 0 }, { name := "values", type := (.object "java/util/Collection"), accessFlags := 128, slot := 1, constantValue := 0 }]
  methods := #[k4m0]
  instanceTypes := #[(.object "java/util/Set"), (.object "java/util/Collection")]
  staticTypes := #[]
  resolved := Array.replicate 196 none
  statics := none }

def pool5 : Array CpInfo := pool [(1, .class_ 2), (0, u "java/lang/Cloneable"), (0, .class_ 4), (0, u "java/lang/Object")] 2

/-- java/lang/Cloneable -/
def k5 : Class := { plain "java/lang/Cloneable" (some 0) with
  accessFlags := 1537
  interfaces := #[]
  cf := some (fileOf pool5 1 #[] #[] 1537 3 #[] #[])
  fields := #[]
  methods := #[]
  instanceTypes := #[]
  staticTypes := #[]
  resolved := Array.replicate 7 none
  statics := none }

def pool6 : Array CpInfo := pool [(1, .class_ 2), (0, u "java/io/Serializable"), (0, .class_ 4), (0, u "java/lang/Object")] 2

/-- java/io/Serializable -/
def k6 : Class := { plain "java/io/Serializable" (some 0) with
  accessFlags := 1537
  interfaces := #[]
  cf := some (fileOf pool6 1 #[] #[] 1537 3 #[] #[])
  fields := #[]
  methods := #[]
  instanceTypes := #[]
  staticTypes := #[]
  resolved := Array.replicate 7 none
  statics := none }

def pool7 : Array CpInfo := pool [(1, .methodref 2 3), (0, .class_ 4), (0, .nameAndType 5 6), (0, u "java/lang/Object"), (0, u "hashCode"), (0, u "()I"), (26, u "(Ljava/lang/Object;)I"), (6, .class_ 41), (0, u "java/util/HashMap"), (1, .methodref 44 45), (0, .class_ 46), (0, .nameAndType 47 48), (0, u "java/util/AbstractMap"), (0, u "<init>"), (0, u "()V"), (32, .fieldref 40 82), (0, .nameAndType 83 84), (0, u "loadFactor"), (0, u "F"), (3, .fieldref 40 89), (0, .nameAndType 90 91), (0, u "threshold"), (0, u "I"), (0, .float 1061158912), (8, .class_ 103), (1, u "java/util/Map"), (0, u "size"), (0, .fieldref 40 106), (0, .nameAndType 107 108), (0, u "table"), (0, u "[Ljava/util/HashMap$Node;"), (8, .methodref 40 118), (0, .nameAndType 119 120), (0, u "resize"), (0, u "()[Ljava/util/HashMap$Node;"), (2, u "entrySet"), (25, .methodref 40 150), (0, .nameAndType 151 33), (0, u "hash"), (4, .fieldref 40 157), (0, .nameAndType 104 91), (5, .class_ 165), (1, u "java/util/HashMap$Node"), (14, .class_ 181), (0, u "java/util/HashMap$TreeNode"), (4, .methodref 40 187), (0, .nameAndType 188 189), (0, u "newNode"), (0, u "(ILjava/lang/Object;Ljava/lang/Object;Ljava/util/HashMap$Node;)Ljava/util/HashMap$Node;"), (12, .fieldref 40 203), (0, .nameAndType 204 91), (0, u "modCount"), (0, .methodref 40 206), (0, .nameAndType 207 208), (0, u "afterNodeInsertion"), (0, u "(Z)V"), (33, u "Ljava/util/Set;"), (0, .class_ 244), (0, u "java/util/HashMap$KeySet"), (18, .class_ 264), (0, u "java/util/HashMap$Values"), (3, .class_ 269), (0, u "java/util/HashMap$EntrySet"), (4, .interfaceMethodref 275 276), (0, .class_ 277), (0, .nameAndType 278 279), (0, u "java/util/function/Function"), (0, u "apply"), (0, u "(Ljava/lang/Object;)Ljava/lang/Object;"), (66, .class_ 348), (1, u "java/util/HashMap$UnsafeHolder"), (26, .methodref 163 376), (0, .nameAndType 47 377), (0, u "(ILjava/lang/Object;Ljava/lang/Object;Ljava/util/HashMap$Node;)V"), (14, .class_ 393), (0, u "java/lang/Cloneable"), (0, .class_ 395), (0, u "java/io/Serializable"), (0, u "serialVersionUID"), (0, u "J"), (3, u "DEFAULT_INITIAL_CAPACITY"), (1, u "MAXIMUM_CAPACITY"), (0, u "DEFAULT_LOAD_FACTOR"), (0, u "TREEIFY_THRESHOLD"), (1, u "UNTREEIFY_THRESHOLD"), (1, u "MIN_TREEIFY_CAPACITY"), (123, u "computeIfAbsent"), (0, u "(Ljava/lang/Object;Ljava/util/function/Function;)Ljava/lang/Object;"), (61, .class_ 597), (0, u "java/util/HashMap$EntrySpliterator"), (0, .class_ 599), (0, u "java/util/HashMap$ValueSpliterator"), (0, .class_ 601), (0, u "java/util/HashMap$KeySpliterator"), (0, .class_ 603), (0, u "java/util/HashMap$HashMapSpliterator"), (0, .class_ 605), (0, u "java/util/HashMap$EntryIterator"), (0, .class_ 607), (0, u "java/util/HashMap$ValueIterator"), (0, .class_ 609), (0, u "java/util/HashMap$KeyIterator"), (0, .class_ 611), (0, u "java/util/HashMap$HashIterator")] 17

def k7c0 : Code := { maxStack := 3, maxLocals := 2, code := jdk_69_method_1_code, exceptionTable := #[], attributes := #[] }
def k7m0 : Method := { name := "hash", desc := "(Ljava/lang/Object;)I", sig := { parameters := [(.object "java/lang/Object")], returnType := some .int }, accessFlags := 24, code := some k7c0 }
def k7c1 : Code := { maxStack := 2, maxLocals := 1, code := jdk_69_method_7_code, exceptionTable := #[], attributes := #[] }
def k7m1 : Method := { name := "<init>", desc := "()V", sig := { parameters := [], returnType := none }, accessFlags := 1, code := some k7c1 }
def k7c2 : Code := { maxStack := 5, maxLocals := 14, code := jdk_69_method_17_code, exceptionTable := #[], attributes := #[] }
def k7m2 : Method := { name := "resize", desc := "()[Ljava/util/HashMap$Node;", sig := { parameters := [], returnType := some (.array (.object "java/util/HashMap$Node")) }, accessFlags := 16, code := some k7c2 }
def k7c3 : Code := { maxStack := 7, maxLocals := 13, code := jdk_69_method_35_code, exceptionTable := #[], attributes := #[] }
def k7m3 : Method := { name := "computeIfAbsent", desc := "(Ljava/lang/Object;Ljava/util/function/Function;)Ljava/lang/Object;", sig := { parameters := [(.object "java/lang/Object"), (.object "java/util/function/Function")], returnType := some (.object "java/lang/Object") }, accessFlags := 1, code := some k7c3 }
def k7c4 : Code := { maxStack := 6, maxLocals := 5, code := jdk_69_method_46_code, exceptionTable := #[], attributes := #[] }
def k7m4 : Method := { name := "newNode", desc := "(ILjava/lang/Object;Ljava/lang/Object;Ljava/util/HashMap$Node;)Ljava/util/HashMap$Node;", sig := { parameters := [.int, (.object "java/lang/Object"), (.object "java/lang/Object"), (.object "java/util/HashMap$Node")], returnType := some (.object "java/util/HashMap$Node") }, accessFlags := 0, code := some k7c4 }
def k7c5 : Code := { maxStack := 0, maxLocals := 2, code := jdk_69_method_52_code, exceptionTable := #[], attributes := #[] }
def k7m5 : Method := { name := "afterNodeInsertion", desc := "(Z)V", sig := { parameters := [.boolean], returnType := none }, accessFlags := 0, code := some k7c5 }
/-- java/util/HashMap -/
def k7 : Class := { plain "java/util/HashMap" (some 4) with
  accessFlags := 33
  interfaces := #[3, 5, 6]
  cf := some (fileOf pool7 40 #[.nestMembers #[180, 596, 598, 600, 602, 604, 606, 608, 610, 346, 268, 263, 243, 163]] #[{ accessFlags := 24, nameIndex := 151, descriptorIndex := 33, attributes := #[] }, { accessFlags := 1, nameIndex := 47, descriptorIndex := 48, attributes := #[] }, { accessFlags := 16, nameIndex := 119, descriptorIndex := 120, attributes := #[] }, { accessFlags := 1, nameIndex := 533, descriptorIndex := 534, attributes := #[] }, { accessFlags := 0, nameIndex := 188, descriptorIndex := 189, attributes := #[] }, { accessFlags := 0, nameIndex := 207, descriptorIndex := 208, attributes := #[] }] 33 44 #[101, 392, 394] #[{ accessFlags := 26, nameIndex := 396, descriptorIndex := 397, attributes := #[] }, { accessFlags := 24, nameIndex := 401, descriptorIndex := 91, attributes := #[] }, { accessFlags := 24, nameIndex := 403, descriptorIndex := 91, attributes := #[] }, { accessFlags := 24, nameIndex := 404, descriptorIndex := 84, attributes := #[] }, { accessFlags := 24, nameIndex := 405, descriptorIndex := 91, attributes := #[] }, { accessFlags := 24, nameIndex := 407, descriptorIndex := 91, attributes := #[] }, { accessFlags := 24, nameIndex := 409, descriptorIndex := 91, attributes := #[] }, { accessFlags := 128, nameIndex := 107, descriptorIndex := 108, attributes := #[] }, { accessFlags := 128, nameIndex := 123, descriptorIndex := 242, attributes := #[] }, { accessFlags := 128, nameIndex := 104, descriptorIndex := 91, attributes := #[] }, { accessFlags := 128, nameIndex := 204, descriptorIndex := 91, attributes := #[] }, { accessFlags := 0, nameIndex := 90, descriptorIndex := 91, attributes := #[] }, { accessFlags := 16, nameIndex := 83, descriptorIndex := 84, attributes := #[] }])
  fields := #[{ name := "serialVersionUID", type := .long, accessFlags := 26, slot := 0, constantValue := 0 }, { name := "DEFAULT_INITIAL_CAPACITY", type := .int, accessFlags := 24, slot := 1, constantValue := 0 }, { name := "MAXIMUM_CAPACITY", type := .int, accessFlags := 24, slot := 2, constantValue := 0 }, { name := "DEFAULT_LOAD_FACTOR", type := .float, accessFlags := 24, slot := 3, constantValue := 0 }, { name := "TREEIFY_THRESHOLD", type := .int, accessFlags := 24, slot := 4, constantValue := 0 }, { name := "UNTREEIFY_THRESHOLD", type := .int, accessFlags := 24, slot := 5, constantValue := 0 }, { name := "MIN_TREEIFY_CAPACITY", type := .int, accessFlags := 24, slot := 6, constantValue := 0 }, { name := "table", type := (.array (.object "java/util/HashMap$Node")), accessFlags := 128, slot := 2, constantValue := 0 }, { name := "entrySet", type := (.object "java/util/Set"), accessFlags := 128, slot := 3, constantValue := 0 }, { name := "size", type := .int, accessFlags := 128, slot := 4, constantValue := 0 }, { name := "modCount", type := .int, accessFlags := 128, slot := 5, constantValue := 0 }, { name := "threshold", type := .int, accessFlags := 0, slot := 6, constantValue := 0 }, { name := "loadFactor", type := .float, accessFlags := 16, slot := 7, constantValue := 0 }]
  methods := #[k7m0, k7m1, k7m2, k7m3, k7m4, k7m5]
  instanceTypes := #[(.object "java/util/Set"), (.object "java/util/Collection"), (.array (.object "java/util/HashMap$Node")), (.object "java/util/Set"), .int, .int, .int, .float]
  staticTypes := #[.long, .int, .int, .float, .int, .int, .int]
  resolved := Array.replicate 629 none
  statics := none }

def pool8 : Array CpInfo := pool [(1, .class_ 2), (0, u "java/lang/Math"), (1, .class_ 6), (1, u "java/lang/Object"), (0, u "<init>"), (0, u "()V"), (89, .class_ 100), (1, u "java/lang/Math$RandomNumberGeneratorHolder"), (71, u "negativeZeroFloatBits"), (0, u "J"), (2, u "negativeZeroDoubleBits"), (21, u "max"), (2, u "min"), (43, u "$assertionsDisabled"), (0, u "Z"), (88, u "(II)I"), (2, u "twoToTheDoubleScaleDown"), (0, u "D"), (4, u "twoToTheDoubleScaleUp"), (9, u "E"), (3, u "PI"), (2, u "TAU"), (2, u "DEGREES_TO_RADIANS"), (0, u "RADIANS_TO_DEGREES")] 94

def k8m0 : Method := { name := "<init>", desc := "()V", sig := { parameters := [], returnType := none }, accessFlags := 2, code := none }
def k8c1 : Code := { maxStack := 2, maxLocals := 2, code := jdk_29_method_65_code, exceptionTable := #[], attributes := #[] }
def k8m1 : Method := { name := "max", desc := "(II)I", sig := { parameters := [.int, .int], returnType := some .int }, accessFlags := 9, code := some k8c1 }
def k8c2 : Code := { maxStack := 2, maxLocals := 2, code := jdk_29_method_69_code, exceptionTable := #[], attributes := #[] }
def k8m2 : Method := { name := "min", desc := "(II)I", sig := { parameters := [.int, .int], returnType := some .int }, accessFlags := 9, code := some k8c2 }
/-- java/lang/Math -/
def k8 : Class := { plain "java/lang/Math" (some 0) with
  accessFlags := 49
  interfaces := #[]
  cf := some (fileOf pool8 1 #[.nestMembers #[98]] #[{ accessFlags := 2, nameIndex := 7, descriptorIndex := 8, attributes := #[] }, { accessFlags := 9, nameIndex := 198, descriptorIndex := 335, attributes := #[] }, { accessFlags := 9, nameIndex := 201, descriptorIndex := 335, attributes := #[] }] 49 4 #[] #[{ accessFlags := 25, nameIndex := 354, descriptorIndex := 339, attributes := #[] }, { accessFlags := 25, nameIndex := 358, descriptorIndex := 339, attributes := #[] }, { accessFlags := 25, nameIndex := 361, descriptorIndex := 339, attributes := #[] }, { accessFlags := 26, nameIndex := 364, descriptorIndex := 339, attributes := #[] }, { accessFlags := 26, nameIndex := 365, descriptorIndex := 339, attributes := #[] }, { accessFlags := 26, nameIndex := 172, descriptorIndex := 173, attributes := #[] }, { accessFlags := 26, nameIndex := 176, descriptorIndex := 173, attributes := #[] }, { accessFlags := 8, nameIndex := 344, descriptorIndex := 339, attributes := #[] }, { accessFlags := 8, nameIndex := 338, descriptorIndex := 339, attributes := #[] }, { accessFlags := 4120, nameIndex := 245, descriptorIndex := 246, attributes := #[] }])
  fields := #[{ name := "E", type := .double, accessFlags := 25, slot := 0, constantValue := 0 }, { name := "PI", type := .double, accessFlags := 25, slot := 1, constantValue := 0 }, { name := "TAU", type := .double, accessFlags := 25, slot := 2, constantValue := 0 }, { name := "DEGREES_TO_RADIANS", type := .double, accessFlags := 26, slot := 3, constantValue := 0 }, { name := "RADIANS_TO_DEGREES", type := .double, accessFlags := 26, slot := 4, constantValue := 0 }, { name := "negativeZeroFloatBits", type := .long, accessFlags := 26, slot := 5, constantValue := 0 }, { name := "negativeZeroDoubleBits", type := .long, accessFlags := 26, slot := 6, constantValue := 0 }, { name := "twoToTheDoubleScaleUp", type := .double, accessFlags := 8, slot := 7, constantValue := 0 }, { name := "twoToTheDoubleScaleDown", type := .double, accessFlags := 8, slot := 8, constantValue := 0 }, { name := "$assertionsDisabled", type := .boolean, accessFlags := 4120, slot := 9, constantValue := 0 }]
  methods := #[k8m0, k8m1, k8m2]
  instanceTypes := #[]
  staticTypes := #[.double, .double, .double, .double, .double, .long, .long, .double, .double, .boolean]
  resolved := Array.replicate 460 none
  statics := none }

def pool9 : Array CpInfo := pool [(1, .methodref 2 3), (0, .class_ 4), (0, .nameAndType 5 6), (0, u "java/lang/Object"), (0, u "<init>"), (0, u "()V"), (1, .class_ 10), (1, u "java/lang/Number"), (2, .class_ 14), (0, u "java/io/Serializable"), (0, u "serialVersionUID"), (0, u "J")] 20

def k9c0 : Code := { maxStack := 1, maxLocals := 1, code := jdk_18_method_1_code, exceptionTable := #[], attributes := #[] }
def k9m0 : Method := { name := "<init>", desc := "()V", sig := { parameters := [], returnType := none }, accessFlags := 1, code := some k9c0 }
/-- java/lang/Number -/
def k9 : Class := { plain "java/lang/Number" (some 0) with
  accessFlags := 1057
  interfaces := #[6]
  cf := some (fileOf pool9 8 #[] #[{ accessFlags := 1, nameIndex := 5, descriptorIndex := 6, attributes := #[] }] 1057 2 #[13] #[{ accessFlags := 26, nameIndex := 15, descriptorIndex := 16, attributes := #[] }])
  fields := #[{ name := "serialVersionUID", type := .long, accessFlags := 26, slot := 0, constantValue := 0 }]
  methods := #[k9m0]
  instanceTypes := #[]
  staticTypes := #[.long]
  resolved := Array.replicate 37 none
  statics := none }

def pool10 : Array CpInfo := pool [(1, .class_ 2), (0, u "java/lang/Comparable"), (0, .class_ 4), (0, u "java/lang/Object")] 7

/-- java/lang/Comparable -/
def k10 : Class := { plain "java/lang/Comparable" (some 0) with
  accessFlags := 1537
  interfaces := #[]
  cf := some (fileOf pool10 1 #[] #[] 1537 3 #[] #[])
  fields := #[]
  methods := #[]
  instanceTypes := #[]
  staticTypes := #[]
  resolved := Array.replicate 12 none
  statics := none }

def pool11 : Array CpInfo := pool [(1, .class_ 2), (0, u "java/lang/constant/Constable"), (0, .class_ 4), (0, u "java/lang/Object")] 6

/-- java/lang/constant/Constable -/
def k11 : Class := { plain "java/lang/constant/Constable" (some 0) with
  accessFlags := 1537
  interfaces := #[]
  cf := some (fileOf pool11 1 #[] #[] 1537 3 #[] #[])
  fields := #[]
  methods := #[]
  instanceTypes := #[]
  staticTypes := #[]
  resolved := Array.replicate 11 none
  statics := none }

def pool12 : Array CpInfo := pool [(1, .class_ 2), (0, u "java/lang/constant/ConstantDesc"), (0, .class_ 4), (0, u "java/lang/Object")] 32

/-- java/lang/constant/ConstantDesc -/
def k12 : Class := { plain "java/lang/constant/ConstantDesc" (some 0) with
  accessFlags := 1537
  interfaces := #[]
  cf := some (fileOf pool12 1 #[] #[] 1537 3 #[] #[])
  fields := #[]
  methods := #[]
  instanceTypes := #[]
  staticTypes := #[]
  resolved := Array.replicate 37 none
  statics := none }

def pool13 : Array CpInfo := pool [(1, .class_ 2), (0, u "java/lang/Long"), (55, .nameAndType 59 60), (0, u "<init>"), (0, u "()V"), (24, u "valueOf"), (15, u "(J)I"), (59, u "()I"), (67, u "(J)Ljava/lang/Long;"), (0, .long 18446744073709551488), (1, .long 127), (2, .class_ 237), (1, u "java/lang/Long$LongCache"), (2, .methodref 1 241), (0, .nameAndType 59 242), (0, u "(J)V"), (27, .methodref 271 58), (0, .class_ 272), (0, u "java/lang/Number"), (0, .fieldref 1 274), (0, .nameAndType 275 276), (0, u "value"), (0, u "J"), (0, .methodref 1 278), (0, .nameAndType 279 101), (0, u "hashCode"), (81, u "TYPE"), (0, u "Ljava/lang/Class;"), (0, .class_ 364), (0, u "java/lang/Comparable"), (0, .class_ 366), (0, u "java/lang/constant/Constable"), (0, .class_ 368), (0, u "java/lang/constant/ConstantDesc"), (0, u "MIN_VALUE"), (1, u "MAX_VALUE"), (4, u "SIZE"), (0, u "I"), (1, u "BYTES"), (1, u "serialVersionUID")] 142

def k13c0 : Code := { maxStack := 4, maxLocals := 3, code := jdk_35_method_24_code, exceptionTable := #[], attributes := #[] }
def k13m0 : Method := { name := "valueOf", desc := "(J)Ljava/lang/Long;", sig := { parameters := [.long], returnType := some (.object "java/lang/Long") }, accessFlags := 9, code := some k13c0 }
def k13c1 : Code := { maxStack := 3, maxLocals := 3, code := jdk_35_method_26_code, exceptionTable := #[], attributes := #[] }
def k13m1 : Method := { name := "<init>", desc := "(J)V", sig := { parameters := [.long], returnType := none }, accessFlags := 1, code := some k13c1 }
def k13c2 : Code := { maxStack := 2, maxLocals := 1, code := jdk_35_method_35_code, exceptionTable := #[], attributes := #[] }
def k13m2 : Method := { name := "hashCode", desc := "()I", sig := { parameters := [], returnType := some .int }, accessFlags := 1, code := some k13c2 }
def k13c3 : Code := { maxStack := 5, maxLocals := 2, code := jdk_35_method_36_code, exceptionTable := #[], attributes := #[] }
def k13m3 : Method := { name := "hashCode", desc := "(J)I", sig := { parameters := [.long], returnType := some .int }, accessFlags := 9, code := some k13c3 }
/-- java/lang/Long -/
def k13 : Class := { plain "java/lang/Long" (some 9) with
  accessFlags := 49
  interfaces := #[10, 11, 12]
  cf := some (fileOf pool13 1 #[.nestMembers #[235]] #[{ accessFlags := 9, nameIndex := 85, descriptorIndex := 229, attributes := #[] }, { accessFlags := 1, nameIndex := 59, descriptorIndex := 242, attributes := #[] }, { accessFlags := 1, nameIndex := 279, descriptorIndex := 161, attributes := #[] }, { accessFlags := 9, nameIndex := 279, descriptorIndex := 101, attributes := #[] }] 49 271 #[363, 365, 367] #[{ accessFlags := 25, nameIndex := 369, descriptorIndex := 276, attributes := #[] }, { accessFlags := 25, nameIndex := 371, descriptorIndex := 276, attributes := #[] }, { accessFlags := 25, nameIndex := 361, descriptorIndex := 362, attributes := #[] }, { accessFlags := 18, nameIndex := 275, descriptorIndex := 276, attributes := #[] }, { accessFlags := 25, nameIndex := 376, descriptorIndex := 377, attributes := #[] }, { accessFlags := 25, nameIndex := 379, descriptorIndex := 377, attributes := #[] }, { accessFlags := 26, nameIndex := 381, descriptorIndex := 276, attributes := #[] }])
  fields := #[{ name := "MIN_VALUE", type := .long, accessFlags := 25, slot := 0, constantValue := 0 }, { name := "MAX_VALUE", type := .long, accessFlags := 25, slot := 1, constantValue := 0 }, { name := "TYPE", type := (.object "java/lang/Class"), accessFlags := 25, slot := 2, constantValue := 0 }, { name := "value", type := .long, accessFlags := 18, slot := 0, constantValue := 0 }, { name := "SIZE", type := .int, accessFlags := 25, slot := 3, constantValue := 0 }, { name := "BYTES", type := .int, accessFlags := 25, slot := 4, constantValue := 0 }, { name := "serialVersionUID", type := .long, accessFlags := 26, slot := 5, constantValue := 0 }]
  methods := #[k13m0, k13m1, k13m2, k13m3]
  instanceTypes := #[.long]
  staticTypes := #[.long, .long, (.object "java/lang/Class"), .int, .int, .long]
  resolved := Array.replicate 524 none
  statics := none }

def pool14 : Array CpInfo := pool [(6, u "(Ljava/lang/Object;)Ljava/lang/Object;"), (2, u "apply"), (6, .class_ 18), (1, u "java/util/function/Function"), (0, .class_ 20), (0, u "java/lang/Object")] 56

def k14m0 : Method := { name := "apply", desc := "(Ljava/lang/Object;)Ljava/lang/Object;", sig := { parameters := [(.object "java/lang/Object")], returnType := some (.object "java/lang/Object") }, accessFlags := 1025, code := none }
/-- java/util/function/Function -/
def k14 : Class := { plain "java/util/function/Function" (some 0) with
  accessFlags := 1537
  interfaces := #[]
  cf := some (fileOf pool14 16 #[] #[{ accessFlags := 1025, nameIndex := 9, descriptorIndex := 6, attributes := #[] }] 1537 19 #[] #[])
  fields := #[]
  methods := #[k14m0]
  instanceTypes := #[]
  staticTypes := #[]
  resolved := Array.replicate 77 none
  statics := none }

def pool15 : Array CpInfo := pool [(23, .class_ 25), (1, u "java/util/Map$Entry"), (6, .class_ 34), (1, u "java/util/Map"), (34, .class_ 70), (0, u "java/lang/Object")] 107

/-- java/util/Map$Entry -/
def k15 : Class := { plain "java/util/Map$Entry" (some 0) with
  accessFlags := 1537
  interfaces := #[]
  cf := some (fileOf pool15 23 #[.nestHost 32] #[] 1537 69 #[] #[])
  fields := #[]
  methods := #[]
  instanceTypes := #[]
  staticTypes := #[]
  resolved := Array.replicate 178 none
  statics := none }

def pool16 : Array CpInfo := pool [(1, .methodref 2 3), (0, .class_ 4), (0, .nameAndType 5 6), (0, u "java/lang/Object"), (0, u "<init>"), (0, u "()V"), (0, .fieldref 8 9), (0, .class_ 10), (0, .nameAndType 11 12), (0, u "java/util/HashMap$Node"), (0, u "hash"), (0, u "I"), (0, .fieldref 8 14), (0, .nameAndType 15 16), (0, u "key"), (0, u "Ljava/lang/Object;"), (0, .fieldref 8 18), (0, .nameAndType 19 16), (0, u "value"), (0, .fieldref 8 21), (0, .nameAndType 22 23), (0, u "next"), (0, u "Ljava/util/HashMap$Node;"), (22, .class_ 47), (0, u "java/util/Map$Entry"), (15, u "(ILjava/lang/Object;Ljava/lang/Object;Ljava/util/HashMap$Node;)V"), (24, .class_ 89), (0, u "java/util/HashMap")] 5

def k16c0 : Code := { maxStack := 2, maxLocals := 5, code := jdk_70_method_1_code, exceptionTable := #[], attributes := #[] }
def k16m0 : Method := { name := "<init>", desc := "(ILjava/lang/Object;Ljava/lang/Object;Ljava/util/HashMap$Node;)V", sig := { parameters := [.int, (.object "java/lang/Object"), (.object "java/lang/Object"), (.object "java/util/HashMap$Node")], returnType := none }, accessFlags := 0, code := some k16c0 }
/-- java/util/HashMap$Node -/
def k16 : Class := { plain "java/util/HashMap$Node" (some 0) with
  accessFlags := 32
  interfaces := #[15]
  cf := some (fileOf pool16 8 #[.nestHost 88] #[{ accessFlags := 0, nameIndex := 5, descriptorIndex := 63, attributes := #[] }] 32 2 #[46] #[{ accessFlags := 16, nameIndex := 11, descriptorIndex := 12, attributes := #[] }, { accessFlags := 16, nameIndex := 15, descriptorIndex := 16, attributes := #[] }, { accessFlags := 0, nameIndex := 19, descriptorIndex := 16, attributes := #[] }, { accessFlags := 0, nameIndex := 22, descriptorIndex := 23, attributes := #[] }])
  fields := #[{ name := "hash", type := .int, accessFlags := 16, slot := 0, constantValue := 0 }, { name := "key", type := (.object "java/lang/Object"), accessFlags := 16, slot := 1, constantValue := 0 }, { name := "value", type := (.object "java/lang/Object"), accessFlags := 0, slot := 2, constantValue := 0 }, { name := "next", type := (.object "java/util/HashMap$Node"), accessFlags := 0, slot := 3, constantValue := 0 }]
  methods := #[k16m0]
  instanceTypes := #[.int, (.object "java/lang/Object"), (.object "java/lang/Object"), (.object "java/util/HashMap$Node")]
  staticTypes := #[]
  resolved := Array.replicate 95 none
  statics := none }

def pool17 : Array CpInfo := pool [(1, .class_ 2), (0, u "java/lang/Integer"), (16, u "digits"), (0, u "[C"), (64, u "DigitOnes"), (0, u "[B"), (2, u "DigitTens"), (31, u "()I"), (65, u "valueOf"), (0, u "(I)Ljava/lang/Integer;"), (0, .class_ 190), (0, u "java/lang/Integer$IntegerCache"), (0, .fieldref 189 192), (0, .nameAndType 193 194), (0, u "high"), (0, u "I"), (0, .fieldref 189 196), (0, .nameAndType 197 198), (0, u "cache"), (0, u "[Ljava/lang/Integer;"), (4, .class_ 204), (0, u "java/lang/Number"), (0, .fieldref 1 206), (0, .nameAndType 207 194), (0, u "value"), (5, u "intValue"), (88, u "TYPE"), (0, u "Ljava/lang/Class;"), (0, .class_ 305), (0, u "java/lang/Comparable"), (0, .class_ 307), (0, u "java/lang/constant/Constable"), (0, .class_ 309), (0, u "java/lang/constant/ConstantDesc"), (0, u "MIN_VALUE"), (1, u "MAX_VALUE"), (3, u "SIZE"), (1, u "BYTES"), (1, u "serialVersionUID"), (0, u "J")] 131

def k17c0 : Code := { maxStack := 3, maxLocals := 1, code := jdk_33_method_22_code, exceptionTable := #[], attributes := #[] }
def k17m0 : Method := { name := "valueOf", desc := "(I)Ljava/lang/Integer;", sig := { parameters := [.int], returnType := some (.object "java/lang/Integer") }, accessFlags := 9, code := some k17c0 }
def k17c1 : Code := { maxStack := 1, maxLocals := 1, code := jdk_33_method_27_code, exceptionTable := #[], attributes := #[] }
def k17m1 : Method := { name := "intValue", desc := "()I", sig := { parameters := [], returnType := some .int }, accessFlags := 1, code := some k17c1 }
/-- java/lang/Integer -/
def k17 : Class := { plain "java/lang/Integer" (some 9) with
  accessFlags := 49
  interfaces := #[10, 11, 12]
  cf := some (fileOf pool17 1 #[.nestMembers #[189]] #[{ accessFlags := 9, nameIndex := 187, descriptorIndex := 188, attributes := #[] }, { accessFlags := 1, nameIndex := 213, descriptorIndex := 121, attributes := #[] }] 49 203 #[304, 306, 308] #[{ accessFlags := 25, nameIndex := 310, descriptorIndex := 194, attributes := #[] }, { accessFlags := 25, nameIndex := 312, descriptorIndex := 194, attributes := #[] }, { accessFlags := 25, nameIndex := 302, descriptorIndex := 303, attributes := #[] }, { accessFlags := 24, nameIndex := 19, descriptorIndex := 20, attributes := #[] }, { accessFlags := 24, nameIndex := 89, descriptorIndex := 86, attributes := #[] }, { accessFlags := 24, nameIndex := 85, descriptorIndex := 86, attributes := #[] }, { accessFlags := 18, nameIndex := 207, descriptorIndex := 194, attributes := #[] }, { accessFlags := 25, nameIndex := 316, descriptorIndex := 194, attributes := #[] }, { accessFlags := 25, nameIndex := 318, descriptorIndex := 194, attributes := #[] }, { accessFlags := 26, nameIndex := 320, descriptorIndex := 321, attributes := #[] }])
  fields := #[{ name := "MIN_VALUE", type := .int, accessFlags := 25, slot := 0, constantValue := 0 }, { name := "MAX_VALUE", type := .int, accessFlags := 25, slot := 1, constantValue := 0 }, { name := "TYPE", type := (.object "java/lang/Class"), accessFlags := 25, slot := 2, constantValue := 0 }, { name := "digits", type := (.array .char), accessFlags := 24, slot := 3, constantValue := 0 }, { name := "DigitTens", type := (.array .byte), accessFlags := 24, slot := 4, constantValue := 0 }, { name := "DigitOnes", type := (.array .byte), accessFlags := 24, slot := 5, constantValue := 0 }, { name := "value", type := .int, accessFlags := 18, slot := 0, constantValue := 0 }, { name := "SIZE", type := .int, accessFlags := 25, slot := 6, constantValue := 0 }, { name := "BYTES", type := .int, accessFlags := 25, slot := 7, constantValue := 0 }, { name := "serialVersionUID", type := .long, accessFlags := 26, slot := 8, constantValue := 0 }]
  methods := #[k17m0, k17m1]
  instanceTypes := #[.int]
  staticTypes := #[.int, .int, (.object "java/lang/Class"), (.array .char), (.array .byte), (.array .byte), .int, .int, .long]
  resolved := Array.replicate 453 none
  statics := none }

def pool18 : Array CpInfo := pool [(2, .class_ 4), (1, u "java/lang/Object"), (0, u "<init>"), (0, u "()V"), (0, .class_ 8), (0, u "java/lang/Integer"), (7, .class_ 18), (1, u "java/lang/Integer$IntegerCache"), (0, u "$assertionsDisabled"), (0, u "Z"), (26, u "high"), (0, u "I"), (8, u "archivedCache"), (0, u "[Ljava/lang/Integer;"), (12, u "cache"), (0, u "low")] 27

def k18m0 : Method := { name := "<init>", desc := "()V", sig := { parameters := [], returnType := none }, accessFlags := 2, code := none }
/-- java/lang/Integer$IntegerCache -/
def k18 : Class := { plain "java/lang/Integer$IntegerCache" (some 0) with
  accessFlags := 48
  interfaces := #[]
  cf := some (fileOf pool18 16 #[.nestHost 7] #[{ accessFlags := 2, nameIndex := 5, descriptorIndex := 6, attributes := #[] }] 48 2 #[] #[{ accessFlags := 24, nameIndex := 72, descriptorIndex := 48, attributes := #[] }, { accessFlags := 24, nameIndex := 47, descriptorIndex := 48, attributes := #[] }, { accessFlags := 24, nameIndex := 71, descriptorIndex := 58, attributes := #[] }, { accessFlags := 8, nameIndex := 57, descriptorIndex := 58, attributes := #[] }, { accessFlags := 4120, nameIndex := 19, descriptorIndex := 20, attributes := #[] }])
  fields := #[{ name := "low", type := .int, accessFlags := 24, slot := 0, constantValue := 0 }, { name := "high", type := .int, accessFlags := 24, slot := 1, constantValue := 0 }, { name := "cache", type := (.array (.object "java/lang/Integer")), accessFlags := 24, slot := 2, constantValue := 0 }, { name := "archivedCache", type := (.array (.object "java/lang/Integer")), accessFlags := 8, slot := 3, constantValue := 0 }, { name := "$assertionsDisabled", type := .boolean, accessFlags := 4120, slot := 4, constantValue := 0 }]
  methods := #[k18m0]
  instanceTypes := #[]
  staticTypes := #[.int, .int, (.array (.object "java/lang/Integer")), (.array (.object "java/lang/Integer")), .boolean]
  resolved := Array.replicate 100 none
  statics := some 0 }

/-- the primitive byte -/
def k19 : Class := { plain "byte" none with kind := .primitive 'B', accessFlags := 0x411 }
/-- [B -/
def k20 : Class := { plain "[B" (some 0) with kind := .array 19 .byte, interfaces := #[5, 6], accessFlags := 1041 }

/-- the primitive int -/
def k21 : Class := { plain "int" none with kind := .primitive 'I', accessFlags := 0x411 }
/-- [I -/
def k22 : Class := { plain "[I" (some 0) with kind := .array 21 .int, interfaces := #[5, 6], accessFlags := 1041 }

/-- [Ljava/lang/Integer; -/
def k23 : Class := { plain "[Ljava/lang/Integer;" (some 0) with kind := .array 17 (.object "java/lang/Integer"), interfaces := #[5, 6], accessFlags := 1041 }

/-- [Ljava/util/HashMap$Node; -/
def k24 : Class := { plain "[Ljava/util/HashMap$Node;" (some 0) with kind := .array 16 (.object "java/util/HashMap$Node"), interfaces := #[5, 6], accessFlags := 1041 }

def classes0 : Array Class := #[k0, k1, k2, k3, k4, k5, k6, k7, k8, k9, k10, k11, k12, k13, k14, k15, k16, k17, k18, k19, k20, k21, k22, k23, k24]
/-- the class that the rule has made for the site at 82 of com/example/minos/minos/analysis/Circuit.and -/
def k25 : Class := Jvm.LamKit.madeRec { classes := classes0 } "com/example/minos/minos/analysis/Circuit" (Jvm.Lambda.Shape.mk "java/util/function/Function" "apply" (Jvm.ClassFile.MethodDescriptor.mk ([(Jvm.ClassFile.FieldType.object "java/lang/Object")] : List Jvm.ClassFile.FieldType) (Option.some (Jvm.ClassFile.FieldType.object "java/lang/Object"))) ([(Jvm.ClassFile.FieldType.object "com/example/minos/minos/analysis/Circuit"), Jvm.ClassFile.FieldType.int, Jvm.ClassFile.FieldType.int] : List Jvm.ClassFile.FieldType) (5 : Nat) "com/example/minos/minos/analysis/Circuit" "lambda$and$0" (Jvm.ClassFile.MethodDescriptor.mk ([Jvm.ClassFile.FieldType.int, Jvm.ClassFile.FieldType.int, (Jvm.ClassFile.FieldType.object "java/lang/Long")] : List Jvm.ClassFile.FieldType) (Option.some (Jvm.ClassFile.FieldType.object "java/lang/Integer"))) false (Jvm.ClassFile.MethodDescriptor.mk ([(Jvm.ClassFile.FieldType.object "java/lang/Long")] : List Jvm.ClassFile.FieldType) (Option.some (Jvm.ClassFile.FieldType.object "java/lang/Integer")))) 25

def heap : Heap := #[{ cls := 18, slots := #[.int 0, .int 127, .ref 1, .null, .int 0], vm := .statics 18 },
  { cls := 23, slots := #[.ref 2, .ref 3, .ref 4, .ref 5, .ref 6, .ref 7, .ref 8, .ref 9, .ref 10, .ref 11, .ref 12, .ref 13, .ref 14, .ref 15, .ref 16, .ref 17, .ref 18, .ref 19, .ref 20, .ref 21, .ref 22, .ref 23, .ref 24, .ref 25, .ref 26, .ref 27, .ref 28, .ref 29, .ref 30, .ref 31, .ref 32, .ref 33, .ref 34, .ref 35, .ref 36, .ref 37, .ref 38, .ref 39, .ref 40, .ref 41, .ref 42, .ref 43, .ref 44, .ref 45, .ref 46, .ref 47, .ref 48, .ref 49, .ref 50, .ref 51, .ref 52, .ref 53, .ref 54, .ref 55, .ref 56, .ref 57, .ref 58, .ref 59, .ref 60, .ref 61, .ref 62, .ref 63, .ref 64, .ref 65, .ref 66, .ref 67, .ref 68, .ref 69, .ref 70, .ref 71, .ref 72, .ref 73, .ref 74, .ref 75, .ref 76, .ref 77, .ref 78, .ref 79, .ref 80, .ref 81, .ref 82, .ref 83, .ref 84, .ref 85, .ref 86, .ref 87, .ref 88, .ref 89, .ref 90, .ref 91, .ref 92, .ref 93, .ref 94, .ref 95, .ref 96, .ref 97, .ref 98, .ref 99, .ref 100, .ref 101, .ref 102, .ref 103, .ref 104, .ref 105, .ref 106, .ref 107, .ref 108, .ref 109, .ref 110, .ref 111, .ref 112, .ref 113, .ref 114, .ref 115, .ref 116, .ref 117, .ref 118, .ref 119, .ref 120, .ref 121, .ref 122, .ref 123, .ref 124, .ref 125, .ref 126, .ref 127, .ref 128, .ref 129, .ref 130, .ref 131, .ref 132, .ref 133, .ref 134, .ref 135, .ref 136, .ref 137, .ref 138, .ref 139, .ref 140, .ref 141, .ref 142, .ref 143, .ref 144, .ref 145, .ref 146, .ref 147, .ref 148, .ref 149, .ref 150, .ref 151, .ref 152, .ref 153, .ref 154, .ref 155, .ref 156, .ref 157, .ref 158, .ref 159, .ref 160, .ref 161, .ref 162, .ref 163, .ref 164, .ref 165, .ref 166, .ref 167, .ref 168, .ref 169, .ref 170, .ref 171, .ref 172, .ref 173, .ref 174, .ref 175, .ref 176, .ref 177, .ref 178, .ref 179, .ref 180, .ref 181, .ref 182, .ref 183, .ref 184, .ref 185, .ref 186, .ref 187, .ref 188, .ref 189, .ref 190, .ref 191, .ref 192, .ref 193, .ref 194, .ref 195, .ref 196, .ref 197, .ref 198, .ref 199, .ref 200, .ref 201, .ref 202, .ref 203, .ref 204, .ref 205, .ref 206, .ref 207, .ref 208, .ref 209, .ref 210, .ref 211, .ref 212, .ref 213, .ref 214, .ref 215, .ref 216, .ref 217, .ref 218, .ref 219, .ref 220, .ref 221, .ref 222, .ref 223, .ref 224, .ref 225, .ref 226, .ref 227, .ref 228, .ref 229, .ref 230, .ref 231, .ref 232, .ref 233, .ref 234, .ref 235, .ref 236, .ref 237, .ref 238, .ref 239, .ref 240, .ref 241, .ref 242, .ref 243, .ref 244, .ref 245, .ref 246, .ref 247, .ref 248, .ref 249, .ref 250, .ref 251, .ref 252, .ref 253, .ref 254, .ref 255, .ref 256, .ref 257], vm := .none },
  { cls := 17, slots := #[.int (-128)], vm := .none },
  { cls := 17, slots := #[.int (-127)], vm := .none },
  { cls := 17, slots := #[.int (-126)], vm := .none },
  { cls := 17, slots := #[.int (-125)], vm := .none },
  { cls := 17, slots := #[.int (-124)], vm := .none },
  { cls := 17, slots := #[.int (-123)], vm := .none },
  { cls := 17, slots := #[.int (-122)], vm := .none },
  { cls := 17, slots := #[.int (-121)], vm := .none },
  { cls := 17, slots := #[.int (-120)], vm := .none },
  { cls := 17, slots := #[.int (-119)], vm := .none },
  { cls := 17, slots := #[.int (-118)], vm := .none },
  { cls := 17, slots := #[.int (-117)], vm := .none },
  { cls := 17, slots := #[.int (-116)], vm := .none },
  { cls := 17, slots := #[.int (-115)], vm := .none },
  { cls := 17, slots := #[.int (-114)], vm := .none },
  { cls := 17, slots := #[.int (-113)], vm := .none },
  { cls := 17, slots := #[.int (-112)], vm := .none },
  { cls := 17, slots := #[.int (-111)], vm := .none },
  { cls := 17, slots := #[.int (-110)], vm := .none },
  { cls := 17, slots := #[.int (-109)], vm := .none },
  { cls := 17, slots := #[.int (-108)], vm := .none },
  { cls := 17, slots := #[.int (-107)], vm := .none },
  { cls := 17, slots := #[.int (-106)], vm := .none },
  { cls := 17, slots := #[.int (-105)], vm := .none },
  { cls := 17, slots := #[.int (-104)], vm := .none },
  { cls := 17, slots := #[.int (-103)], vm := .none },
  { cls := 17, slots := #[.int (-102)], vm := .none },
  { cls := 17, slots := #[.int (-101)], vm := .none },
  { cls := 17, slots := #[.int (-100)], vm := .none },
  { cls := 17, slots := #[.int (-99)], vm := .none },
  { cls := 17, slots := #[.int (-98)], vm := .none },
  { cls := 17, slots := #[.int (-97)], vm := .none },
  { cls := 17, slots := #[.int (-96)], vm := .none },
  { cls := 17, slots := #[.int (-95)], vm := .none },
  { cls := 17, slots := #[.int (-94)], vm := .none },
  { cls := 17, slots := #[.int (-93)], vm := .none },
  { cls := 17, slots := #[.int (-92)], vm := .none },
  { cls := 17, slots := #[.int (-91)], vm := .none },
  { cls := 17, slots := #[.int (-90)], vm := .none },
  { cls := 17, slots := #[.int (-89)], vm := .none },
  { cls := 17, slots := #[.int (-88)], vm := .none },
  { cls := 17, slots := #[.int (-87)], vm := .none },
  { cls := 17, slots := #[.int (-86)], vm := .none },
  { cls := 17, slots := #[.int (-85)], vm := .none },
  { cls := 17, slots := #[.int (-84)], vm := .none },
  { cls := 17, slots := #[.int (-83)], vm := .none },
  { cls := 17, slots := #[.int (-82)], vm := .none },
  { cls := 17, slots := #[.int (-81)], vm := .none },
  { cls := 17, slots := #[.int (-80)], vm := .none },
  { cls := 17, slots := #[.int (-79)], vm := .none },
  { cls := 17, slots := #[.int (-78)], vm := .none },
  { cls := 17, slots := #[.int (-77)], vm := .none },
  { cls := 17, slots := #[.int (-76)], vm := .none },
  { cls := 17, slots := #[.int (-75)], vm := .none },
  { cls := 17, slots := #[.int (-74)], vm := .none },
  { cls := 17, slots := #[.int (-73)], vm := .none },
  { cls := 17, slots := #[.int (-72)], vm := .none },
  { cls := 17, slots := #[.int (-71)], vm := .none },
  { cls := 17, slots := #[.int (-70)], vm := .none },
  { cls := 17, slots := #[.int (-69)], vm := .none },
  { cls := 17, slots := #[.int (-68)], vm := .none },
  { cls := 17, slots := #[.int (-67)], vm := .none },
  { cls := 17, slots := #[.int (-66)], vm := .none },
  { cls := 17, slots := #[.int (-65)], vm := .none },
  { cls := 17, slots := #[.int (-64)], vm := .none },
  { cls := 17, slots := #[.int (-63)], vm := .none },
  { cls := 17, slots := #[.int (-62)], vm := .none },
  { cls := 17, slots := #[.int (-61)], vm := .none },
  { cls := 17, slots := #[.int (-60)], vm := .none },
  { cls := 17, slots := #[.int (-59)], vm := .none },
  { cls := 17, slots := #[.int (-58)], vm := .none },
  { cls := 17, slots := #[.int (-57)], vm := .none },
  { cls := 17, slots := #[.int (-56)], vm := .none },
  { cls := 17, slots := #[.int (-55)], vm := .none },
  { cls := 17, slots := #[.int (-54)], vm := .none },
  { cls := 17, slots := #[.int (-53)], vm := .none },
  { cls := 17, slots := #[.int (-52)], vm := .none },
  { cls := 17, slots := #[.int (-51)], vm := .none },
  { cls := 17, slots := #[.int (-50)], vm := .none },
  { cls := 17, slots := #[.int (-49)], vm := .none },
  { cls := 17, slots := #[.int (-48)], vm := .none },
  { cls := 17, slots := #[.int (-47)], vm := .none },
  { cls := 17, slots := #[.int (-46)], vm := .none },
  { cls := 17, slots := #[.int (-45)], vm := .none },
  { cls := 17, slots := #[.int (-44)], vm := .none },
  { cls := 17, slots := #[.int (-43)], vm := .none },
  { cls := 17, slots := #[.int (-42)], vm := .none },
  { cls := 17, slots := #[.int (-41)], vm := .none },
  { cls := 17, slots := #[.int (-40)], vm := .none },
  { cls := 17, slots := #[.int (-39)], vm := .none },
  { cls := 17, slots := #[.int (-38)], vm := .none },
  { cls := 17, slots := #[.int (-37)], vm := .none },
  { cls := 17, slots := #[.int (-36)], vm := .none },
  { cls := 17, slots := #[.int (-35)], vm := .none },
  { cls := 17, slots := #[.int (-34)], vm := .none },
  { cls := 17, slots := #[.int (-33)], vm := .none },
  { cls := 17, slots := #[.int (-32)], vm := .none },
  { cls := 17, slots := #[.int (-31)], vm := .none },
  { cls := 17, slots := #[.int (-30)], vm := .none },
  { cls := 17, slots := #[.int (-29)], vm := .none },
  { cls := 17, slots := #[.int (-28)], vm := .none },
  { cls := 17, slots := #[.int (-27)], vm := .none },
  { cls := 17, slots := #[.int (-26)], vm := .none },
  { cls := 17, slots := #[.int (-25)], vm := .none },
  { cls := 17, slots := #[.int (-24)], vm := .none },
  { cls := 17, slots := #[.int (-23)], vm := .none },
  { cls := 17, slots := #[.int (-22)], vm := .none },
  { cls := 17, slots := #[.int (-21)], vm := .none },
  { cls := 17, slots := #[.int (-20)], vm := .none },
  { cls := 17, slots := #[.int (-19)], vm := .none },
  { cls := 17, slots := #[.int (-18)], vm := .none },
  { cls := 17, slots := #[.int (-17)], vm := .none },
  { cls := 17, slots := #[.int (-16)], vm := .none },
  { cls := 17, slots := #[.int (-15)], vm := .none },
  { cls := 17, slots := #[.int (-14)], vm := .none },
  { cls := 17, slots := #[.int (-13)], vm := .none },
  { cls := 17, slots := #[.int (-12)], vm := .none },
  { cls := 17, slots := #[.int (-11)], vm := .none },
  { cls := 17, slots := #[.int (-10)], vm := .none },
  { cls := 17, slots := #[.int (-9)], vm := .none },
  { cls := 17, slots := #[.int (-8)], vm := .none },
  { cls := 17, slots := #[.int (-7)], vm := .none },
  { cls := 17, slots := #[.int (-6)], vm := .none },
  { cls := 17, slots := #[.int (-5)], vm := .none },
  { cls := 17, slots := #[.int (-4)], vm := .none },
  { cls := 17, slots := #[.int (-3)], vm := .none },
  { cls := 17, slots := #[.int (-2)], vm := .none },
  { cls := 17, slots := #[.int (-1)], vm := .none },
  { cls := 17, slots := #[.int 0], vm := .none },
  { cls := 17, slots := #[.int 1], vm := .none },
  { cls := 17, slots := #[.int 2], vm := .none },
  { cls := 17, slots := #[.int 3], vm := .none },
  { cls := 17, slots := #[.int 4], vm := .none },
  { cls := 17, slots := #[.int 5], vm := .none },
  { cls := 17, slots := #[.int 6], vm := .none },
  { cls := 17, slots := #[.int 7], vm := .none },
  { cls := 17, slots := #[.int 8], vm := .none },
  { cls := 17, slots := #[.int 9], vm := .none },
  { cls := 17, slots := #[.int 10], vm := .none },
  { cls := 17, slots := #[.int 11], vm := .none },
  { cls := 17, slots := #[.int 12], vm := .none },
  { cls := 17, slots := #[.int 13], vm := .none },
  { cls := 17, slots := #[.int 14], vm := .none },
  { cls := 17, slots := #[.int 15], vm := .none },
  { cls := 17, slots := #[.int 16], vm := .none },
  { cls := 17, slots := #[.int 17], vm := .none },
  { cls := 17, slots := #[.int 18], vm := .none },
  { cls := 17, slots := #[.int 19], vm := .none },
  { cls := 17, slots := #[.int 20], vm := .none },
  { cls := 17, slots := #[.int 21], vm := .none },
  { cls := 17, slots := #[.int 22], vm := .none },
  { cls := 17, slots := #[.int 23], vm := .none },
  { cls := 17, slots := #[.int 24], vm := .none },
  { cls := 17, slots := #[.int 25], vm := .none },
  { cls := 17, slots := #[.int 26], vm := .none },
  { cls := 17, slots := #[.int 27], vm := .none },
  { cls := 17, slots := #[.int 28], vm := .none },
  { cls := 17, slots := #[.int 29], vm := .none },
  { cls := 17, slots := #[.int 30], vm := .none },
  { cls := 17, slots := #[.int 31], vm := .none },
  { cls := 17, slots := #[.int 32], vm := .none },
  { cls := 17, slots := #[.int 33], vm := .none },
  { cls := 17, slots := #[.int 34], vm := .none },
  { cls := 17, slots := #[.int 35], vm := .none },
  { cls := 17, slots := #[.int 36], vm := .none },
  { cls := 17, slots := #[.int 37], vm := .none },
  { cls := 17, slots := #[.int 38], vm := .none },
  { cls := 17, slots := #[.int 39], vm := .none },
  { cls := 17, slots := #[.int 40], vm := .none },
  { cls := 17, slots := #[.int 41], vm := .none },
  { cls := 17, slots := #[.int 42], vm := .none },
  { cls := 17, slots := #[.int 43], vm := .none },
  { cls := 17, slots := #[.int 44], vm := .none },
  { cls := 17, slots := #[.int 45], vm := .none },
  { cls := 17, slots := #[.int 46], vm := .none },
  { cls := 17, slots := #[.int 47], vm := .none },
  { cls := 17, slots := #[.int 48], vm := .none },
  { cls := 17, slots := #[.int 49], vm := .none },
  { cls := 17, slots := #[.int 50], vm := .none },
  { cls := 17, slots := #[.int 51], vm := .none },
  { cls := 17, slots := #[.int 52], vm := .none },
  { cls := 17, slots := #[.int 53], vm := .none },
  { cls := 17, slots := #[.int 54], vm := .none },
  { cls := 17, slots := #[.int 55], vm := .none },
  { cls := 17, slots := #[.int 56], vm := .none },
  { cls := 17, slots := #[.int 57], vm := .none },
  { cls := 17, slots := #[.int 58], vm := .none },
  { cls := 17, slots := #[.int 59], vm := .none },
  { cls := 17, slots := #[.int 60], vm := .none },
  { cls := 17, slots := #[.int 61], vm := .none },
  { cls := 17, slots := #[.int 62], vm := .none },
  { cls := 17, slots := #[.int 63], vm := .none },
  { cls := 17, slots := #[.int 64], vm := .none },
  { cls := 17, slots := #[.int 65], vm := .none },
  { cls := 17, slots := #[.int 66], vm := .none },
  { cls := 17, slots := #[.int 67], vm := .none },
  { cls := 17, slots := #[.int 68], vm := .none },
  { cls := 17, slots := #[.int 69], vm := .none },
  { cls := 17, slots := #[.int 70], vm := .none },
  { cls := 17, slots := #[.int 71], vm := .none },
  { cls := 17, slots := #[.int 72], vm := .none },
  { cls := 17, slots := #[.int 73], vm := .none },
  { cls := 17, slots := #[.int 74], vm := .none },
  { cls := 17, slots := #[.int 75], vm := .none },
  { cls := 17, slots := #[.int 76], vm := .none },
  { cls := 17, slots := #[.int 77], vm := .none },
  { cls := 17, slots := #[.int 78], vm := .none },
  { cls := 17, slots := #[.int 79], vm := .none },
  { cls := 17, slots := #[.int 80], vm := .none },
  { cls := 17, slots := #[.int 81], vm := .none },
  { cls := 17, slots := #[.int 82], vm := .none },
  { cls := 17, slots := #[.int 83], vm := .none },
  { cls := 17, slots := #[.int 84], vm := .none },
  { cls := 17, slots := #[.int 85], vm := .none },
  { cls := 17, slots := #[.int 86], vm := .none },
  { cls := 17, slots := #[.int 87], vm := .none },
  { cls := 17, slots := #[.int 88], vm := .none },
  { cls := 17, slots := #[.int 89], vm := .none },
  { cls := 17, slots := #[.int 90], vm := .none },
  { cls := 17, slots := #[.int 91], vm := .none },
  { cls := 17, slots := #[.int 92], vm := .none },
  { cls := 17, slots := #[.int 93], vm := .none },
  { cls := 17, slots := #[.int 94], vm := .none },
  { cls := 17, slots := #[.int 95], vm := .none },
  { cls := 17, slots := #[.int 96], vm := .none },
  { cls := 17, slots := #[.int 97], vm := .none },
  { cls := 17, slots := #[.int 98], vm := .none },
  { cls := 17, slots := #[.int 99], vm := .none },
  { cls := 17, slots := #[.int 100], vm := .none },
  { cls := 17, slots := #[.int 101], vm := .none },
  { cls := 17, slots := #[.int 102], vm := .none },
  { cls := 17, slots := #[.int 103], vm := .none },
  { cls := 17, slots := #[.int 104], vm := .none },
  { cls := 17, slots := #[.int 105], vm := .none },
  { cls := 17, slots := #[.int 106], vm := .none },
  { cls := 17, slots := #[.int 107], vm := .none },
  { cls := 17, slots := #[.int 108], vm := .none },
  { cls := 17, slots := #[.int 109], vm := .none },
  { cls := 17, slots := #[.int 110], vm := .none },
  { cls := 17, slots := #[.int 111], vm := .none },
  { cls := 17, slots := #[.int 112], vm := .none },
  { cls := 17, slots := #[.int 113], vm := .none },
  { cls := 17, slots := #[.int 114], vm := .none },
  { cls := 17, slots := #[.int 115], vm := .none },
  { cls := 17, slots := #[.int 116], vm := .none },
  { cls := 17, slots := #[.int 117], vm := .none },
  { cls := 17, slots := #[.int 118], vm := .none },
  { cls := 17, slots := #[.int 119], vm := .none },
  { cls := 17, slots := #[.int 120], vm := .none },
  { cls := 17, slots := #[.int 121], vm := .none },
  { cls := 17, slots := #[.int 122], vm := .none },
  { cls := 17, slots := #[.int 123], vm := .none },
  { cls := 17, slots := #[.int 124], vm := .none },
  { cls := 17, slots := #[.int 125], vm := .none },
  { cls := 17, slots := #[.int 126], vm := .none },
  { cls := 17, slots := #[.int 127], vm := .none }]
def classes : Array Class := #[k0, k1, k2, k3, k4, k5, k6, k7, k8, k9, k10, k11, k12, k13, k14, k15, k16, k17, k18, k19, k20, k21, k22, k23, k24, k25]
def interned : List (Array UInt16 × Addr) := []
def slotsUsed : Nat := 517
def theMethod : MethodId := ⟨1, 1⟩
def args0 : Array Value := #[.int 3, .int 1, .int 1]
def aboutOver (below : List Frame) : State where
  vm := { classes := classes, interned := interned.toArray }
  heap := heap
  slotsUsed := slotsUsed
  threads := #[{ frames := .invoking theMethod args0 :: below }]
def below0 : List Frame := [.native { method := ⟨0, 0⟩, args := #[] }]
def about1 : State := aboutOver below0
def p0 : Program := .bare "" "" ""
def e0 : Env := launch0.env 0 0 0
theorem w_frames : about1.frames = Frame.invoking theMethod args0 :: below0 := rfl
set_option maxRecDepth 65536 in
theorem w_args : argsFit about1.vm theMethod args0 = true := by decide +kernel
set_option maxRecDepth 65536 in
theorem w_heap : heapFits about1 = true := by decide +kernel
set_option maxRecDepth 65536 in
theorem w_runnable : about1.curStatus? = some .runnable := by decide +kernel
set_option maxRecDepth 65536 in
theorem w_alone : about1.alone = true := by decide +kernel
set_option maxRecDepth 65536 in
theorem w_named : about1.methodNamed? x = some theMethod := by decide +kernel
set_option maxRecDepth 65536 in
theorem w_hears : about1.hears theMethod below0 = true := by decide +kernel
set_option maxRecDepth 65536 in
theorem w_ripe : about1.ripe theMethod args0 below0 = true := by decide +kernel
theorem w_running : about1.status = .running := rfl
set_option maxRecDepth 65536 in
theorem w_room : about1.hasRoom e0.platform room_1 = true :=
  launch0.hasRoom_least _ room_1 (by decide +kernel) (by decide +kernel) (by decide +kernel) (by decide +kernel) (by decide +kernel) (by decide +kernel)
theorem allAtoms_all (ts : List Jvm.Cond) (a : Array Jvm.Value) (st : Jvm.State) : (allAtoms ts).before a st = ts.all (fun c => c.before a st) := by
  induction ts with
  | nil => rfl
  | cons c t ih =>
    show (Jvm.Cond.and c (allAtoms t)).before a st = _
    rw [Jvm.Cond.before_and, ih, List.all_cons]
def words1 : List Jvm.Cond := Jvm.Cond.code x code maxLocals ret :: tables_1
/-- a 'code' word, met by the world's own term for the bytes: nothing is compared byte by byte -/
theorem code_word {y : MethodName} {bytes : ByteArray} {mx : Nat} {rt : Option FieldType} {a : Array Value} {s : State} {m : MethodId} {meth : Method} {c : Code} (h1 : s.methodNamed? y = some m) (h2 : s.vm.method? m = some meth) (h3 : meth.code = some c) (h4 : c.code = bytes)
    (h5 : (c.maxLocals == mx && c.exceptionTable.isEmpty && decide (c.maxStack ≤ mostOperands) && decide (meth.sig.returnType = rt) && !meth.locks && decide (parseMethodDescriptor y.desc = some meth.sig)) = true) : (Jvm.Cond.code y bytes mx rt).before a s = true := by
  simp only [Bool.and_eq_true, beq_iff_eq, Bool.not_eq_true', decide_eq_true_eq] at h5
  obtain ⟨⟨⟨⟨⟨g1, g2⟩, g3⟩, g4⟩, g5⟩, g6⟩ := h5
  simp [Cond.before, Cond.holds, Cond.value, h1, h2, h3, h4, g1, g2, g3, g4, g5, g6]
def isCode : Jvm.Cond → Bool
  | .code _ _ _ _ => true
  | _ => false
theorem all_split {L : List Jvm.Cond} {P : Jvm.Cond → Bool} (h1 : L.all (fun c => isCode c || P c) = true) (h2 : ∀ c ∈ L.filter isCode, P c = true) : L.all P = true := by
  refine List.all_eq_true.mpr fun c hc => ?_
  have h := List.all_eq_true.mp h1 c hc
  rcases Bool.eq_false_or_eq_true (isCode c) with hi | hi
  · exact h2 c (List.mem_filter.mpr ⟨hc, hi⟩)
  · simpa [hi] using h
set_option maxRecDepth 65536 in
theorem w_c0 : (Jvm.Cond.code x code maxLocals ret).before args0 about1 = true := code_word (m := ⟨1, 1⟩) (meth := k1m1) (c := k1c1) (by decide +kernel) rfl rfl rfl (by decide +kernel)
set_option maxRecDepth 65536 in
theorem w_c1 : (Jvm.Cond.code ({ cls := "com/example/minos/minos/analysis/Circuit", name := "<init>", desc := "()V" } : Jvm.MethodName) prog_12_method_1_code (1 : Nat) (Option.none : Option Jvm.ClassFile.FieldType)).before args0 about1 = true := code_word (m := ⟨2, 0⟩) (meth := k2m0) (c := k2c0) (by decide +kernel) rfl rfl rfl (by decide +kernel)
set_option maxRecDepth 65536 in
theorem w_c2 : (Jvm.Cond.code ({ cls := "java/lang/Object", name := "<init>", desc := "()V" } : Jvm.MethodName) object_method_1_code (1 : Nat) (Option.none : Option Jvm.ClassFile.FieldType)).before args0 about1 = true := code_word (m := ⟨0, 0⟩) (meth := k0m0) (c := k0c0) (by decide +kernel) rfl rfl rfl (by decide +kernel)
set_option maxRecDepth 65536 in
theorem w_c3 : (Jvm.Cond.code ({ cls := "java/util/HashMap", name := "<init>", desc := "()V" } : Jvm.MethodName) jdk_69_method_7_code (1 : Nat) (Option.none : Option Jvm.ClassFile.FieldType)).before args0 about1 = true := code_word (m := ⟨7, 1⟩) (meth := k7m1) (c := k7c1) (by decide +kernel) rfl rfl rfl (by decide +kernel)
set_option maxRecDepth 65536 in
theorem w_c4 : (Jvm.Cond.code ({ cls := "java/util/AbstractMap", name := "<init>", desc := "()V" } : Jvm.MethodName) jdk_71_method_1_code (1 : Nat) (Option.none : Option Jvm.ClassFile.FieldType)).before args0 about1 = true := code_word (m := ⟨4, 0⟩) (meth := k4m0) (c := k4c0) (by decide +kernel) rfl rfl rfl (by decide +kernel)
set_option maxRecDepth 65536 in
theorem w_c5 : (Jvm.Cond.code ({ cls := "com/example/minos/minos/analysis/Circuit", name := "input", desc := "()I" } : Jvm.MethodName) prog_12_method_4_code (1 : Nat) (Option.some Jvm.ClassFile.FieldType.int)).before args0 about1 = true := code_word (m := ⟨2, 2⟩) (meth := k2m2) (c := k2c2) (by decide +kernel) rfl rfl rfl (by decide +kernel)
set_option maxRecDepth 65536 in
theorem w_c6 : (Jvm.Cond.code ({ cls := "com/example/minos/minos/analysis/Circuit", name := "add", desc := "(II)I" } : Jvm.MethodName) prog_12_method_14_code (3 : Nat) (Option.some Jvm.ClassFile.FieldType.int)).before args0 about1 = true := code_word (m := ⟨2, 5⟩) (meth := k2m5) (c := k2c5) (by decide +kernel) rfl rfl rfl (by decide +kernel)
set_option maxRecDepth 65536 in
theorem w_c7 : (Jvm.Cond.code ({ cls := "com/example/minos/minos/analysis/Circuit", name := "and", desc := "(II)I" } : Jvm.MethodName) prog_12_method_5_code (6 : Nat) (Option.some Jvm.ClassFile.FieldType.int)).before args0 about1 = true := code_word (m := ⟨2, 3⟩) (meth := k2m3) (c := k2c3) (by decide +kernel) rfl rfl rfl (by decide +kernel)
set_option maxRecDepth 65536 in
theorem w_c8 : (Jvm.Cond.code ({ cls := "com/example/minos/minos/analysis/Circuit", name := "not", desc := "(I)I" } : Jvm.MethodName) prog_12_method_2_code (1 : Nat) (Option.some Jvm.ClassFile.FieldType.int)).before args0 about1 = true := code_word (m := ⟨2, 1⟩) (meth := k2m1) (c := k2c1) (by decide +kernel) rfl rfl rfl (by decide +kernel)
set_option maxRecDepth 65536 in
theorem w_c9 : (Jvm.Cond.code ({ cls := "java/lang/Math", name := "min", desc := "(II)I" } : Jvm.MethodName) jdk_29_method_69_code (2 : Nat) (Option.some Jvm.ClassFile.FieldType.int)).before args0 about1 = true := code_word (m := ⟨8, 2⟩) (meth := k8m2) (c := k8c2) (by decide +kernel) rfl rfl rfl (by decide +kernel)
set_option maxRecDepth 65536 in
theorem w_c10 : (Jvm.Cond.code ({ cls := "java/lang/Math", name := "max", desc := "(II)I" } : Jvm.MethodName) jdk_29_method_65_code (2 : Nat) (Option.some Jvm.ClassFile.FieldType.int)).before args0 about1 = true := code_word (m := ⟨8, 1⟩) (meth := k8m1) (c := k8c1) (by decide +kernel) rfl rfl rfl (by decide +kernel)
set_option maxRecDepth 65536 in
theorem w_c11 : (Jvm.Cond.code ({ cls := "java/lang/Long", name := "valueOf", desc := "(J)Ljava/lang/Long;" } : Jvm.MethodName) jdk_35_method_24_code (3 : Nat) (Option.some (Jvm.ClassFile.FieldType.object "java/lang/Long"))).before args0 about1 = true := code_word (m := ⟨13, 0⟩) (meth := k13m0) (c := k13c0) (by decide +kernel) rfl rfl rfl (by decide +kernel)
set_option maxRecDepth 65536 in
theorem w_c12 : (Jvm.Cond.code ({ cls := "java/lang/Long", name := "<init>", desc := "(J)V" } : Jvm.MethodName) jdk_35_method_26_code (3 : Nat) (Option.none : Option Jvm.ClassFile.FieldType)).before args0 about1 = true := code_word (m := ⟨13, 1⟩) (meth := k13m1) (c := k13c1) (by decide +kernel) rfl rfl rfl (by decide +kernel)
set_option maxRecDepth 65536 in
theorem w_c13 : (Jvm.Cond.code ({ cls := "java/lang/Number", name := "<init>", desc := "()V" } : Jvm.MethodName) jdk_18_method_1_code (1 : Nat) (Option.none : Option Jvm.ClassFile.FieldType)).before args0 about1 = true := code_word (m := ⟨9, 0⟩) (meth := k9m0) (c := k9c0) (by decide +kernel) rfl rfl rfl (by decide +kernel)
set_option maxRecDepth 65536 in
theorem w_c14 : (Jvm.Cond.code ({ cls := "java/util/HashMap", name := "computeIfAbsent", desc := "(Ljava/lang/Object;Ljava/util/function/Function;)Ljava/lang/Object;" } : Jvm.MethodName) jdk_69_method_35_code (13 : Nat) (Option.some (Jvm.ClassFile.FieldType.object "java/lang/Object"))).before args0 about1 = true := code_word (m := ⟨7, 3⟩) (meth := k7m3) (c := k7c3) (by decide +kernel) rfl rfl rfl (by decide +kernel)
set_option maxRecDepth 65536 in
theorem w_c15 : (Jvm.Cond.code ({ cls := "java/util/HashMap", name := "hash", desc := "(Ljava/lang/Object;)I" } : Jvm.MethodName) jdk_69_method_1_code (2 : Nat) (Option.some Jvm.ClassFile.FieldType.int)).before args0 about1 = true := code_word (m := ⟨7, 0⟩) (meth := k7m0) (c := k7c0) (by decide +kernel) rfl rfl rfl (by decide +kernel)
set_option maxRecDepth 65536 in
theorem w_c16 : (Jvm.Cond.code ({ cls := "java/lang/Long", name := "hashCode", desc := "()I" } : Jvm.MethodName) jdk_35_method_35_code (1 : Nat) (Option.some Jvm.ClassFile.FieldType.int)).before args0 about1 = true := code_word (m := ⟨13, 2⟩) (meth := k13m2) (c := k13c2) (by decide +kernel) rfl rfl rfl (by decide +kernel)
set_option maxRecDepth 65536 in
theorem w_c17 : (Jvm.Cond.code ({ cls := "java/lang/Long", name := "hashCode", desc := "(J)I" } : Jvm.MethodName) jdk_35_method_36_code (2 : Nat) (Option.some Jvm.ClassFile.FieldType.int)).before args0 about1 = true := code_word (m := ⟨13, 3⟩) (meth := k13m3) (c := k13c3) (by decide +kernel) rfl rfl rfl (by decide +kernel)
set_option maxRecDepth 65536 in
theorem w_c18 : (Jvm.Cond.code ({ cls := "java/util/HashMap", name := "resize", desc := "()[Ljava/util/HashMap$Node;" } : Jvm.MethodName) jdk_69_method_17_code (14 : Nat) (Option.some (Jvm.ClassFile.FieldType.array (Jvm.ClassFile.FieldType.object "java/util/HashMap$Node")))).before args0 about1 = true := code_word (m := ⟨7, 2⟩) (meth := k7m2) (c := k7c2) (by decide +kernel) rfl rfl rfl (by decide +kernel)
set_option maxRecDepth 65536 in
theorem w_c19 : (Jvm.Cond.code ({ cls := "com/example/minos/minos/analysis/Circuit", name := "lambda$and$0", desc := "(IILjava/lang/Long;)Ljava/lang/Integer;" } : Jvm.MethodName) prog_12_method_15_code (4 : Nat) (Option.some (Jvm.ClassFile.FieldType.object "java/lang/Integer"))).before args0 about1 = true := code_word (m := ⟨2, 6⟩) (meth := k2m6) (c := k2c6) (by decide +kernel) rfl rfl rfl (by decide +kernel)
set_option maxRecDepth 65536 in
theorem w_c20 : (Jvm.Cond.code ({ cls := "java/lang/Integer", name := "valueOf", desc := "(I)Ljava/lang/Integer;" } : Jvm.MethodName) jdk_33_method_22_code (1 : Nat) (Option.some (Jvm.ClassFile.FieldType.object "java/lang/Integer"))).before args0 about1 = true := code_word (m := ⟨17, 0⟩) (meth := k17m0) (c := k17c0) (by decide +kernel) rfl rfl rfl (by decide +kernel)
set_option maxRecDepth 65536 in
theorem w_c21 : (Jvm.Cond.code ({ cls := "java/util/HashMap", name := "newNode", desc := "(ILjava/lang/Object;Ljava/lang/Object;Ljava/util/HashMap$Node;)Ljava/util/HashMap$Node;" } : Jvm.MethodName) jdk_69_method_46_code (5 : Nat) (Option.some (Jvm.ClassFile.FieldType.object "java/util/HashMap$Node"))).before args0 about1 = true := code_word (m := ⟨7, 4⟩) (meth := k7m4) (c := k7c4) (by decide +kernel) rfl rfl rfl (by decide +kernel)
set_option maxRecDepth 65536 in
theorem w_c22 : (Jvm.Cond.code ({ cls := "java/util/HashMap$Node", name := "<init>", desc := "(ILjava/lang/Object;Ljava/lang/Object;Ljava/util/HashMap$Node;)V" } : Jvm.MethodName) jdk_70_method_1_code (5 : Nat) (Option.none : Option Jvm.ClassFile.FieldType)).before args0 about1 = true := code_word (m := ⟨16, 0⟩) (meth := k16m0) (c := k16c0) (by decide +kernel) rfl rfl rfl (by decide +kernel)
set_option maxRecDepth 65536 in
theorem w_c23 : (Jvm.Cond.code ({ cls := "java/util/HashMap", name := "afterNodeInsertion", desc := "(Z)V" } : Jvm.MethodName) jdk_69_method_52_code (2 : Nat) (Option.none : Option Jvm.ClassFile.FieldType)).before args0 about1 = true := code_word (m := ⟨7, 5⟩) (meth := k7m5) (c := k7c5) (by decide +kernel) rfl rfl rfl (by decide +kernel)
set_option maxRecDepth 65536 in
theorem w_c24 : (Jvm.Cond.code ({ cls := "java/lang/Integer", name := "intValue", desc := "()I" } : Jvm.MethodName) jdk_33_method_27_code (1 : Nat) (Option.some Jvm.ClassFile.FieldType.int)).before args0 about1 = true := code_word (m := ⟨17, 1⟩) (meth := k17m1) (c := k17c1) (by decide +kernel) rfl rfl rfl (by decide +kernel)
set_option maxRecDepth 65536 in
theorem w_c25 : (Jvm.Cond.code ({ cls := "com/example/minos/minos/analysis/Circuit", name := "isGate", desc := "(I)Z" } : Jvm.MethodName) prog_12_method_11_code (2 : Nat) (Option.some Jvm.ClassFile.FieldType.boolean)).before args0 about1 = true := code_word (m := ⟨2, 4⟩) (meth := k2m4) (c := k2c4) (by decide +kernel) rfl rfl rfl (by decide +kernel)
def codes1 : List Jvm.Cond := [Jvm.Cond.code x code maxLocals ret, Jvm.Cond.code ({ cls := "com/example/minos/minos/analysis/Circuit", name := "<init>", desc := "()V" } : Jvm.MethodName) prog_12_method_1_code (1 : Nat) (Option.none : Option Jvm.ClassFile.FieldType), Jvm.Cond.code ({ cls := "java/lang/Object", name := "<init>", desc := "()V" } : Jvm.MethodName) object_method_1_code (1 : Nat) (Option.none : Option Jvm.ClassFile.FieldType), Jvm.Cond.code ({ cls := "java/util/HashMap", name := "<init>", desc := "()V" } : Jvm.MethodName) jdk_69_method_7_code (1 : Nat) (Option.none : Option Jvm.ClassFile.FieldType), Jvm.Cond.code ({ cls := "java/util/AbstractMap", name := "<init>", desc := "()V" } : Jvm.MethodName) jdk_71_method_1_code (1 : Nat) (Option.none : Option Jvm.ClassFile.FieldType), Jvm.Cond.code ({ cls := "com/example/minos/minos/analysis/Circuit", name := "input", desc := "()I" } : Jvm.MethodName) prog_12_method_4_code (1 : Nat) (Option.some Jvm.ClassFile.FieldType.int), Jvm.Cond.code ({ cls := "com/example/minos/minos/analysis/Circuit", name := "add", desc := "(II)I" } : Jvm.MethodName) prog_12_method_14_code (3 : Nat) (Option.some Jvm.ClassFile.FieldType.int), Jvm.Cond.code ({ cls := "com/example/minos/minos/analysis/Circuit", name := "and", desc := "(II)I" } : Jvm.MethodName) prog_12_method_5_code (6 : Nat) (Option.some Jvm.ClassFile.FieldType.int), Jvm.Cond.code ({ cls := "com/example/minos/minos/analysis/Circuit", name := "not", desc := "(I)I" } : Jvm.MethodName) prog_12_method_2_code (1 : Nat) (Option.some Jvm.ClassFile.FieldType.int), Jvm.Cond.code ({ cls := "java/lang/Math", name := "min", desc := "(II)I" } : Jvm.MethodName) jdk_29_method_69_code (2 : Nat) (Option.some Jvm.ClassFile.FieldType.int), Jvm.Cond.code ({ cls := "java/lang/Math", name := "max", desc := "(II)I" } : Jvm.MethodName) jdk_29_method_65_code (2 : Nat) (Option.some Jvm.ClassFile.FieldType.int), Jvm.Cond.code ({ cls := "java/lang/Long", name := "valueOf", desc := "(J)Ljava/lang/Long;" } : Jvm.MethodName) jdk_35_method_24_code (3 : Nat) (Option.some (Jvm.ClassFile.FieldType.object "java/lang/Long")), Jvm.Cond.code ({ cls := "java/lang/Long", name := "<init>", desc := "(J)V" } : Jvm.MethodName) jdk_35_method_26_code (3 : Nat) (Option.none : Option Jvm.ClassFile.FieldType), Jvm.Cond.code ({ cls := "java/lang/Number", name := "<init>", desc := "()V" } : Jvm.MethodName) jdk_18_method_1_code (1 : Nat) (Option.none : Option Jvm.ClassFile.FieldType), Jvm.Cond.code ({ cls := "java/util/HashMap", name := "computeIfAbsent", desc := "(Ljava/lang/Object;Ljava/util/function/Function;)Ljava/lang/Object;" } : Jvm.MethodName) jdk_69_method_35_code (13 : Nat) (Option.some (Jvm.ClassFile.FieldType.object "java/lang/Object")), Jvm.Cond.code ({ cls := "java/util/HashMap", name := "hash", desc := "(Ljava/lang/Object;)I" } : Jvm.MethodName) jdk_69_method_1_code (2 : Nat) (Option.some Jvm.ClassFile.FieldType.int), Jvm.Cond.code ({ cls := "java/lang/Long", name := "hashCode", desc := "()I" } : Jvm.MethodName) jdk_35_method_35_code (1 : Nat) (Option.some Jvm.ClassFile.FieldType.int), Jvm.Cond.code ({ cls := "java/lang/Long", name := "hashCode", desc := "(J)I" } : Jvm.MethodName) jdk_35_method_36_code (2 : Nat) (Option.some Jvm.ClassFile.FieldType.int), Jvm.Cond.code ({ cls := "java/util/HashMap", name := "resize", desc := "()[Ljava/util/HashMap$Node;" } : Jvm.MethodName) jdk_69_method_17_code (14 : Nat) (Option.some (Jvm.ClassFile.FieldType.array (Jvm.ClassFile.FieldType.object "java/util/HashMap$Node"))), Jvm.Cond.code ({ cls := "com/example/minos/minos/analysis/Circuit", name := "lambda$and$0", desc := "(IILjava/lang/Long;)Ljava/lang/Integer;" } : Jvm.MethodName) prog_12_method_15_code (4 : Nat) (Option.some (Jvm.ClassFile.FieldType.object "java/lang/Integer")), Jvm.Cond.code ({ cls := "java/lang/Integer", name := "valueOf", desc := "(I)Ljava/lang/Integer;" } : Jvm.MethodName) jdk_33_method_22_code (1 : Nat) (Option.some (Jvm.ClassFile.FieldType.object "java/lang/Integer")), Jvm.Cond.code ({ cls := "java/util/HashMap", name := "newNode", desc := "(ILjava/lang/Object;Ljava/lang/Object;Ljava/util/HashMap$Node;)Ljava/util/HashMap$Node;" } : Jvm.MethodName) jdk_69_method_46_code (5 : Nat) (Option.some (Jvm.ClassFile.FieldType.object "java/util/HashMap$Node")), Jvm.Cond.code ({ cls := "java/util/HashMap$Node", name := "<init>", desc := "(ILjava/lang/Object;Ljava/lang/Object;Ljava/util/HashMap$Node;)V" } : Jvm.MethodName) jdk_70_method_1_code (5 : Nat) (Option.none : Option Jvm.ClassFile.FieldType), Jvm.Cond.code ({ cls := "java/util/HashMap", name := "afterNodeInsertion", desc := "(Z)V" } : Jvm.MethodName) jdk_69_method_52_code (2 : Nat) (Option.none : Option Jvm.ClassFile.FieldType), Jvm.Cond.code ({ cls := "java/lang/Integer", name := "intValue", desc := "()I" } : Jvm.MethodName) jdk_33_method_27_code (1 : Nat) (Option.some Jvm.ClassFile.FieldType.int), Jvm.Cond.code ({ cls := "com/example/minos/minos/analysis/Circuit", name := "isGate", desc := "(I)Z" } : Jvm.MethodName) prog_12_method_11_code (2 : Nat) (Option.some Jvm.ClassFile.FieldType.boolean)]
set_option maxRecDepth 65536 in
theorem codes_eq : words1.filter isCode = codes1 := rfl
theorem w_codes : ∀ c ∈ words1.filter isCode, c.before args0 about1 = true := by
  rw [codes_eq]
  intro c hc
  simp only [codes1, List.mem_cons, List.not_mem_nil, or_false] at hc
  rcases hc with rfl | rfl | rfl | rfl | rfl | rfl | rfl | rfl | rfl | rfl | rfl | rfl | rfl | rfl | rfl | rfl | rfl | rfl | rfl | rfl | rfl | rfl | rfl | rfl | rfl | rfl
  · exact w_c0
  · exact w_c1
  · exact w_c2
  · exact w_c3
  · exact w_c4
  · exact w_c5
  · exact w_c6
  · exact w_c7
  · exact w_c8
  · exact w_c9
  · exact w_c10
  · exact w_c11
  · exact w_c12
  · exact w_c13
  · exact w_c14
  · exact w_c15
  · exact w_c16
  · exact w_c17
  · exact w_c18
  · exact w_c19
  · exact w_c20
  · exact w_c21
  · exact w_c22
  · exact w_c23
  · exact w_c24
  · exact w_c25
set_option maxRecDepth 65536 in
theorem w_t1 : (words1.take 24).all (fun c => isCode c || c.before args0 about1) = true := by decide +kernel
set_option maxRecDepth 65536 in
theorem w_t2 : ((words1.drop 24).take 24).all (fun c => isCode c || c.before args0 about1) = true := by decide +kernel
set_option maxRecDepth 65536 in
theorem w_t3 : (((words1.drop 24).drop 24).take 24).all (fun c => isCode c || c.before args0 about1) = true := by decide +kernel
set_option maxRecDepth 65536 in
theorem w_t4 : ((((words1.drop 24).drop 24).drop 24).take 24).all (fun c => isCode c || c.before args0 about1) = true := by decide +kernel
set_option maxRecDepth 65536 in
theorem w_t5 : (((((words1.drop 24).drop 24).drop 24).drop 24).take 24).all (fun c => isCode c || c.before args0 about1) = true := by decide +kernel
set_option maxRecDepth 65536 in
theorem w_t6 : ((((((words1.drop 24).drop 24).drop 24).drop 24).drop 24).take 24).all (fun c => isCode c || c.before args0 about1) = true := by decide +kernel
set_option maxRecDepth 65536 in
theorem w_t7 : (((((((words1.drop 24).drop 24).drop 24).drop 24).drop 24).drop 24).take 24).all (fun c => isCode c || c.before args0 about1) = true := by decide +kernel
set_option maxRecDepth 65536 in
theorem w_t8 : (((((((words1.drop 24).drop 24).drop 24).drop 24).drop 24).drop 24).drop 24).all (fun c => isCode c || c.before args0 about1) = true := by decide +kernel
theorem w_tables : (allAtoms (Jvm.Cond.code x code maxLocals ret :: tables_1)).before args0 about1 = true := by
  rw [allAtoms_all]
  show words1.all (fun c => c.before args0 about1) = true
  refine all_split ?_ w_codes
  rw [← List.take_append_drop 24 words1, List.all_append, w_t1, ← List.take_append_drop 24 (words1.drop 24), List.all_append, w_t2, ← List.take_append_drop 24 ((words1.drop 24).drop 24), List.all_append, w_t3, ← List.take_append_drop 24 (((words1.drop 24).drop 24).drop 24), List.all_append, w_t4, ← List.take_append_drop 24 ((((words1.drop 24).drop 24).drop 24).drop 24), List.all_append, w_t5, ← List.take_append_drop 24 (((((words1.drop 24).drop 24).drop 24).drop 24).drop 24), List.all_append, w_t6, ← List.take_append_drop 24 ((((((words1.drop 24).drop 24).drop 24).drop 24).drop 24).drop 24), List.all_append, w_t7, w_t8]
  rfl
set_option maxRecDepth 65536 in
theorem w_rest : rest_1_c.before args0 about1 = true := by decide +kernel
set_option maxRecDepth 65536 in
theorem w_case : (Jvm.Cond.and given_1 narrow_1).before args0 about1 = true := by decide +kernel
theorem w_applies : (headSpec (Jvm.Cond.code x code maxLocals ret :: tables_1) room_1).applies x e0.platform about1 = true :=
  (Spec.applies_iff w_frames).mpr ⟨w_running, w_runnable, w_alone, w_named, w_hears, w_ripe, w_room, w_tables⟩
theorem atStart : AtStart classFile x code maxLocals ret World_1 tables_1 room_1 Calls_1 rest_1 Pre_1 launch0 p0 e0 about1 theMethod args0 below0 :=
  ⟨lists_1, trivial, launch0.admits_env _ _ _, launch0.least_env, fairChoices_fair.cas, fairChoices_fair.clock, w_frames, w_args, w_heap, w_applies, trivial, w_rest, w_case⟩
end start1
theorem witness_1 : WitnessClaimed_1 := ⟨start1.p0, start1.e0, start1.about1, start1.theMethod, start1.args0, start1.below0, start1.atStart⟩
end Jvm.Pilot.@@N@@
