import JvmDerived
import JvmDerived.Pilot.@@N@@Statement
import JvmDerived.Pilot.@@N@@Code
set_option linter.unusedVariables false
set_option linter.unusedSimpArgs false
@@BLOCK:NumsL.lean.txt@@
namespace Jvm.RoadKit
open Sem ClassFile Op Lib Jvm.Stand Jvm.Free Jvm.LawKit
section New
variable {p : Program} {l : Launch} {e : Env} {R : Room} {s : State} {m : MethodId} {args : Array Value} {below : List Frame} {meth : Method} {c : Code} {T : State} {locs : List Loc} {cells slots : Nat}
theorem retI (X : Stand p l e R s m args below meth c T locs cells slots) (hx : p.tables.exec = Jvm.exec) {pc : Nat} {Ls : Array Slot} {z : Int32} {rest : List Value} (hret : meth.sig.returnType = some .int) (hd : decode c.code pc = .ok (.ireturn, 1)) {fs : List Frame}
    (hl : ∀ (f : JFrame) (acts : List Action), f.method = m → f.locked = none → f.entered = [] → (doReturn e (T.setTop f) acts (some (.int z))).1 = T.setFrames fs) : Steps p.tables e below (T.setTop (mkF m pc Ls (.int z :: rest))) (T.setFrames fs) := by
  have hm' : T.vm.method? m = some meth := X.method'
  have hn : narrow .int (.int z) = .int z := rfl
  show Steps p.tables e below (T.setTop { method := m, pc := pc, locals := Ls, stack := _ :: rest, locked := none }) _
  jvm_step X.here [X.here.top, hx, hd, hm', hret, hn]
  first | (intro acts; rw [hl _ acts rfl rfl rfl]) | rw [hl _ _ rfl rfl rfl]
  exact Steps.refl _
end New
end Jvm.RoadKit
namespace Jvm.Pilot.@@N@@
open Jvm Jvm.ClassFile Sem Op Lib Jvm.Free Jvm.Stand Jvm.LawKit Jvm.RoadKit Bundle Jvm.Pilot.@@N@@.Jvm.D
theorem own_ext {h h' h'' : Heap} (A : Ext h h') (B : Ext h' h'') : Ext h h'' := ⟨Nat.le_trans A.1 B.1, fun a c q => B.2 a c (A.2 a c q)⟩
theorem own_fld {args : Array Value} {s : State} {t : Term} {C n d : String} {w : Addr} {k : Int32} (h : (Jvm.Cond.eq (.field t C n d) (.int k)).value args s none s [] = some true) (ev : t.eval args s none [] s = some (.ref w)) : Fld s s.heap w C n d (.int k) := by
  apply Fld.start
  have e := fld_at (C := C) (n := n) (dd := d) ev
  obtain ⟨x, y, e1, e2, k1, k2⟩ := cmp_v (Or.inl h)
  cases (show y = .int k from (Option.some.inj (e2.symm.trans rfl)))
  obtain ⟨z, rfl⟩ := k2
  have q := gotT (Cond.eq_ints e1 e2) h
  rw [← e, e1, q]
theorem own_fldR {args : Array Value} {s : State} {t u : Term} {C n d : String} {w b : Addr} (h : (Jvm.Cond.eq (.field t C n d) u).value args s none s [] = some true) (ev : t.eval args s none [] s = some (.ref w)) (eu : u.eval args s none [] s = some (.ref b)) : Fld s s.heap w C n d (.ref b) := by
  apply Fld.start
  have e := fld_at (C := C) (n := n) (dd := d) ev
  obtain ⟨x, y, e1, e2, k1, k2⟩ := cmp_v (Or.inl h)
  cases e2.symm.trans eu
  have q := gotT (eq_R e1 eu k2.2 rfl) h
  rw [← e, e1, q]
theorem own_ne {Z : State} {h : Heap} {a b : Addr} {C n d : String} {i j : Int32} (F : Fld Z h a C n d (.int i)) (G : Fld Z h b C n d (.int j)) (hn : ¬ (i = j)) : ¬ (a = b) := fun e => by
  subst e
  obtain ⟨c1, f1, k1, i1, g1, p1, p2, -, -, -, -, p7⟩ := F
  obtain ⟨c2, f2, k2, i2, g2, q1, q2, -, -, -, -, q7⟩ := G
  cases p1.symm.trans q1
  cases p2.symm.trans q2
  exact hn (Value.int.inj (Option.some.inj (p7.symm.trans q7)))
theorem own_n0 {Z : State} {n0 : Nat} {h : Heap} (O : Old Z n0 h) : n0 ≤ h.size := O.1 ▸ O.2.1
theorem own_len {args : Array Value} {s : State} {t : Term} {w : Addr} {n : Int32} {cl : Cell} {ty : FieldType} (h : (Jvm.Cond.eq (.length t) (.int n)).value args s none s [] = some true) (ev : t.eval args s none [] s = some (.ref w)) (A : Arr s s.heap w cl ty) : cl.slots.size.toInt32 = n := by
  obtain ⟨x, y, e1, e2, k1, k2⟩ := cmp_v (Or.inl h)
  cases (show y = .int n from (Option.some.inj (e2.symm.trans rfl)))
  obtain ⟨z, rfl⟩ := k2
  have q := gotT (Cond.eq_ints e1 e2) h
  have ha : s.arrayAt? w = some cl := Arr.fin (Vm.Alike.refl _) A
  simp [Term.eval, ev, ha] at e1
  rw [← q]; exact e1.2
theorem own_elem {args : Array Value} {s : State} {t u : Term} {w : Addr} {j : Int32} {cl : Cell} {ty : FieldType} {v : Value} (h : (Jvm.Cond.eq (.elem t (.int j)) u).value args s none s [] = some true) (ev : t.eval args s none [] s = some (.ref w)) (A : Arr s s.heap w cl ty) (eu : u.eval args s none [] s = some v) (hv : v.isRef = true := by rfl) : ¬ (j < 0 ∨ cl.slots.size ≤ j.toNatClampNeg) ∧ cl.slots[j.toNatClampNeg]? = some v := by
  obtain ⟨x, y, e1, e2, k1, k2⟩ := cmp_v (Or.inl h)
  cases e2.symm.trans eu
  have hx : x.isRef = true := by cases v <;> simp [Value.isRef] at hv <;> exact k2.2
  have q := gotT (eq_R e1 eu hx hv) h
  rw [q] at e1
  exact elem_in e1 ev rfl A.1
theorem own_sz {n : Nat} {z : Int32} (h31 : n < 2 ^ 31) (e : n.toInt32 = z) : (n : Int) = z.toInt := by
  rw [← e]; exact (len_toInt h31).symm
theorem own_small {args : Array Value} {s : State} {t : Term} {w : Addr} {n : Int32} {cl : Cell} {ty : FieldType} (h : (Jvm.Cond.eq (.length t) (.int n)).value args s none s [] = some true) (ev : t.eval args s none [] s = some (.ref w)) (A : Arr s s.heap w cl ty) : cl.slots.size < 2 ^ 31 := by
  obtain ⟨x, y, e1, e2, k1, k2⟩ := cmp_v (Or.inl h)
  have ha : s.arrayAt? w = some cl := Arr.fin (Vm.Alike.refl _) A
  simp [Term.eval, ev, ha] at e1
  exact e1.1
theorem own_place {j : Int32} {n : Nat} (h31 : n < 2 ^ 31) {z : Int32} (e : n.toInt32 = z) (hj : ¬ j < 0 ∧ j < z) : ¬ (j < 0 ∨ n ≤ j.toNatClampNeg) ∧ j.toNatClampNeg < n := by
  have e1 := own_sz h31 e
  have e2 := nat_of hj.1
  have e3 := Int32.lt_iff_toInt_lt.mp hj.2
  have : j.toNatClampNeg < n := by omega
  exact ⟨fun q => q.elim hj.1 (fun q => by omega), this⟩
theorem own_allE {args : Array Value} {s : State} {C0 n0 d0 C : String} {w : Addr} {cl : Cell} {ty : FieldType} {z : Int32} {D : Jvm.Cond} (h : (Jvm.Cond.all (.static C0 n0 d0) (.and (.exactly (.elem (.static C0 n0 d0) (.index 0)) C) D)).value args s none s [] = some true) (ev : (Term.static C0 n0 d0).eval args s none [] s = some (.ref w)) (A : Arr s s.heap w cl ty) (h31 : cl.slots.size < 2 ^ 31) (e : cl.slots.size.toInt32 = z) (j : Int32) (hj : ¬ j < 0 ∧ j < z) :
    ∃ b, ¬ (j < 0 ∨ cl.slots.size ≤ j.toNatClampNeg) ∧ cl.slots[j.toNatClampNeg]? = some (.ref b) ∧ Exa s s.heap b C ∧ (Term.elem (.static C0 n0 d0) (.index 0)).eval args s none [j.toNatClampNeg] s = some (.ref b) ∧ D.value args s none s [j.toNatClampNeg] = some true := by
  have ha : s.arrayAt? w = some cl := Arr.fin (Vm.Alike.refl _) A
  obtain ⟨p1, p2⟩ := own_place h31 e hj
  obtain ⟨c1, c2⟩ := and_e (Cond.all_elim ev ha h _ p2)
  have ev' : (Term.static C0 n0 d0).eval args s none [j.toNatClampNeg] s = some (.ref w) := ev
  have ej : (Term.index 0).eval args s none [j.toNatClampNeg] s = some (.int j) := by
    show some (Value.int j.toNatClampNeg.toInt32) = _
    rw [(back32 hj.1).1]
  have ee := elem_f ev' ej ha hj.1
  obtain ⟨b, eb⟩ := exa_v c1
  obtain ⟨a', c', cell, k, q1, q2, q3, q4, q5, rfl, q7⟩ := Cond.exactly_spec (beq_iff_eq.mpr c1 : (Jvm.Cond.exactly (.elem (.static C0 n0 d0) (.index 0)) C).holds args s none s [j.toNatClampNeg] = true)
  cases eb.symm.trans q1
  exact ⟨b, p1, ee.symm.trans eb, ⟨cell, k, q3, q2, q4, q5, q7⟩, eb, c2⟩
theorem own_inj {x y : Int32} (h : x.toInt = y.toInt) : x = y := Int32.toInt_inj.mp h
theorem own_rem5 (x : Int32) : ((x &&& (2147483647 : Int32)) % (5 : Int32)) = (0 : Int32) ∨ ((x &&& (2147483647 : Int32)) % (5 : Int32)) = (1 : Int32) ∨ ((x &&& (2147483647 : Int32)) % (5 : Int32)) = (2 : Int32) ∨ ((x &&& (2147483647 : Int32)) % (5 : Int32)) = (3 : Int32) ∨ ((x &&& (2147483647 : Int32)) % (5 : Int32)) = (4 : Int32) := by
  have e := Jvm.Kit.i32_mask x (2147483647 : Int32) (k := 31) (by decide) (by decide)
  have e2 := Jvm.Kit.i32_rem_nonneg (x := x &&& (2147483647 : Int32)) (y := (5 : Int32)) (by omega)
  have e3 : (5 : Int32).toInt = 5 := by decide
  rw [e3] at e2
  have h : ((x &&& (2147483647 : Int32)) % (5 : Int32)).toInt = 0 ∨ ((x &&& (2147483647 : Int32)) % (5 : Int32)).toInt = 1 ∨ ((x &&& (2147483647 : Int32)) % (5 : Int32)).toInt = 2 ∨ ((x &&& (2147483647 : Int32)) % (5 : Int32)).toInt = 3 ∨ ((x &&& (2147483647 : Int32)) % (5 : Int32)).toInt = 4 := by omega
  rcases h with h | h | h | h | h
  · exact Or.inl (own_inj (h.trans (by decide)))
  · exact Or.inr (Or.inl (own_inj (h.trans (by decide))))
  · exact Or.inr (Or.inr (Or.inl (own_inj (h.trans (by decide)))))
  · exact Or.inr (Or.inr (Or.inr (Or.inl (own_inj (h.trans (by decide))))))
  · exact Or.inr (Or.inr (Or.inr (Or.inr (own_inj (h.trans (by decide))))))
theorem own_rem11 (x : Int32) : ((x &&& (2147483647 : Int32)) % (11 : Int32)) = (0 : Int32) ∨ ((x &&& (2147483647 : Int32)) % (11 : Int32)) = (1 : Int32) ∨ ((x &&& (2147483647 : Int32)) % (11 : Int32)) = (2 : Int32) ∨ ((x &&& (2147483647 : Int32)) % (11 : Int32)) = (3 : Int32) ∨ ((x &&& (2147483647 : Int32)) % (11 : Int32)) = (4 : Int32) ∨ ((x &&& (2147483647 : Int32)) % (11 : Int32)) = (5 : Int32) ∨ ((x &&& (2147483647 : Int32)) % (11 : Int32)) = (6 : Int32) ∨ ((x &&& (2147483647 : Int32)) % (11 : Int32)) = (7 : Int32) ∨ ((x &&& (2147483647 : Int32)) % (11 : Int32)) = (8 : Int32) ∨ ((x &&& (2147483647 : Int32)) % (11 : Int32)) = (9 : Int32) ∨ ((x &&& (2147483647 : Int32)) % (11 : Int32)) = (10 : Int32) := by
  have e := Jvm.Kit.i32_mask x (2147483647 : Int32) (k := 31) (by decide) (by decide)
  have e2 := Jvm.Kit.i32_rem_nonneg (x := x &&& (2147483647 : Int32)) (y := (11 : Int32)) (by omega)
  have e3 : (11 : Int32).toInt = 11 := by decide
  rw [e3] at e2
  have h : ((x &&& (2147483647 : Int32)) % (11 : Int32)).toInt = 0 ∨ ((x &&& (2147483647 : Int32)) % (11 : Int32)).toInt = 1 ∨ ((x &&& (2147483647 : Int32)) % (11 : Int32)).toInt = 2 ∨ ((x &&& (2147483647 : Int32)) % (11 : Int32)).toInt = 3 ∨ ((x &&& (2147483647 : Int32)) % (11 : Int32)).toInt = 4 ∨ ((x &&& (2147483647 : Int32)) % (11 : Int32)).toInt = 5 ∨ ((x &&& (2147483647 : Int32)) % (11 : Int32)).toInt = 6 ∨ ((x &&& (2147483647 : Int32)) % (11 : Int32)).toInt = 7 ∨ ((x &&& (2147483647 : Int32)) % (11 : Int32)).toInt = 8 ∨ ((x &&& (2147483647 : Int32)) % (11 : Int32)).toInt = 9 ∨ ((x &&& (2147483647 : Int32)) % (11 : Int32)).toInt = 10 := by omega
  rcases h with h | h | h | h | h | h | h | h | h | h | h
  · exact Or.inl (own_inj (h.trans (by decide)))
  · exact Or.inr (Or.inl (own_inj (h.trans (by decide))))
  · exact Or.inr (Or.inr (Or.inl (own_inj (h.trans (by decide)))))
  · exact Or.inr (Or.inr (Or.inr (Or.inl (own_inj (h.trans (by decide))))))
  · exact Or.inr (Or.inr (Or.inr (Or.inr (Or.inl (own_inj (h.trans (by decide)))))))
  · exact Or.inr (Or.inr (Or.inr (Or.inr (Or.inr (Or.inl (own_inj (h.trans (by decide))))))))
  · exact Or.inr (Or.inr (Or.inr (Or.inr (Or.inr (Or.inr (Or.inl (own_inj (h.trans (by decide)))))))))
  · exact Or.inr (Or.inr (Or.inr (Or.inr (Or.inr (Or.inr (Or.inr (Or.inl (own_inj (h.trans (by decide))))))))))
  · exact Or.inr (Or.inr (Or.inr (Or.inr (Or.inr (Or.inr (Or.inr (Or.inr (Or.inl (own_inj (h.trans (by decide)))))))))))
  · exact Or.inr (Or.inr (Or.inr (Or.inr (Or.inr (Or.inr (Or.inr (Or.inr (Or.inr (Or.inl (own_inj (h.trans (by decide))))))))))))
  · exact Or.inr (Or.inr (Or.inr (Or.inr (Or.inr (Or.inr (Or.inr (Or.inr (Or.inr (Or.inr (own_inj (h.trans (by decide))))))))))))
theorem own_lo5 (x : Int32) : ¬ (((1 : Int32) + ((x &&& (2147483647 : Int32)) % (5 : Int32))) < (1 : Int32)) := by
  rcases own_rem5 x with h | h | h | h | h <;> rw [h] <;> decide
theorem own_hi5 (x : Int32) : ¬ ((5 : Int32) < ((1 : Int32) + ((x &&& (2147483647 : Int32)) % (5 : Int32)))) := by
  rcases own_rem5 x with h | h | h | h | h <;> rw [h] <;> decide
theorem own_lq5 (x : Int32) : ¬ (((1 : Int32) + ((x &&& (2147483647 : Int32)) % (5 : Int32))) < (-128 : Int32)) := by
  rcases own_rem5 x with h | h | h | h | h <;> rw [h] <;> decide
theorem own_hq5 (x : Int32) : ¬ ((127 : Int32) < ((1 : Int32) + ((x &&& (2147483647 : Int32)) % (5 : Int32)))) := by
  rcases own_rem5 x with h | h | h | h | h <;> rw [h] <;> decide
theorem own_lo11 (x : Int32) : ¬ (((1 : Int32) + ((x &&& (2147483647 : Int32)) % (11 : Int32))) < (1 : Int32)) := by
  rcases own_rem11 x with h | h | h | h | h | h | h | h | h | h | h <;> rw [h] <;> decide
theorem own_hi11 (x : Int32) : ¬ ((11 : Int32) < ((1 : Int32) + ((x &&& (2147483647 : Int32)) % (11 : Int32)))) := by
  rcases own_rem11 x with h | h | h | h | h | h | h | h | h | h | h <;> rw [h] <;> decide
theorem own_lq11 (x : Int32) : ¬ (((1 : Int32) + ((x &&& (2147483647 : Int32)) % (11 : Int32))) < (-128 : Int32)) := by
  rcases own_rem11 x with h | h | h | h | h | h | h | h | h | h | h <;> rw [h] <;> decide
theorem own_hq11 (x : Int32) : ¬ ((127 : Int32) < ((1 : Int32) + ((x &&& (2147483647 : Int32)) % (11 : Int32)))) := by
  rcases own_rem11 x with h | h | h | h | h | h | h | h | h | h | h <;> rw [h] <;> decide
theorem own_staI {args : Array Value} {s : State} {t : Term} {k : Int32} (h : (Jvm.Cond.eq t (.int k)).value args s none s [] = some true) : t.eval args s none [] s = some (.int k) := by
  obtain ⟨x, y, e1, e2, k1, k2⟩ := cmp_v (Or.inl h)
  cases (show y = .int k from (Option.some.inj (e2.symm.trans rfl)))
  obtain ⟨z, rfl⟩ := k2
  have q := gotT (Cond.eq_ints e1 e2) h
  rw [e1, q]
theorem own_fldG {args : Array Value} {s : State} {idx : List Nat} {t u : Term} {C n d : String} {w : Addr} {k : Int32} (h : (Jvm.Cond.eq (.field t C n d) u).value args s none s idx = some true) (ev : t.eval args s none idx s = some (.ref w)) (eu : u.eval args s none idx s = some (.int k)) : Fld s s.heap w C n d (.int k) := by
  apply Fld.start
  have e := fld_at (C := C) (n := n) (dd := d) ev
  obtain ⟨x, y, e1, e2, k1, k2⟩ := cmp_v (Or.inl h)
  cases e2.symm.trans eu
  obtain ⟨z, rfl⟩ := k2
  have q := gotT (Cond.eq_ints e1 e2) h
  rw [← e, e1, q]
theorem own_back (w : Int32) : (w + (128 : Int32)) - 128 = w := Int32.add_sub_cancel w 128
theorem own_plI (w : Int32) (h1 : ¬ (w < (-128 : Int32))) (h2 : ¬ ((127 : Int32) < w)) : ¬ ((w + (128 : Int32)) < 0) ∧ (w + (128 : Int32)) < 256 := by
  rw [Int32.lt_iff_toInt_lt] at h1 h2
  have e1 : (-128 : Int32).toInt = -128 := by decide
  have e2 : (127 : Int32).toInt = 127 := by decide
  have e4 : (128 : Int32).toInt = 128 := by decide
  have e5 : (w + (128 : Int32)).toInt = w.toInt + (128 : Int32).toInt := Jvm.Kit.i32_add (by omega) (by omega)
  have e6 : (0 : Int32).toInt = 0 := by decide
  have e7 : (256 : Int32).toInt = 256 := by decide
  rw [Int32.lt_iff_toInt_lt, Int32.lt_iff_toInt_lt]
  omega
def World (Z : State) (w_MONTH : Addr) (w_YEAR : Addr) (w_cache : Addr) (cl_w_cache : Cell) : Prop := Sta Z Z.heap "com/example/metered_billing/meteredbilling/plan/Term$Unit" "MONTH" "Lcom/example/metered_billing/meteredbilling/plan/Term$Unit;" (.ref w_MONTH) ∧ Exa Z Z.heap w_MONTH "com/example/metered_billing/meteredbilling/plan/Term$Unit" ∧ Sta Z Z.heap "com/example/metered_billing/meteredbilling/plan/Term$Unit" "YEAR" "Lcom/example/metered_billing/meteredbilling/plan/Term$Unit;" (.ref w_YEAR) ∧ Exa Z Z.heap w_YEAR "com/example/metered_billing/meteredbilling/plan/Term$Unit" ∧ Fld Z Z.heap w_MONTH "com/example/metered_billing/meteredbilling/plan/Term$Unit" "most" "I" (.int (11 : Int32)) ∧ Fld Z Z.heap w_YEAR "com/example/metered_billing/meteredbilling/plan/Term$Unit" "most" "I" (.int (5 : Int32)) ∧ Fld Z Z.heap w_MONTH "java/lang/Enum" "ordinal" "I" (.int (0 : Int32)) ∧ Fld Z Z.heap w_YEAR "java/lang/Enum" "ordinal" "I" (.int (1 : Int32)) ∧ ¬ (w_MONTH = w_YEAR) ∧ Sta Z Z.heap "java/lang/Integer$IntegerCache" "high" "I" (.int (127 : Int32)) ∧ Sta Z Z.heap "java/lang/Integer$IntegerCache" "cache" "[Ljava/lang/Integer;" (.ref w_cache) ∧ Arr Z Z.heap w_cache cl_w_cache (.object "java/lang/Integer") ∧ cl_w_cache.slots.size.toInt32 = (256 : Int32) ∧ (∀ j : Int32, (¬ j < 0 ∧ j < 256) → ∃ b : Addr, ¬ (j < 0 ∨ cl_w_cache.slots.size ≤ j.toNatClampNeg) ∧ cl_w_cache.slots[j.toNatClampNeg]? = some (.ref b) ∧ Exa Z Z.heap b "java/lang/Integer" ∧ Fld Z Z.heap b "java/lang/Integer" "value" "I" (.int (j - 128))) ∧ True
theorem d1_0 : decode prog_43_method_1_code 0 = .ok (.aload_n 0, 1) := by decide +kernel
theorem d2_0 : decode jdk_30_method_1_code 0 = .ok (.aload_n 0, 1) := by decide +kernel
theorem d2_1 : decode jdk_30_method_1_code 1 = .ok (.invokespecial 1, 3) := by decide +kernel
theorem d2_4 : decode jdk_30_method_1_code 4 = .ok (.return_, 1) := by decide +kernel
theorem ef5 (m : MethodId) (x0 : Addr) : entryFrame m #[(.ref x0)] 1 = mkF m 0 #[.val (.ref x0)] [] := by first | (simp [entryFrame, mkF, argsToLocals, Value.category]; done) | rfl
theorem pn6 : plainName "java/lang/Record" = true := by first | (simp [plainName, overriddenIn]; done) | decide +kernel
def Q2_0 (Z : State) (w_MONTH : Addr) (w_YEAR : Addr) (w_cache : Addr) (cl_w_cache : Cell) (ob0 : Addr) (h0 : Heap) (n0 : Nat) (v : Option Value) (h : Heap) (L : List Loc) : Prop := v = none ∧ Fr n0 L ∧ h = h0
set_option maxRecDepth 65536 in
set_option maxHeartbeats 40000000 in
theorem rm2_0 (l : Launch) (Z : State) (a0 : Array Value) (hw : ∀ d ∈ tables_1, d.before a0 Z = true) (ws : List Jvm.Cond) (w_MONTH : Addr) (w_YEAR : Addr) (w_cache : Addr) (cl_w_cache : Cell) (ob0 : Addr) (h0 : Heap) (n0 : Nat) (Z0 : n0 ≤ h0.size) (O0 : Old Z n0 h0) (HW : World Z w_MONTH w_YEAR w_cache cl_w_cache) (PE_ob0 : Exa Z h0 ob0 "com/example/metered_billing/meteredbilling/plan/Term") (PF_ob0_length : Fld Z h0 ob0 "com/example/metered_billing/meteredbilling/plan/Term" "length" "I" (.int (0 : Int32))) (PF_ob0_unit : Fld Z h0 ob0 "com/example/metered_billing/meteredbilling/plan/Term" "unit" "Lcom/example/metered_billing/meteredbilling/plan/Term$Unit;" .null) :
    MetFree l (⟨"java/lang/Record", "<init>", "()V"⟩ : MethodName) (head1 (Jvm.Cond.code (⟨"java/lang/Record", "<init>", "()V"⟩ : MethodName) jdk_30_method_1_code 1 none :: ws) ({ frames := 1, cells := 0, slots := 0, locals := 12 } : Room)) (fun a U => a = #[(.ref ob0)] ∧ Z.Warmed39 U.vm ∧ U.heap = h0) (fun _ _ _ _ _ => True) (fun _ U o U' => ∃ v L, o = .returned v ∧ Q2_0 Z w_MONTH w_YEAR w_cache cl_w_cache ob0 h0 n0 v U'.heap L ∧ FrameEnd U o U' L ({ frames := 1, cells := 0, slots := 0, locals := 12 } : Room).cells ({ frames := 1, cells := 0, slots := 0, locals := 12 } : Room).slots) := by
  refine MetFree.of_bodySF (plainFor_of_name pn6) hisR ?_
  intro p e s m args below meth c s₁ Bd hml0 hP hK
  obtain ⟨rfl, hZ, hh⟩ := hP
  have hx := Bd.exec
  have hby := Bd.bytes
  have hml : c.maxLocals = 1 := hml0
  have hown : s.vm.findClass "java/lang/Record" = some m.cls := findClass_of_methodNamed Bd.named
  have hnm := (name_of_methodNamed Bd.named Bd.method).1
  have X0 : Stand p l e ({ frames := 1, cells := 0, slots := 0, locals := 12 } : Room) s m #[(.ref ob0)] below meth c s₁ [] 0 0 := Stand.of_body Bd
  have e0 : s₁.heap = h0 := by rw [← hh, Bd.state]; rfl
  have N0 := Fr.nil n0
  have pre0 : ∀ t, Steps p.tables e below (s₁.setTop (mkF m 0 #[.val (.ref ob0)] [])) t → Steps p.tables e below (s₁.setTop (entryFrame m #[(.ref ob0)] 1)) t := fun t k => castTop (ef5 m ob0) k
  obtain ⟨S_w_MONTH, E_w_MONTH, S_w_YEAR, E_w_YEAR, F_most_w_MONTH, F_most_w_YEAR, F_ordinal_w_MONTH, F_ordinal_w_YEAR, ne_w_MONTH_w_YEAR, S_high, S_w_cache, Ar_w_cache, Sz_w_cache, AL_w_cache, -⟩ := id HW
  obtain ⟨T1, X1, e1, st1⟩ := initO X0 hx hZ hown (hw _ (List.mem_of_getElem? (i := 15) rfl)) (hw _ (List.mem_of_getElem? (i := 16) rfl)) (hw _ (List.mem_of_getElem? (i := 17) rfl)) e0 (g := (mkF m 1 #[.val (.ref ob0)] [(.ref ob0)])) rfl (by rw [hml]; rfl) rfl (hb hby d2_1) (by decide) (W := 0) (by show 2 * 0 + _ ≤ _; exact Nat.le_of_eq rfl) (by decide)
  obtain ⟨fs, hr, hrun, hended, hW, hsame⟩ := X1.leave (v := none) (fun _ => rfl)
  refine ⟨_, _, pre0 _ ?_, hrun, hended, _, _, rfl, ?_, ⟨_, rfl⟩, hW, hsame.mono (by decide) (by decide)⟩
  · show Steps p.tables e below (s₁.setTop (mkF m 0 #[.val (.ref ob0)] [])) _
    refine XS.aloadN X0.here hx rfl (hb hby d2_0) rfl rfl ?_
    show Steps p.tables e below (s₁.setTop (mkF m 1 #[.val (.ref ob0)] [(.ref ob0)])) _
    refine st1 _ ?_
    show Steps p.tables e below (T1.setTop (mkF m 4 #[.val (.ref ob0)] [])) _
    exact X1.returnOut hx Bd.returns (hb hby d2_4) hr
  · exact ⟨rfl, N0, e1⟩
theorem pd7 : parseMethodDescriptor "()V" = some ⟨[], none⟩ := by decide +kernel
theorem d1_1 : decode prog_43_method_1_code 1 = .ok (.invokespecial 1, 3) := by decide +kernel
theorem d1_4 : decode prog_43_method_1_code 4 = .ok (.iload_n 1, 1) := by decide +kernel
theorem d1_5 : decode prog_43_method_1_code 5 = .ok (.iconst 1, 1) := by decide +kernel
theorem d1_6 : decode prog_43_method_1_code 6 = .ok (.if_icmp .lt 11, 3) := by decide +kernel
theorem d1_9 : decode prog_43_method_1_code 9 = .ok (.iload_n 1, 1) := by decide +kernel
theorem d1_10 : decode prog_43_method_1_code 10 = .ok (.aload_n 2, 1) := by decide +kernel
theorem own_getFR {p : Program} {l : Launch} {e : Env} {R : Room} {s : State} {m : MethodId} {args : Array Value} {below : List Frame} {meth : Method} {c : Code} {T : State} {locs : List Loc} {cells slots : Nat} {Z : State} {a0 : Array Value} {h : Heap} (X : Stand p l e R s m args below meth c T locs cells slots) (hx : p.tables.exec = Jvm.exec) (hZ : Z.Warmed39 s.vm) {own O n d : String} {index : Nat} (hown : s.vm.findClass own = some m.cls) (w : (Jvm.Cond.fieldRef own index O n d).before a0 Z = true)
    (eT : T.heap = h) {a : Addr} {v : Value} (F : Fld Z h a O n d v) {g : JFrame} (hg : g.method = m) {rest : List Value} (hs : g.stack = .ref a :: rest) (hd : decode c.code g.pc = .ok (.getfield index, 3)) : ∀ target, Steps p.tables e below (T.setTop { g with pc := g.pc + 3, stack := v :: rest }) target → Steps p.tables e below (T.setTop g) target := by
  intro target hrest
  obtain ⟨cell, cf, k, i, f, h1, h2, h3, h4, -, -, h7⟩ := F
  have hW : Z.Warmed39 T.vm := wtrans hZ X.warmed
  have w' := Cond.fieldRef_warmed39 hW w
  have hown' : (Z.setVm T.vm).vm.findClass own = some m.cls := by
    rw [show (Z.setVm T.vm).vm = T.vm from rfl, X.warmed.alike.findClass]; exact hown
  obtain ⟨c', k', i', f', e1, hr⟩ := Cond.fieldRef_spec hown' w'
  obtain ⟨k2, e2, -⟩ := State.fieldFound?_setVm (s := Z) hW.alike h2
  cases e2.symm.trans e1
  subst hg
  jvm_step X.here [hx, hd, getfield.wp_ready (e := e) (s := T) (f := g) X.here.top hr h3 hs (by rw [eT]; exact h1) h4 h7]
  exact hrest
theorem d1_11 : decode prog_43_method_1_code 11 = .ok (.getfield 7, 3) := by decide +kernel
theorem d1_14 : decode prog_43_method_1_code 14 = .ok (.if_icmp .le 24, 3) := by decide +kernel
theorem d1_38 : decode prog_43_method_1_code 38 = .ok (.aload_n 0, 1) := by decide +kernel
theorem d1_39 : decode prog_43_method_1_code 39 = .ok (.iload_n 1, 1) := by decide +kernel
theorem d1_40 : decode prog_43_method_1_code 40 = .ok (.putfield 26, 3) := by decide +kernel
theorem d1_43 : decode prog_43_method_1_code 43 = .ok (.aload_n 0, 1) := by decide +kernel
theorem d1_44 : decode prog_43_method_1_code 44 = .ok (.aload_n 2, 1) := by decide +kernel
theorem d1_45 : decode prog_43_method_1_code 45 = .ok (.putfield 31, 3) := by decide +kernel
theorem d1_48 : decode prog_43_method_1_code 48 = .ok (.return_, 1) := by decide +kernel
theorem ef25 (m : MethodId) (x0 : Addr) (x1 : Int32) (x2 : Addr) : entryFrame m #[(.ref x0), (.int x1), (.ref x2)] 3 = mkF m 0 #[.val (.ref x0), .val (.int x1), .val (.ref x2)] [] := by first | (simp [entryFrame, mkF, argsToLocals, Value.category]; done) | rfl
theorem pn26 : plainName "com/example/metered_billing/meteredbilling/plan/Term" = true := by first | (simp [plainName, overriddenIn]; done) | decide +kernel
def Q1_1 (Z : State) (w_MONTH : Addr) (w_YEAR : Addr) (w_cache : Addr) (cl_w_cache : Cell) (ob0 : Addr) (q0 : Int32) (h0 : Heap) (n0 : Nat) (v : Option Value) (h : Heap) (L : List Loc) : Prop := v = none ∧ Fr n0 L ∧ Keep h0 h [ob0] ∧ Old Z n0 h ∧ Exa Z h ob0 "com/example/metered_billing/meteredbilling/plan/Term" ∧ Fld Z h ob0 "com/example/metered_billing/meteredbilling/plan/Term" "length" "I" (.int q0) ∧ Fld Z h ob0 "com/example/metered_billing/meteredbilling/plan/Term" "unit" "Lcom/example/metered_billing/meteredbilling/plan/Term$Unit;" (.ref w_MONTH) ∧ True
set_option maxRecDepth 65536 in
set_option maxHeartbeats 40000000 in
theorem rm1_1 (l : Launch) (Z : State) (a0 : Array Value) (hw : ∀ d ∈ tables_1, d.before a0 Z = true) (ws : List Jvm.Cond) (w_MONTH : Addr) (w_YEAR : Addr) (w_cache : Addr) (cl_w_cache : Cell) (ob0 : Addr) (q0 : Int32) (h0 : Heap) (n0 : Nat) (Z0 : n0 ≤ h0.size) (O0 : Old Z n0 h0) (HW : World Z w_MONTH w_YEAR w_cache cl_w_cache) (PE_ob0 : Exa Z h0 ob0 "com/example/metered_billing/meteredbilling/plan/Term") (PF_ob0_length : Fld Z h0 ob0 "com/example/metered_billing/meteredbilling/plan/Term" "length" "I" (.int (0 : Int32))) (PF_ob0_unit : Fld Z h0 ob0 "com/example/metered_billing/meteredbilling/plan/Term" "unit" "Lcom/example/metered_billing/meteredbilling/plan/Term$Unit;" .null) (g_ob0 : n0 ≤ ob0) (hd0 : ¬ (q0 < (1 : Int32))) (hd1 : ¬ ((11 : Int32) < q0)) :
    MetFree l (⟨"com/example/metered_billing/meteredbilling/plan/Term", "<init>", "(ILcom/example/metered_billing/meteredbilling/plan/Term$Unit;)V"⟩ : MethodName) (head1 (Jvm.Cond.code (⟨"com/example/metered_billing/meteredbilling/plan/Term", "<init>", "(ILcom/example/metered_billing/meteredbilling/plan/Term$Unit;)V"⟩ : MethodName) prog_43_method_1_code 3 none :: ws) ({ frames := 2, cells := 0, slots := 0, locals := 24 } : Room)) (fun a U => a = #[(.ref ob0), (.int q0), (.ref w_MONTH)] ∧ Z.Warmed39 U.vm ∧ U.heap = h0) (fun _ _ _ _ _ => True) (fun _ U o U' => ∃ v L, o = .returned v ∧ Q1_1 Z w_MONTH w_YEAR w_cache cl_w_cache ob0 q0 h0 n0 v U'.heap L ∧ FrameEnd U o U' L ({ frames := 2, cells := 0, slots := 0, locals := 24 } : Room).cells ({ frames := 2, cells := 0, slots := 0, locals := 24 } : Room).slots) := by
  refine MetFree.of_bodySF (plainFor_of_name pn26) hisR ?_
  intro p e s m args below meth c s₁ Bd hml0 hP hK
  obtain ⟨rfl, hZ, hh⟩ := hP
  have hx := Bd.exec
  have hby := Bd.bytes
  have hml : c.maxLocals = 3 := hml0
  have hown : s.vm.findClass "com/example/metered_billing/meteredbilling/plan/Term" = some m.cls := findClass_of_methodNamed Bd.named
  have hnm := (name_of_methodNamed Bd.named Bd.method).1
  have X0 : Stand p l e ({ frames := 2, cells := 0, slots := 0, locals := 24 } : Room) s m #[(.ref ob0), (.int q0), (.ref w_MONTH)] below meth c s₁ [] 0 0 := Stand.of_body Bd
  have e0 : s₁.heap = h0 := by rw [← hh, Bd.state]; rfl
  have N0 := Fr.nil n0
  have pre0 : ∀ t, Steps p.tables e below (s₁.setTop (mkF m 0 #[.val (.ref ob0), .val (.int q0), .val (.ref w_MONTH)] [])) t → Steps p.tables e below (s₁.setTop (entryFrame m #[(.ref ob0), (.int q0), (.ref w_MONTH)] 3)) t := fun t k => castTop (ef25 m ob0 q0 w_MONTH) k
  obtain ⟨S_w_MONTH, E_w_MONTH, S_w_YEAR, E_w_YEAR, F_most_w_MONTH, F_most_w_YEAR, F_ordinal_w_MONTH, F_ordinal_w_YEAR, ne_w_MONTH_w_YEAR, S_high, S_w_cache, Ar_w_cache, Sz_w_cache, AL_w_cache, -⟩ := id HW
  obtain ⟨_, _, ⟨T1, L1, k1, n1⟩, -, X1, ⟨Lc1, hQ1, l1, y1, z1⟩, st1⟩ := X0.specialBack hx (y := (⟨"java/lang/Record", "<init>", "()V"⟩ : MethodName)) rfl hown (mvT hZ (hw _ (List.mem_of_getElem? (i := 10) rfl))) (mvT hZ (hw _ (List.mem_of_getElem? (i := 11) rfl))) (mvT hZ (hw _ (List.mem_of_getElem? (i := 14) rfl))) (by decide) (backOf (W := 0) (rm2_0 l Z a0 hw [] w_MONTH w_YEAR w_cache cl_w_cache ob0 h0 n0 (own_n0 O0) O0 HW PE_ob0 PF_ob0_length PF_ob0_unit) hZ (hw _ (List.mem_of_getElem? (i := 14) rfl)) (hw _ (List.mem_of_getElem? (i := 13) rfl)) (by decide) (by decide)) (g := (mkF m 1 #[.val (.ref ob0), .val (.int q0), .val (.ref w_MONTH)] [(.ref ob0)])) rfl (by rw [hml]; rfl) (Steps.refl _) (a := ob0) (argsL := []) (rest := []) (lenOf pd7 rfl) rfl (by show 2 * 0 + _ ≤ _; exact Nat.le_of_eq rfl) (hb hby d1_1) (fun _ _ => ⟨rfl, e0, (by decide : 0 + 0 ≤ _), (by decide : 0 + 0 ≤ _)⟩)
  dsimp only [Pt.U, Pt.locs, Pt.cells, Pt.slots] at X1 l1 y1 z1 st1 hQ1
  subst l1 y1 z1
  obtain ⟨rfl, N1q, e1⟩ := hQ1
  have N1 := Fr.app N0 N1q
  obtain ⟨T2, h2, X2, e2, W2, st2⟩ := putF X1 hx hZ hown (host := "") (Or.inl (hw _ (List.mem_of_getElem? (i := 20) rfl))) Via.refl e1 PF_ob0_length PE_ob0 (Or.inr ⟨(hw _ (List.mem_of_getElem? (i := 21) rfl)), rfl, hnm⟩) (hw _ (List.mem_of_getElem? (i := 5) rfl)) (ty := .int) (by decide) rfl rfl (g := (mkF m 40 #[.val (.ref ob0), .val (.int q0), .val (.ref w_MONTH)] [(.int q0), (.ref ob0)])) rfl rfl (hb hby d1_40)
  have Fw2 := PF_ob0_length.same W2
  have N2 := Fr.snoc X2 N1 g_ob0
  have O2 := O0.wr W2 g_ob0
  have KK2 : Keep h0 h2 [ob0] := (Keep.refl h0 [ob0]).wr W2 (Or.inl (List.mem_of_getElem? (i := 0) rfl))
  obtain ⟨T3, h3, X3, e3, W3, st3⟩ := putF X2 hx hZ hown (host := "") (Or.inl (hw _ (List.mem_of_getElem? (i := 22) rfl))) Via.refl e2 (PF_ob0_unit.other W2 (Or.inr (slot_ne (Or.inr (hw _ (List.mem_of_getElem? (i := 23) rfl))) (Or.inr (hw _ (List.mem_of_getElem? (i := 21) rfl))) (by decide) (t := (.object "com/example/metered_billing/meteredbilling/plan/Term$Unit")) (t' := .int) (by decide) (by decide)))) (PE_ob0.wr W2) (Or.inr ⟨(hw _ (List.mem_of_getElem? (i := 23) rfl)), rfl, hnm⟩) (hw _ (List.mem_of_getElem? (i := 5) rfl)) (ty := (.object "com/example/metered_billing/meteredbilling/plan/Term$Unit")) (by decide) rfl rfl (g := (mkF m 45 #[.val (.ref ob0), .val (.int q0), .val (.ref w_MONTH)] [(.ref w_MONTH), (.ref ob0)])) rfl rfl (hb hby d1_45)
  have Fw3 := (PF_ob0_unit.other W2 (Or.inr (slot_ne (Or.inr (hw _ (List.mem_of_getElem? (i := 23) rfl))) (Or.inr (hw _ (List.mem_of_getElem? (i := 21) rfl))) (by decide) (t := (.object "com/example/metered_billing/meteredbilling/plan/Term$Unit")) (t' := .int) (by decide) (by decide)))).same W3
  have N3 := Fr.snoc X3 N2 g_ob0
  have O3 := O2.wr W3 g_ob0
  have KK3 : Keep h0 h3 [ob0] := KK2.wr W3 (Or.inl (List.mem_of_getElem? (i := 0) rfl))
  obtain ⟨fs, hr, hrun, hended, hW, hsame⟩ := X3.leave (v := none) (fun _ => rfl)
  refine ⟨_, _, pre0 _ ?_, hrun, hended, _, _, rfl, ?_, ⟨_, rfl⟩, hW, hsame.mono (by decide) (by decide)⟩
  · show Steps p.tables e below (s₁.setTop (mkF m 0 #[.val (.ref ob0), .val (.int q0), .val (.ref w_MONTH)] [])) _
    refine XS.aloadN X0.here hx rfl (hb hby d1_0) rfl rfl ?_
    show Steps p.tables e below (s₁.setTop (mkF m 1 #[.val (.ref ob0), .val (.int q0), .val (.ref w_MONTH)] [(.ref ob0)])) _
    refine st1.trans ?_
    show Steps p.tables e below (T1.setTop (mkF m 4 #[.val (.ref ob0), .val (.int q0), .val (.ref w_MONTH)] [])) _
    refine XS.iloadN X1.here hx rfl (hb hby d1_4) rfl ?_
    show Steps p.tables e below (T1.setTop (mkF m 5 #[.val (.ref ob0), .val (.int q0), .val (.ref w_MONTH)] [(.int q0)])) _
    refine XS.iconst X1.here hx rfl (hb hby d1_5) ?_
    show Steps p.tables e below (T1.setTop (mkF m 6 #[.val (.ref ob0), .val (.int q0), .val (.ref w_MONTH)] [(.int (1 : Int32)), (.int q0)])) _
    refine XS.icmpNo X1.here hx rfl (hb hby d1_6) rfl (flt hd0).1 ?_
    show Steps p.tables e below (T1.setTop (mkF m 9 #[.val (.ref ob0), .val (.int q0), .val (.ref w_MONTH)] [])) _
    refine XS.iloadN X1.here hx rfl (hb hby d1_9) rfl ?_
    show Steps p.tables e below (T1.setTop (mkF m 10 #[.val (.ref ob0), .val (.int q0), .val (.ref w_MONTH)] [(.int q0)])) _
    refine XS.aloadN X1.here hx rfl (hb hby d1_10) rfl rfl ?_
    show Steps p.tables e below (T1.setTop (mkF m 11 #[.val (.ref ob0), .val (.int q0), .val (.ref w_MONTH)] [(.ref w_MONTH), (.int q0)])) _
    refine own_getFR X1 hx hZ hown (hw _ (List.mem_of_getElem? (i := 18) rfl)) e1 (F_most_w_MONTH.ext O0.2) (g := (mkF m 11 #[.val (.ref ob0), .val (.int q0), .val (.ref w_MONTH)] [(.ref w_MONTH), (.int q0)])) rfl rfl (hb hby d1_11) _ ?_
    show Steps p.tables e below (T1.setTop (mkF m 14 #[.val (.ref ob0), .val (.int q0), .val (.ref w_MONTH)] [(.int (11 : Int32)), (.int q0)])) _
    refine XS.icmpYes X1.here hx rfl (pc0 := 14) (pc' := 38) rfl (hb hby d1_14) rfl (flt hd1).2.2.2 (by decide) (by decide) ?_
    show Steps p.tables e below (T1.setTop (mkF m 38 #[.val (.ref ob0), .val (.int q0), .val (.ref w_MONTH)] [])) _
    refine XS.aloadN X1.here hx rfl (hb hby d1_38) rfl rfl ?_
    show Steps p.tables e below (T1.setTop (mkF m 39 #[.val (.ref ob0), .val (.int q0), .val (.ref w_MONTH)] [(.ref ob0)])) _
    refine XS.iloadN X1.here hx rfl (hb hby d1_39) rfl ?_
    show Steps p.tables e below (T1.setTop (mkF m 40 #[.val (.ref ob0), .val (.int q0), .val (.ref w_MONTH)] [(.int q0), (.ref ob0)])) _
    refine st2 _ ?_
    show Steps p.tables e below (T2.setTop (mkF m 43 #[.val (.ref ob0), .val (.int q0), .val (.ref w_MONTH)] [])) _
    refine XS.aloadN X2.here hx rfl (hb hby d1_43) rfl rfl ?_
    show Steps p.tables e below (T2.setTop (mkF m 44 #[.val (.ref ob0), .val (.int q0), .val (.ref w_MONTH)] [(.ref ob0)])) _
    refine XS.aloadN X2.here hx rfl (hb hby d1_44) rfl rfl ?_
    show Steps p.tables e below (T2.setTop (mkF m 45 #[.val (.ref ob0), .val (.int q0), .val (.ref w_MONTH)] [(.ref w_MONTH), (.ref ob0)])) _
    refine st3 _ ?_
    show Steps p.tables e below (T3.setTop (mkF m 48 #[.val (.ref ob0), .val (.int q0), .val (.ref w_MONTH)] [])) _
    exact X3.returnOut hx Bd.returns (hb hby d1_48) hr
  · have eH : (T3.setFrames fs).heap = h3 := e3; rw [eH]; exact ⟨rfl, N3, KK3, O3, ((PE_ob0.wr W2).wr W3), (Fw2.other W3 (Or.inr (slot_ne (Or.inr (hw _ (List.mem_of_getElem? (i := 21) rfl))) (Or.inr (hw _ (List.mem_of_getElem? (i := 23) rfl))) (by decide) (t := .int) (t' := (.object "com/example/metered_billing/meteredbilling/plan/Term$Unit")) (by decide) (by decide)))), Fw3, trivial⟩
theorem pd27 : parseMethodDescriptor "(ILcom/example/metered_billing/meteredbilling/plan/Term$Unit;)V" = some ⟨[.int, (.object "com/example/metered_billing/meteredbilling/plan/Term$Unit")], none⟩ := by decide +kernel
theorem d4_0 : decode prog_43_method_6_code 0 = .ok (.aload_n 0, 1) := by decide +kernel
theorem d4_1 : decode prog_43_method_6_code 1 = .ok (.getfield 31, 3) := by decide +kernel
theorem d4_4 : decode prog_43_method_6_code 4 = .ok (.aload_n 1, 1) := by decide +kernel
theorem d4_5 : decode prog_43_method_6_code 5 = .ok (.if_acmp .ne 13, 3) := by decide +kernel
theorem d4_8 : decode prog_43_method_6_code 8 = .ok (.aload_n 0, 1) := by decide +kernel
theorem d4_9 : decode prog_43_method_6_code 9 = .ok (.getfield 26, 3) := by decide +kernel
theorem d5_0 : decode jdk_33_method_22_code 0 = .ok (.iload_n 0, 1) := by decide +kernel
theorem d5_1 : decode jdk_33_method_22_code 1 = .ok (.bipush (-128), 2) := by decide +kernel
theorem d5_3 : decode jdk_33_method_22_code 3 = .ok (.if_icmp .lt 20, 3) := by decide +kernel
theorem d5_6 : decode jdk_33_method_22_code 6 = .ok (.iload_n 0, 1) := by decide +kernel
theorem d5_7 : decode jdk_33_method_22_code 7 = .ok (.getstatic 191, 3) := by decide +kernel
theorem d5_10 : decode jdk_33_method_22_code 10 = .ok (.if_icmp .gt 13, 3) := by decide +kernel
theorem d5_13 : decode jdk_33_method_22_code 13 = .ok (.getstatic 195, 3) := by decide +kernel
theorem d5_16 : decode jdk_33_method_22_code 16 = .ok (.iload_n 0, 1) := by decide +kernel
theorem d5_17 : decode jdk_33_method_22_code 17 = .ok (.sipush 128, 3) := by decide +kernel
theorem d5_20 : decode jdk_33_method_22_code 20 = .ok (.iadd, 1) := by decide +kernel
theorem d5_21 : decode jdk_33_method_22_code 21 = .ok (.aaload, 1) := by decide +kernel
theorem d5_22 : decode jdk_33_method_22_code 22 = .ok (.areturn, 1) := by decide +kernel
theorem ef47 (m : MethodId) (x0 : Int32) : entryFrame m #[(.int x0)] 1 = mkF m 0 #[.val (.int x0)] [] := by first | (simp [entryFrame, mkF, argsToLocals, Value.category]; done) | rfl
theorem pn48 : plainName "java/lang/Integer" = true := by first | (simp [plainName, overriddenIn]; done) | decide +kernel
def Q5_2 (Z : State) (w_MONTH : Addr) (w_YEAR : Addr) (w_cache : Addr) (cl_w_cache : Cell) (q0 : Int32) (h0 : Heap) (n0 : Nat) (v : Option Value) (h : Heap) (L : List Loc) : Prop := ∃ o3 : Addr, v = some (.ref o3) ∧ Fr n0 L ∧ h = h0 ∧ Exa Z Z.heap o3 "java/lang/Integer" ∧ Fld Z Z.heap o3 "java/lang/Integer" "value" "I" (.int q0)
set_option maxRecDepth 65536 in
set_option maxHeartbeats 40000000 in
theorem rm5_2 (l : Launch) (Z : State) (a0 : Array Value) (hw : ∀ d ∈ tables_1, d.before a0 Z = true) (ws : List Jvm.Cond) (w_MONTH : Addr) (w_YEAR : Addr) (w_cache : Addr) (cl_w_cache : Cell) (q0 : Int32) (h0 : Heap) (n0 : Nat) (Z0 : n0 ≤ h0.size) (O0 : Old Z n0 h0) (HW : World Z w_MONTH w_YEAR w_cache cl_w_cache) (hd0 : ¬ (q0 < (-128 : Int32))) (hd1 : ¬ ((127 : Int32) < q0)) :
    MetFree l (⟨"java/lang/Integer", "valueOf", "(I)Ljava/lang/Integer;"⟩ : MethodName) (head1 (Jvm.Cond.code (⟨"java/lang/Integer", "valueOf", "(I)Ljava/lang/Integer;"⟩ : MethodName) jdk_33_method_22_code 1 (some (.object "java/lang/Integer")) :: ws) ({ frames := 0, cells := 0, slots := 0, locals := 0 } : Room)) (fun a U => a = #[(.int q0)] ∧ Z.Warmed39 U.vm ∧ U.heap = h0) (fun _ _ _ _ _ => True) (fun _ U o U' => ∃ v L, o = .returned v ∧ Q5_2 Z w_MONTH w_YEAR w_cache cl_w_cache q0 h0 n0 v U'.heap L ∧ FrameEnd U o U' L ({ frames := 0, cells := 0, slots := 0, locals := 0 } : Room).cells ({ frames := 0, cells := 0, slots := 0, locals := 0 } : Room).slots) := by
  refine MetFree.of_bodySF (plainFor_of_name pn48) hisR ?_
  intro p e s m args below meth c s₁ Bd hml0 hP hK
  obtain ⟨rfl, hZ, hh⟩ := hP
  have hx := Bd.exec
  have hby := Bd.bytes
  have hml : c.maxLocals = 1 := hml0
  have hown : s.vm.findClass "java/lang/Integer" = some m.cls := findClass_of_methodNamed Bd.named
  have hnm := (name_of_methodNamed Bd.named Bd.method).1
  have X0 : Stand p l e ({ frames := 0, cells := 0, slots := 0, locals := 0 } : Room) s m #[(.int q0)] below meth c s₁ [] 0 0 := Stand.of_body Bd
  have e0 : s₁.heap = h0 := by rw [← hh, Bd.state]; rfl
  have N0 := Fr.nil n0
  have pre0 : ∀ t, Steps p.tables e below (s₁.setTop (mkF m 0 #[.val (.int q0)] [])) t → Steps p.tables e below (s₁.setTop (entryFrame m #[(.int q0)] 1)) t := fun t k => castTop (ef47 m q0) k
  obtain ⟨S_w_MONTH, E_w_MONTH, S_w_YEAR, E_w_YEAR, F_most_w_MONTH, F_most_w_YEAR, F_ordinal_w_MONTH, F_ordinal_w_YEAR, ne_w_MONTH_w_YEAR, S_high, S_w_cache, Ar_w_cache, Sz_w_cache, AL_w_cache, -⟩ := id HW
  obtain ⟨T1, X1, e1, st1⟩ := getS2 X0 hx hZ hown (host := "") (Or.inl (hw _ (List.mem_of_getElem? (i := 35) rfl))) Via.refl e0 (S_high.ext O0.2) (g := (mkF m 7 #[.val (.int q0)] [(.int q0)])) rfl (hb hby d5_7)
  obtain ⟨T2, X2, e2, st2⟩ := getS2 X1 hx hZ hown (host := "") (Or.inl (hw _ (List.mem_of_getElem? (i := 37) rfl))) Via.refl e1 (S_w_cache.ext O0.2) (g := (mkF m 13 #[.val (.int q0)] [])) rfl (hb hby d5_13)
  obtain ⟨o3, oI3, oA3, oE3, oF3_0⟩ := AL_w_cache (q0 + (128 : Int32)) (own_plI q0 hd0 hd1)
  rw [own_back] at oF3_0
  obtain ⟨fs, hr, hrun, hended, hW, hsame⟩ := X2.leave (v := some (.ref o3)) (fun h => by rw [Bd.returns] at h; cases h)
  refine ⟨_, _, pre0 _ ?_, hrun, hended, _, _, rfl, ?_, ⟨_, rfl⟩, hW, hsame.mono (by decide) (by decide)⟩
  · show Steps p.tables e below (s₁.setTop (mkF m 0 #[.val (.int q0)] [])) _
    refine XS.iloadN X0.here hx rfl (hb hby d5_0) rfl ?_
    show Steps p.tables e below (s₁.setTop (mkF m 1 #[.val (.int q0)] [(.int q0)])) _
    refine XS.bipush X0.here hx rfl (hb hby d5_1) ?_
    show Steps p.tables e below (s₁.setTop (mkF m 3 #[.val (.int q0)] [(.int (-128 : Int32)), (.int q0)])) _
    refine XS.icmpNo X0.here hx rfl (hb hby d5_3) rfl (flt hd0).1 ?_
    show Steps p.tables e below (s₁.setTop (mkF m 6 #[.val (.int q0)] [])) _
    refine XS.iloadN X0.here hx rfl (hb hby d5_6) rfl ?_
    show Steps p.tables e below (s₁.setTop (mkF m 7 #[.val (.int q0)] [(.int q0)])) _
    refine st1 _ ?_
    show Steps p.tables e below (T1.setTop (mkF m 10 #[.val (.int q0)] [(.int (127 : Int32)), (.int q0)])) _
    refine XS.icmpNo X1.here hx rfl (hb hby d5_10) rfl (flt hd1).2.2.1 ?_
    show Steps p.tables e below (T1.setTop (mkF m 13 #[.val (.int q0)] [])) _
    refine st2 _ ?_
    show Steps p.tables e below (T2.setTop (mkF m 16 #[.val (.int q0)] [(.ref w_cache)])) _
    refine XS.iloadN X2.here hx rfl (hb hby d5_16) rfl ?_
    show Steps p.tables e below (T2.setTop (mkF m 17 #[.val (.int q0)] [(.int q0), (.ref w_cache)])) _
    refine XS.sipush X2.here hx rfl (hb hby d5_17) ?_
    show Steps p.tables e below (T2.setTop (mkF m 20 #[.val (.int q0)] [(.int (128 : Int32)), (.int q0), (.ref w_cache)])) _
    refine XS.iadd X2.here hx rfl (hb hby d5_20) rfl ?_
    show Steps p.tables e below (T2.setTop (mkF m 21 #[.val (.int q0)] [(.int (q0 + (128 : Int32))), (.ref w_cache)])) _
    refine X2.aaload hx (j := (q0 + (128 : Int32))) (v := (.ref o3)) (by rw [e2]; exact (Ar_w_cache.ext O0.2).1) (State.isArrayOf_alike hZ.alike Ar_w_cache.2.1) rfl Ar_w_cache.2.2 oI3 oA3 (g := (mkF m 21 #[.val (.int q0)] [(.int (q0 + (128 : Int32))), (.ref w_cache)])) rfl rfl (hb hby d5_21) _ ?_
    show Steps p.tables e below (T2.setTop (mkF m 22 #[.val (.int q0)] [(.ref o3)])) _
    jvm_step X2.here [X2.here.top, hx, (hb hby d5_22), X2.method', Bd.returns, Value.isRef, FieldType.isReference]
    first | (intro acts; rw [hr _ acts rfl rfl rfl]) | rw [hr _ _ rfl rfl rfl]
    exact Steps.refl _
  · exact ⟨o3, rfl, N0, e2, oE3, oF3_0⟩
theorem pd49 : parseMethodDescriptor "(I)Ljava/lang/Integer;" = some ⟨[.int], some (.object "java/lang/Integer")⟩ := by decide +kernel
theorem d4_12 : decode prog_43_method_6_code 12 = .ok (.invokestatic 90, 3) := by decide +kernel
theorem d4_15 : decode prog_43_method_6_code 15 = .ok (.goto 4, 3) := by decide +kernel
theorem d4_19 : decode prog_43_method_6_code 19 = .ok (.areturn, 1) := by decide +kernel
theorem ef54 (m : MethodId) (x0 : Addr) (x1 : Addr) : entryFrame m #[(.ref x0), (.ref x1)] 2 = mkF m 0 #[.val (.ref x0), .val (.ref x1)] [] := by first | (simp [entryFrame, mkF, argsToLocals, Value.category]; done) | rfl
def Q4_3 (Z : State) (w_MONTH : Addr) (w_YEAR : Addr) (w_cache : Addr) (cl_w_cache : Cell) (ob0 : Addr) (q0 : Int32) (h0 : Heap) (n0 : Nat) (v : Option Value) (h : Heap) (L : List Loc) : Prop := ∃ o3_0 : Addr, v = some (.ref o3_0) ∧ Fr n0 L ∧ h = h0 ∧ Exa Z Z.heap o3_0 "java/lang/Integer" ∧ Fld Z Z.heap o3_0 "java/lang/Integer" "value" "I" (.int q0)
set_option maxRecDepth 65536 in
set_option maxHeartbeats 40000000 in
theorem rm4_3 (l : Launch) (Z : State) (a0 : Array Value) (hw : ∀ d ∈ tables_1, d.before a0 Z = true) (ws : List Jvm.Cond) (w_MONTH : Addr) (w_YEAR : Addr) (w_cache : Addr) (cl_w_cache : Cell) (ob0 : Addr) (q0 : Int32) (h0 : Heap) (n0 : Nat) (Z0 : n0 ≤ h0.size) (O0 : Old Z n0 h0) (HW : World Z w_MONTH w_YEAR w_cache cl_w_cache) (PE_ob0 : Exa Z h0 ob0 "com/example/metered_billing/meteredbilling/plan/Term") (PF_ob0_length : Fld Z h0 ob0 "com/example/metered_billing/meteredbilling/plan/Term" "length" "I" (.int q0)) (PF_ob0_unit : Fld Z h0 ob0 "com/example/metered_billing/meteredbilling/plan/Term" "unit" "Lcom/example/metered_billing/meteredbilling/plan/Term$Unit;" (.ref w_MONTH)) (hd0 : ¬ (q0 < (-128 : Int32))) (hd1 : ¬ ((127 : Int32) < q0)) :
    MetFree l (⟨"com/example/metered_billing/meteredbilling/plan/Term", "lengthIn", "(Lcom/example/metered_billing/meteredbilling/plan/Term$Unit;)Ljava/lang/Integer;"⟩ : MethodName) (head1 (Jvm.Cond.code (⟨"com/example/metered_billing/meteredbilling/plan/Term", "lengthIn", "(Lcom/example/metered_billing/meteredbilling/plan/Term$Unit;)Ljava/lang/Integer;"⟩ : MethodName) prog_43_method_6_code 2 (some (.object "java/lang/Integer")) :: ws) ({ frames := 1, cells := 0, slots := 0, locals := 12 } : Room)) (fun a U => a = #[(.ref ob0), (.ref w_MONTH)] ∧ Z.Warmed39 U.vm ∧ U.heap = h0) (fun _ _ _ _ _ => True) (fun _ U o U' => ∃ v L, o = .returned v ∧ Q4_3 Z w_MONTH w_YEAR w_cache cl_w_cache ob0 q0 h0 n0 v U'.heap L ∧ FrameEnd U o U' L ({ frames := 1, cells := 0, slots := 0, locals := 12 } : Room).cells ({ frames := 1, cells := 0, slots := 0, locals := 12 } : Room).slots) := by
  refine MetFree.of_bodySF (plainFor_of_name pn26) hisR ?_
  intro p e s m args below meth c s₁ Bd hml0 hP hK
  obtain ⟨rfl, hZ, hh⟩ := hP
  have hx := Bd.exec
  have hby := Bd.bytes
  have hml : c.maxLocals = 2 := hml0
  have hown : s.vm.findClass "com/example/metered_billing/meteredbilling/plan/Term" = some m.cls := findClass_of_methodNamed Bd.named
  have hnm := (name_of_methodNamed Bd.named Bd.method).1
  have X0 : Stand p l e ({ frames := 1, cells := 0, slots := 0, locals := 12 } : Room) s m #[(.ref ob0), (.ref w_MONTH)] below meth c s₁ [] 0 0 := Stand.of_body Bd
  have e0 : s₁.heap = h0 := by rw [← hh, Bd.state]; rfl
  have N0 := Fr.nil n0
  have pre0 : ∀ t, Steps p.tables e below (s₁.setTop (mkF m 0 #[.val (.ref ob0), .val (.ref w_MONTH)] [])) t → Steps p.tables e below (s₁.setTop (entryFrame m #[(.ref ob0), (.ref w_MONTH)] 2)) t := fun t k => castTop (ef54 m ob0 w_MONTH) k
  obtain ⟨S_w_MONTH, E_w_MONTH, S_w_YEAR, E_w_YEAR, F_most_w_MONTH, F_most_w_YEAR, F_ordinal_w_MONTH, F_ordinal_w_YEAR, ne_w_MONTH_w_YEAR, S_high, S_w_cache, Ar_w_cache, Sz_w_cache, AL_w_cache, -⟩ := id HW
  obtain ⟨T1, X1, e1, st1⟩ := getF X0 hx hZ hown (host := "") (Or.inl (hw _ (List.mem_of_getElem? (i := 22) rfl))) Via.refl e0 PF_ob0_unit (g := (mkF m 1 #[.val (.ref ob0), .val (.ref w_MONTH)] [(.ref ob0)])) rfl rfl (hb hby d4_1)
  obtain ⟨T2, X2, e2, st2⟩ := getF X1 hx hZ hown (host := "") (Or.inl (hw _ (List.mem_of_getElem? (i := 20) rfl))) Via.refl e1 PF_ob0_length (g := (mkF m 9 #[.val (.ref ob0), .val (.ref w_MONTH)] [(.ref ob0)])) rfl rfl (hb hby d4_9)
  obtain ⟨_, _, ⟨T3, L3, k3, n3⟩, -, X3, ⟨Lc3, hQ3, l3, y3, z3⟩, st3⟩ := Jvm.LawKit.callS X2 hx (y := (⟨"java/lang/Integer", "valueOf", "(I)Ljava/lang/Integer;"⟩ : MethodName)) hown (mvT hZ (hw _ (List.mem_of_getElem? (i := 31) rfl))) (mvT hZ (hw _ (List.mem_of_getElem? (i := 32) rfl))) (mvT hZ (hw _ (List.mem_of_getElem? (i := 33) rfl))) (mvT hZ (hw _ (List.mem_of_getElem? (i := 34) rfl))) (by decide) (backOf (W := 0) (rm5_2 l Z a0 hw [] w_MONTH w_YEAR w_cache cl_w_cache q0 h0 n0 (own_n0 O0) O0 HW hd0 hd1) hZ (hw _ (List.mem_of_getElem? (i := 34) rfl)) (hw _ (List.mem_of_getElem? (i := 33) rfl)) (by decide) (by decide)) (g := (mkF m 12 #[.val (.ref ob0), .val (.ref w_MONTH)] [(.int q0)])) rfl (by rw [hml]; rfl) (argsL := [(.int q0)]) (rest := []) (lenOf pd49 rfl) rfl (by show 2 * 0 + _ ≤ _; exact Nat.le_of_eq rfl) (hb hby d4_12) (fun _ _ => ⟨rfl, e2, (by decide : 0 + 0 ≤ _), (by decide : 0 + 0 ≤ _)⟩)
  dsimp only [Pt.U, Pt.locs, Pt.cells, Pt.slots] at X3 l3 y3 z3 st3 hQ3
  subst l3 y3 z3
  obtain ⟨o3_0, rfl, N3q, e3, of3_0, of3_1⟩ := hQ3
  have N3 := Fr.app N0 N3q
  obtain ⟨fs, hr, hrun, hended, hW, hsame⟩ := X3.leave (v := some (.ref o3_0)) (fun h => by rw [Bd.returns] at h; cases h)
  refine ⟨_, _, pre0 _ ?_, hrun, hended, _, _, rfl, ?_, ⟨_, rfl⟩, hW, hsame.mono (by decide) (by decide)⟩
  · show Steps p.tables e below (s₁.setTop (mkF m 0 #[.val (.ref ob0), .val (.ref w_MONTH)] [])) _
    refine XS.aloadN X0.here hx rfl (hb hby d4_0) rfl rfl ?_
    show Steps p.tables e below (s₁.setTop (mkF m 1 #[.val (.ref ob0), .val (.ref w_MONTH)] [(.ref ob0)])) _
    refine st1 _ ?_
    show Steps p.tables e below (T1.setTop (mkF m 4 #[.val (.ref ob0), .val (.ref w_MONTH)] [(.ref w_MONTH)])) _
    refine XS.aloadN X1.here hx rfl (hb hby d4_4) rfl rfl ?_
    show Steps p.tables e below (T1.setTop (mkF m 5 #[.val (.ref ob0), .val (.ref w_MONTH)] [(.ref w_MONTH), (.ref w_MONTH)])) _
    refine Jvm.RoadKit.acmp (g := (mkF m 5 #[.val (.ref ob0), .val (.ref w_MONTH)] [(.ref w_MONTH), (.ref w_MONTH)])) X1 hx rfl rfl rfl (pc0 := 5) (pc' := 8) (same := true) rfl (hb hby d4_5) rfl (decide_eq_true rfl) (by decide) (by decide) ?_
    show Steps p.tables e below (T1.setTop (mkF m 8 #[.val (.ref ob0), .val (.ref w_MONTH)] [])) _
    refine XS.aloadN X1.here hx rfl (hb hby d4_8) rfl rfl ?_
    show Steps p.tables e below (T1.setTop (mkF m 9 #[.val (.ref ob0), .val (.ref w_MONTH)] [(.ref ob0)])) _
    refine st2 _ ?_
    show Steps p.tables e below (T2.setTop (mkF m 12 #[.val (.ref ob0), .val (.ref w_MONTH)] [(.int q0)])) _
    refine st3 _ ?_
    show Steps p.tables e below (T3.setTop (mkF m 15 #[.val (.ref ob0), .val (.ref w_MONTH)] [(.ref o3_0)])) _
    refine XS.goto X3.here hx rfl (pc0 := 15) (pc' := 19) rfl (hb hby d4_15) (by decide) (by decide) ?_
    show Steps p.tables e below (T3.setTop (mkF m 19 #[.val (.ref ob0), .val (.ref w_MONTH)] [(.ref o3_0)])) _
    jvm_step X3.here [X3.here.top, hx, (hb hby d4_19), X3.method', Bd.returns, Value.isRef, FieldType.isReference]
    first | (intro acts; rw [hr _ acts rfl rfl rfl]) | rw [hr _ _ rfl rfl rfl]
    exact Steps.refl _
  · exact ⟨o3_0, rfl, N3, e3, of3_0, of3_1⟩
theorem pd55 : parseMethodDescriptor "(Lcom/example/metered_billing/meteredbilling/plan/Term$Unit;)Ljava/lang/Integer;" = some ⟨[(.object "com/example/metered_billing/meteredbilling/plan/Term$Unit")], some (.object "java/lang/Integer")⟩ := by decide +kernel
theorem d6_0 : decode jdk_33_method_27_code 0 = .ok (.aload_n 0, 1) := by decide +kernel
theorem d6_1 : decode jdk_33_method_27_code 1 = .ok (.getfield 205, 3) := by decide +kernel
theorem d6_4 : decode jdk_33_method_27_code 4 = .ok (.ireturn, 1) := by decide +kernel
theorem ef60 (m : MethodId) (x0 : Addr) : entryFrame m #[(.ref x0)] 1 = mkF m 0 #[.val (.ref x0)] [] := by first | (simp [entryFrame, mkF, argsToLocals, Value.category]; done) | rfl
def Q6_4 (Z : State) (w_MONTH : Addr) (w_YEAR : Addr) (w_cache : Addr) (cl_w_cache : Cell) (ob0 : Addr) (q0 : Int32) (h0 : Heap) (n0 : Nat) (v : Option Value) (h : Heap) (L : List Loc) : Prop := v = some (.int q0) ∧ Fr n0 L ∧ h = h0
set_option maxRecDepth 65536 in
set_option maxHeartbeats 40000000 in
theorem rm6_4 (l : Launch) (Z : State) (a0 : Array Value) (hw : ∀ d ∈ tables_1, d.before a0 Z = true) (ws : List Jvm.Cond) (w_MONTH : Addr) (w_YEAR : Addr) (w_cache : Addr) (cl_w_cache : Cell) (ob0 : Addr) (q0 : Int32) (h0 : Heap) (n0 : Nat) (Z0 : n0 ≤ h0.size) (O0 : Old Z n0 h0) (HW : World Z w_MONTH w_YEAR w_cache cl_w_cache) (PE_ob0 : Exa Z h0 ob0 "java/lang/Integer") (PF_ob0_value : Fld Z h0 ob0 "java/lang/Integer" "value" "I" (.int q0)) :
    MetFree l (⟨"java/lang/Integer", "intValue", "()I"⟩ : MethodName) (head1 (Jvm.Cond.code (⟨"java/lang/Integer", "intValue", "()I"⟩ : MethodName) jdk_33_method_27_code 1 (some .int) :: ws) ({ frames := 0, cells := 0, slots := 0, locals := 0 } : Room)) (fun a U => a = #[(.ref ob0)] ∧ Z.Warmed39 U.vm ∧ U.heap = h0) (fun _ _ _ _ _ => True) (fun _ U o U' => ∃ v L, o = .returned v ∧ Q6_4 Z w_MONTH w_YEAR w_cache cl_w_cache ob0 q0 h0 n0 v U'.heap L ∧ FrameEnd U o U' L ({ frames := 0, cells := 0, slots := 0, locals := 0 } : Room).cells ({ frames := 0, cells := 0, slots := 0, locals := 0 } : Room).slots) := by
  refine MetFree.of_bodySF (plainFor_of_name pn48) hisR ?_
  intro p e s m args below meth c s₁ Bd hml0 hP hK
  obtain ⟨rfl, hZ, hh⟩ := hP
  have hx := Bd.exec
  have hby := Bd.bytes
  have hml : c.maxLocals = 1 := hml0
  have hown : s.vm.findClass "java/lang/Integer" = some m.cls := findClass_of_methodNamed Bd.named
  have hnm := (name_of_methodNamed Bd.named Bd.method).1
  have X0 : Stand p l e ({ frames := 0, cells := 0, slots := 0, locals := 0 } : Room) s m #[(.ref ob0)] below meth c s₁ [] 0 0 := Stand.of_body Bd
  have e0 : s₁.heap = h0 := by rw [← hh, Bd.state]; rfl
  have N0 := Fr.nil n0
  have pre0 : ∀ t, Steps p.tables e below (s₁.setTop (mkF m 0 #[.val (.ref ob0)] [])) t → Steps p.tables e below (s₁.setTop (entryFrame m #[(.ref ob0)] 1)) t := fun t k => castTop (ef60 m ob0) k
  obtain ⟨S_w_MONTH, E_w_MONTH, S_w_YEAR, E_w_YEAR, F_most_w_MONTH, F_most_w_YEAR, F_ordinal_w_MONTH, F_ordinal_w_YEAR, ne_w_MONTH_w_YEAR, S_high, S_w_cache, Ar_w_cache, Sz_w_cache, AL_w_cache, -⟩ := id HW
  obtain ⟨T1, X1, e1, st1⟩ := getF X0 hx hZ hown (host := "") (Or.inl (hw _ (List.mem_of_getElem? (i := 43) rfl))) Via.refl e0 PF_ob0_value (g := (mkF m 1 #[.val (.ref ob0)] [(.ref ob0)])) rfl rfl (hb hby d6_1)
  obtain ⟨fs, hr, hrun, hended, hW, hsame⟩ := X1.leave (v := some (.int q0)) (fun h => by rw [Bd.returns] at h; cases h)
  refine ⟨_, _, pre0 _ ?_, hrun, hended, _, _, rfl, ?_, ⟨_, rfl⟩, hW, hsame.mono (by decide) (by decide)⟩
  · show Steps p.tables e below (s₁.setTop (mkF m 0 #[.val (.ref ob0)] [])) _
    refine XS.aloadN X0.here hx rfl (hb hby d6_0) rfl rfl ?_
    show Steps p.tables e below (s₁.setTop (mkF m 1 #[.val (.ref ob0)] [(.ref ob0)])) _
    refine st1 _ ?_
    show Steps p.tables e below (T1.setTop (mkF m 4 #[.val (.ref ob0)] [(.int q0)])) _
    exact Jvm.RoadKit.retI X1 hx Bd.returns (hb hby d6_4) hr
  · exact ⟨rfl, N0, e1⟩
theorem pd61 : parseMethodDescriptor "()I" = some ⟨[], some .int⟩ := by decide +kernel
theorem d4_18 : decode prog_43_method_6_code 18 = .ok (.aconst_null, 1) := by decide +kernel
def Q4_5 (Z : State) (w_MONTH : Addr) (w_YEAR : Addr) (w_cache : Addr) (cl_w_cache : Cell) (ob0 : Addr) (q0 : Int32) (h0 : Heap) (n0 : Nat) (v : Option Value) (h : Heap) (L : List Loc) : Prop := v = some .null ∧ Fr n0 L ∧ h = h0
set_option maxRecDepth 65536 in
set_option maxHeartbeats 40000000 in
theorem rm4_5 (l : Launch) (Z : State) (a0 : Array Value) (hw : ∀ d ∈ tables_1, d.before a0 Z = true) (ws : List Jvm.Cond) (w_MONTH : Addr) (w_YEAR : Addr) (w_cache : Addr) (cl_w_cache : Cell) (ob0 : Addr) (q0 : Int32) (h0 : Heap) (n0 : Nat) (Z0 : n0 ≤ h0.size) (O0 : Old Z n0 h0) (HW : World Z w_MONTH w_YEAR w_cache cl_w_cache) (PE_ob0 : Exa Z h0 ob0 "com/example/metered_billing/meteredbilling/plan/Term") (PF_ob0_length : Fld Z h0 ob0 "com/example/metered_billing/meteredbilling/plan/Term" "length" "I" (.int q0)) (PF_ob0_unit : Fld Z h0 ob0 "com/example/metered_billing/meteredbilling/plan/Term" "unit" "Lcom/example/metered_billing/meteredbilling/plan/Term$Unit;" (.ref w_MONTH)) :
    MetFree l (⟨"com/example/metered_billing/meteredbilling/plan/Term", "lengthIn", "(Lcom/example/metered_billing/meteredbilling/plan/Term$Unit;)Ljava/lang/Integer;"⟩ : MethodName) (head1 (Jvm.Cond.code (⟨"com/example/metered_billing/meteredbilling/plan/Term", "lengthIn", "(Lcom/example/metered_billing/meteredbilling/plan/Term$Unit;)Ljava/lang/Integer;"⟩ : MethodName) prog_43_method_6_code 2 (some (.object "java/lang/Integer")) :: ws) ({ frames := 0, cells := 0, slots := 0, locals := 0 } : Room)) (fun a U => a = #[(.ref ob0), (.ref w_YEAR)] ∧ Z.Warmed39 U.vm ∧ U.heap = h0) (fun _ _ _ _ _ => True) (fun _ U o U' => ∃ v L, o = .returned v ∧ Q4_5 Z w_MONTH w_YEAR w_cache cl_w_cache ob0 q0 h0 n0 v U'.heap L ∧ FrameEnd U o U' L ({ frames := 0, cells := 0, slots := 0, locals := 0 } : Room).cells ({ frames := 0, cells := 0, slots := 0, locals := 0 } : Room).slots) := by
  refine MetFree.of_bodySF (plainFor_of_name pn26) hisR ?_
  intro p e s m args below meth c s₁ Bd hml0 hP hK
  obtain ⟨rfl, hZ, hh⟩ := hP
  have hx := Bd.exec
  have hby := Bd.bytes
  have hml : c.maxLocals = 2 := hml0
  have hown : s.vm.findClass "com/example/metered_billing/meteredbilling/plan/Term" = some m.cls := findClass_of_methodNamed Bd.named
  have hnm := (name_of_methodNamed Bd.named Bd.method).1
  have X0 : Stand p l e ({ frames := 0, cells := 0, slots := 0, locals := 0 } : Room) s m #[(.ref ob0), (.ref w_YEAR)] below meth c s₁ [] 0 0 := Stand.of_body Bd
  have e0 : s₁.heap = h0 := by rw [← hh, Bd.state]; rfl
  have N0 := Fr.nil n0
  have pre0 : ∀ t, Steps p.tables e below (s₁.setTop (mkF m 0 #[.val (.ref ob0), .val (.ref w_YEAR)] [])) t → Steps p.tables e below (s₁.setTop (entryFrame m #[(.ref ob0), (.ref w_YEAR)] 2)) t := fun t k => castTop (ef54 m ob0 w_YEAR) k
  obtain ⟨S_w_MONTH, E_w_MONTH, S_w_YEAR, E_w_YEAR, F_most_w_MONTH, F_most_w_YEAR, F_ordinal_w_MONTH, F_ordinal_w_YEAR, ne_w_MONTH_w_YEAR, S_high, S_w_cache, Ar_w_cache, Sz_w_cache, AL_w_cache, -⟩ := id HW
  obtain ⟨T1, X1, e1, st1⟩ := getF X0 hx hZ hown (host := "") (Or.inl (hw _ (List.mem_of_getElem? (i := 22) rfl))) Via.refl e0 PF_ob0_unit (g := (mkF m 1 #[.val (.ref ob0), .val (.ref w_YEAR)] [(.ref ob0)])) rfl rfl (hb hby d4_1)
  obtain ⟨fs, hr, hrun, hended, hW, hsame⟩ := X1.leave (v := some .null) (fun h => by rw [Bd.returns] at h; cases h)
  refine ⟨_, _, pre0 _ ?_, hrun, hended, _, _, rfl, ?_, ⟨_, rfl⟩, hW, hsame.mono (by decide) (by decide)⟩
  · show Steps p.tables e below (s₁.setTop (mkF m 0 #[.val (.ref ob0), .val (.ref w_YEAR)] [])) _
    refine XS.aloadN X0.here hx rfl (hb hby d4_0) rfl rfl ?_
    show Steps p.tables e below (s₁.setTop (mkF m 1 #[.val (.ref ob0), .val (.ref w_YEAR)] [(.ref ob0)])) _
    refine st1 _ ?_
    show Steps p.tables e below (T1.setTop (mkF m 4 #[.val (.ref ob0), .val (.ref w_YEAR)] [(.ref w_MONTH)])) _
    refine XS.aloadN X1.here hx rfl (hb hby d4_4) rfl rfl ?_
    show Steps p.tables e below (T1.setTop (mkF m 5 #[.val (.ref ob0), .val (.ref w_YEAR)] [(.ref w_YEAR), (.ref w_MONTH)])) _
    refine Jvm.RoadKit.acmp (g := (mkF m 5 #[.val (.ref ob0), .val (.ref w_YEAR)] [(.ref w_YEAR), (.ref w_MONTH)])) X1 hx rfl rfl rfl (pc0 := 5) (pc' := 18) (same := false) rfl (hb hby d4_5) rfl (decide_eq_false fun q => ne_w_MONTH_w_YEAR (Value.ref.inj q)) (by decide) (by decide) ?_
    show Steps p.tables e below (T1.setTop (mkF m 18 #[.val (.ref ob0), .val (.ref w_YEAR)] [])) _
    refine XS.aconstNull X1.here hx rfl (hb hby d4_18) ?_
    show Steps p.tables e below (T1.setTop (mkF m 19 #[.val (.ref ob0), .val (.ref w_YEAR)] [.null])) _
    jvm_step X1.here [X1.here.top, hx, (hb hby d4_19), X1.method', Bd.returns, Value.isRef, FieldType.isReference]
    first | (intro acts; rw [hr _ acts rfl rfl rfl]) | rw [hr _ _ rfl rfl rfl]
    exact Steps.refl _
  · exact ⟨rfl, N0, e1⟩
theorem ef65 (m : MethodId) (x0 : Addr) : entryFrame m #[(.ref x0), .null] 2 = mkF m 0 #[.val (.ref x0), .val .null] [] := by first | (simp [entryFrame, mkF, argsToLocals, Value.category]; done) | rfl
def Q4_6 (Z : State) (w_MONTH : Addr) (w_YEAR : Addr) (w_cache : Addr) (cl_w_cache : Cell) (ob0 : Addr) (q0 : Int32) (h0 : Heap) (n0 : Nat) (v : Option Value) (h : Heap) (L : List Loc) : Prop := v = some .null ∧ Fr n0 L ∧ h = h0
set_option maxRecDepth 65536 in
set_option maxHeartbeats 40000000 in
theorem rm4_6 (l : Launch) (Z : State) (a0 : Array Value) (hw : ∀ d ∈ tables_1, d.before a0 Z = true) (ws : List Jvm.Cond) (w_MONTH : Addr) (w_YEAR : Addr) (w_cache : Addr) (cl_w_cache : Cell) (ob0 : Addr) (q0 : Int32) (h0 : Heap) (n0 : Nat) (Z0 : n0 ≤ h0.size) (O0 : Old Z n0 h0) (HW : World Z w_MONTH w_YEAR w_cache cl_w_cache) (PE_ob0 : Exa Z h0 ob0 "com/example/metered_billing/meteredbilling/plan/Term") (PF_ob0_length : Fld Z h0 ob0 "com/example/metered_billing/meteredbilling/plan/Term" "length" "I" (.int q0)) (PF_ob0_unit : Fld Z h0 ob0 "com/example/metered_billing/meteredbilling/plan/Term" "unit" "Lcom/example/metered_billing/meteredbilling/plan/Term$Unit;" (.ref w_MONTH)) :
    MetFree l (⟨"com/example/metered_billing/meteredbilling/plan/Term", "lengthIn", "(Lcom/example/metered_billing/meteredbilling/plan/Term$Unit;)Ljava/lang/Integer;"⟩ : MethodName) (head1 (Jvm.Cond.code (⟨"com/example/metered_billing/meteredbilling/plan/Term", "lengthIn", "(Lcom/example/metered_billing/meteredbilling/plan/Term$Unit;)Ljava/lang/Integer;"⟩ : MethodName) prog_43_method_6_code 2 (some (.object "java/lang/Integer")) :: ws) ({ frames := 0, cells := 0, slots := 0, locals := 0 } : Room)) (fun a U => a = #[(.ref ob0), .null] ∧ Z.Warmed39 U.vm ∧ U.heap = h0) (fun _ _ _ _ _ => True) (fun _ U o U' => ∃ v L, o = .returned v ∧ Q4_6 Z w_MONTH w_YEAR w_cache cl_w_cache ob0 q0 h0 n0 v U'.heap L ∧ FrameEnd U o U' L ({ frames := 0, cells := 0, slots := 0, locals := 0 } : Room).cells ({ frames := 0, cells := 0, slots := 0, locals := 0 } : Room).slots) := by
  refine MetFree.of_bodySF (plainFor_of_name pn26) hisR ?_
  intro p e s m args below meth c s₁ Bd hml0 hP hK
  obtain ⟨rfl, hZ, hh⟩ := hP
  have hx := Bd.exec
  have hby := Bd.bytes
  have hml : c.maxLocals = 2 := hml0
  have hown : s.vm.findClass "com/example/metered_billing/meteredbilling/plan/Term" = some m.cls := findClass_of_methodNamed Bd.named
  have hnm := (name_of_methodNamed Bd.named Bd.method).1
  have X0 : Stand p l e ({ frames := 0, cells := 0, slots := 0, locals := 0 } : Room) s m #[(.ref ob0), .null] below meth c s₁ [] 0 0 := Stand.of_body Bd
  have e0 : s₁.heap = h0 := by rw [← hh, Bd.state]; rfl
  have N0 := Fr.nil n0
  have pre0 : ∀ t, Steps p.tables e below (s₁.setTop (mkF m 0 #[.val (.ref ob0), .val .null] [])) t → Steps p.tables e below (s₁.setTop (entryFrame m #[(.ref ob0), .null] 2)) t := fun t k => castTop (ef65 m ob0) k
  obtain ⟨S_w_MONTH, E_w_MONTH, S_w_YEAR, E_w_YEAR, F_most_w_MONTH, F_most_w_YEAR, F_ordinal_w_MONTH, F_ordinal_w_YEAR, ne_w_MONTH_w_YEAR, S_high, S_w_cache, Ar_w_cache, Sz_w_cache, AL_w_cache, -⟩ := id HW
  obtain ⟨T1, X1, e1, st1⟩ := getF X0 hx hZ hown (host := "") (Or.inl (hw _ (List.mem_of_getElem? (i := 22) rfl))) Via.refl e0 PF_ob0_unit (g := (mkF m 1 #[.val (.ref ob0), .val .null] [(.ref ob0)])) rfl rfl (hb hby d4_1)
  obtain ⟨fs, hr, hrun, hended, hW, hsame⟩ := X1.leave (v := some .null) (fun h => by rw [Bd.returns] at h; cases h)
  refine ⟨_, _, pre0 _ ?_, hrun, hended, _, _, rfl, ?_, ⟨_, rfl⟩, hW, hsame.mono (by decide) (by decide)⟩
  · show Steps p.tables e below (s₁.setTop (mkF m 0 #[.val (.ref ob0), .val .null] [])) _
    refine XS.aloadN X0.here hx rfl (hb hby d4_0) rfl rfl ?_
    show Steps p.tables e below (s₁.setTop (mkF m 1 #[.val (.ref ob0), .val .null] [(.ref ob0)])) _
    refine st1 _ ?_
    show Steps p.tables e below (T1.setTop (mkF m 4 #[.val (.ref ob0), .val .null] [(.ref w_MONTH)])) _
    refine XS.aloadN X1.here hx rfl (hb hby d4_4) rfl rfl ?_
    show Steps p.tables e below (T1.setTop (mkF m 5 #[.val (.ref ob0), .val .null] [.null, (.ref w_MONTH)])) _
    refine Jvm.RoadKit.acmp (g := (mkF m 5 #[.val (.ref ob0), .val .null] [.null, (.ref w_MONTH)])) X1 hx rfl rfl rfl (pc0 := 5) (pc' := 18) (same := false) rfl (hb hby d4_5) rfl (decide_eq_false nofun) (by decide) (by decide) ?_
    show Steps p.tables e below (T1.setTop (mkF m 18 #[.val (.ref ob0), .val .null] [])) _
    refine XS.aconstNull X1.here hx rfl (hb hby d4_18) ?_
    show Steps p.tables e below (T1.setTop (mkF m 19 #[.val (.ref ob0), .val .null] [.null])) _
    jvm_step X1.here [X1.here.top, hx, (hb hby d4_19), X1.method', Bd.returns, Value.isRef, FieldType.isReference]
    first | (intro acts; rw [hr _ acts rfl rfl rfl]) | rw [hr _ _ rfl rfl rfl]
    exact Steps.refl _
  · exact ⟨rfl, N0, e1⟩
def Q1_7 (Z : State) (w_MONTH : Addr) (w_YEAR : Addr) (w_cache : Addr) (cl_w_cache : Cell) (ob0 : Addr) (q0 : Int32) (h0 : Heap) (n0 : Nat) (v : Option Value) (h : Heap) (L : List Loc) : Prop := v = none ∧ Fr n0 L ∧ Keep h0 h [ob0] ∧ Old Z n0 h ∧ Exa Z h ob0 "com/example/metered_billing/meteredbilling/plan/Term" ∧ Fld Z h ob0 "com/example/metered_billing/meteredbilling/plan/Term" "length" "I" (.int q0) ∧ Fld Z h ob0 "com/example/metered_billing/meteredbilling/plan/Term" "unit" "Lcom/example/metered_billing/meteredbilling/plan/Term$Unit;" (.ref w_YEAR) ∧ True
set_option maxRecDepth 65536 in
set_option maxHeartbeats 40000000 in
theorem rm1_7 (l : Launch) (Z : State) (a0 : Array Value) (hw : ∀ d ∈ tables_1, d.before a0 Z = true) (ws : List Jvm.Cond) (w_MONTH : Addr) (w_YEAR : Addr) (w_cache : Addr) (cl_w_cache : Cell) (ob0 : Addr) (q0 : Int32) (h0 : Heap) (n0 : Nat) (Z0 : n0 ≤ h0.size) (O0 : Old Z n0 h0) (HW : World Z w_MONTH w_YEAR w_cache cl_w_cache) (PE_ob0 : Exa Z h0 ob0 "com/example/metered_billing/meteredbilling/plan/Term") (PF_ob0_length : Fld Z h0 ob0 "com/example/metered_billing/meteredbilling/plan/Term" "length" "I" (.int (0 : Int32))) (PF_ob0_unit : Fld Z h0 ob0 "com/example/metered_billing/meteredbilling/plan/Term" "unit" "Lcom/example/metered_billing/meteredbilling/plan/Term$Unit;" .null) (g_ob0 : n0 ≤ ob0) (hd0 : ¬ (q0 < (1 : Int32))) (hd1 : ¬ ((5 : Int32) < q0)) :
    MetFree l (⟨"com/example/metered_billing/meteredbilling/plan/Term", "<init>", "(ILcom/example/metered_billing/meteredbilling/plan/Term$Unit;)V"⟩ : MethodName) (head1 (Jvm.Cond.code (⟨"com/example/metered_billing/meteredbilling/plan/Term", "<init>", "(ILcom/example/metered_billing/meteredbilling/plan/Term$Unit;)V"⟩ : MethodName) prog_43_method_1_code 3 none :: ws) ({ frames := 2, cells := 0, slots := 0, locals := 24 } : Room)) (fun a U => a = #[(.ref ob0), (.int q0), (.ref w_YEAR)] ∧ Z.Warmed39 U.vm ∧ U.heap = h0) (fun _ _ _ _ _ => True) (fun _ U o U' => ∃ v L, o = .returned v ∧ Q1_7 Z w_MONTH w_YEAR w_cache cl_w_cache ob0 q0 h0 n0 v U'.heap L ∧ FrameEnd U o U' L ({ frames := 2, cells := 0, slots := 0, locals := 24 } : Room).cells ({ frames := 2, cells := 0, slots := 0, locals := 24 } : Room).slots) := by
  refine MetFree.of_bodySF (plainFor_of_name pn26) hisR ?_
  intro p e s m args below meth c s₁ Bd hml0 hP hK
  obtain ⟨rfl, hZ, hh⟩ := hP
  have hx := Bd.exec
  have hby := Bd.bytes
  have hml : c.maxLocals = 3 := hml0
  have hown : s.vm.findClass "com/example/metered_billing/meteredbilling/plan/Term" = some m.cls := findClass_of_methodNamed Bd.named
  have hnm := (name_of_methodNamed Bd.named Bd.method).1
  have X0 : Stand p l e ({ frames := 2, cells := 0, slots := 0, locals := 24 } : Room) s m #[(.ref ob0), (.int q0), (.ref w_YEAR)] below meth c s₁ [] 0 0 := Stand.of_body Bd
  have e0 : s₁.heap = h0 := by rw [← hh, Bd.state]; rfl
  have N0 := Fr.nil n0
  have pre0 : ∀ t, Steps p.tables e below (s₁.setTop (mkF m 0 #[.val (.ref ob0), .val (.int q0), .val (.ref w_YEAR)] [])) t → Steps p.tables e below (s₁.setTop (entryFrame m #[(.ref ob0), (.int q0), (.ref w_YEAR)] 3)) t := fun t k => castTop (ef25 m ob0 q0 w_YEAR) k
  obtain ⟨S_w_MONTH, E_w_MONTH, S_w_YEAR, E_w_YEAR, F_most_w_MONTH, F_most_w_YEAR, F_ordinal_w_MONTH, F_ordinal_w_YEAR, ne_w_MONTH_w_YEAR, S_high, S_w_cache, Ar_w_cache, Sz_w_cache, AL_w_cache, -⟩ := id HW
  obtain ⟨_, _, ⟨T1, L1, k1, n1⟩, -, X1, ⟨Lc1, hQ1, l1, y1, z1⟩, st1⟩ := X0.specialBack hx (y := (⟨"java/lang/Record", "<init>", "()V"⟩ : MethodName)) rfl hown (mvT hZ (hw _ (List.mem_of_getElem? (i := 10) rfl))) (mvT hZ (hw _ (List.mem_of_getElem? (i := 11) rfl))) (mvT hZ (hw _ (List.mem_of_getElem? (i := 14) rfl))) (by decide) (backOf (W := 0) (rm2_0 l Z a0 hw [] w_MONTH w_YEAR w_cache cl_w_cache ob0 h0 n0 (own_n0 O0) O0 HW PE_ob0 PF_ob0_length PF_ob0_unit) hZ (hw _ (List.mem_of_getElem? (i := 14) rfl)) (hw _ (List.mem_of_getElem? (i := 13) rfl)) (by decide) (by decide)) (g := (mkF m 1 #[.val (.ref ob0), .val (.int q0), .val (.ref w_YEAR)] [(.ref ob0)])) rfl (by rw [hml]; rfl) (Steps.refl _) (a := ob0) (argsL := []) (rest := []) (lenOf pd7 rfl) rfl (by show 2 * 0 + _ ≤ _; exact Nat.le_of_eq rfl) (hb hby d1_1) (fun _ _ => ⟨rfl, e0, (by decide : 0 + 0 ≤ _), (by decide : 0 + 0 ≤ _)⟩)
  dsimp only [Pt.U, Pt.locs, Pt.cells, Pt.slots] at X1 l1 y1 z1 st1 hQ1
  subst l1 y1 z1
  obtain ⟨rfl, N1q, e1⟩ := hQ1
  have N1 := Fr.app N0 N1q
  obtain ⟨T2, h2, X2, e2, W2, st2⟩ := putF X1 hx hZ hown (host := "") (Or.inl (hw _ (List.mem_of_getElem? (i := 20) rfl))) Via.refl e1 PF_ob0_length PE_ob0 (Or.inr ⟨(hw _ (List.mem_of_getElem? (i := 21) rfl)), rfl, hnm⟩) (hw _ (List.mem_of_getElem? (i := 5) rfl)) (ty := .int) (by decide) rfl rfl (g := (mkF m 40 #[.val (.ref ob0), .val (.int q0), .val (.ref w_YEAR)] [(.int q0), (.ref ob0)])) rfl rfl (hb hby d1_40)
  have Fw2 := PF_ob0_length.same W2
  have N2 := Fr.snoc X2 N1 g_ob0
  have O2 := O0.wr W2 g_ob0
  have KK2 : Keep h0 h2 [ob0] := (Keep.refl h0 [ob0]).wr W2 (Or.inl (List.mem_of_getElem? (i := 0) rfl))
  obtain ⟨T3, h3, X3, e3, W3, st3⟩ := putF X2 hx hZ hown (host := "") (Or.inl (hw _ (List.mem_of_getElem? (i := 22) rfl))) Via.refl e2 (PF_ob0_unit.other W2 (Or.inr (slot_ne (Or.inr (hw _ (List.mem_of_getElem? (i := 23) rfl))) (Or.inr (hw _ (List.mem_of_getElem? (i := 21) rfl))) (by decide) (t := (.object "com/example/metered_billing/meteredbilling/plan/Term$Unit")) (t' := .int) (by decide) (by decide)))) (PE_ob0.wr W2) (Or.inr ⟨(hw _ (List.mem_of_getElem? (i := 23) rfl)), rfl, hnm⟩) (hw _ (List.mem_of_getElem? (i := 5) rfl)) (ty := (.object "com/example/metered_billing/meteredbilling/plan/Term$Unit")) (by decide) rfl rfl (g := (mkF m 45 #[.val (.ref ob0), .val (.int q0), .val (.ref w_YEAR)] [(.ref w_YEAR), (.ref ob0)])) rfl rfl (hb hby d1_45)
  have Fw3 := (PF_ob0_unit.other W2 (Or.inr (slot_ne (Or.inr (hw _ (List.mem_of_getElem? (i := 23) rfl))) (Or.inr (hw _ (List.mem_of_getElem? (i := 21) rfl))) (by decide) (t := (.object "com/example/metered_billing/meteredbilling/plan/Term$Unit")) (t' := .int) (by decide) (by decide)))).same W3
  have N3 := Fr.snoc X3 N2 g_ob0
  have O3 := O2.wr W3 g_ob0
  have KK3 : Keep h0 h3 [ob0] := KK2.wr W3 (Or.inl (List.mem_of_getElem? (i := 0) rfl))
  obtain ⟨fs, hr, hrun, hended, hW, hsame⟩ := X3.leave (v := none) (fun _ => rfl)
  refine ⟨_, _, pre0 _ ?_, hrun, hended, _, _, rfl, ?_, ⟨_, rfl⟩, hW, hsame.mono (by decide) (by decide)⟩
  · show Steps p.tables e below (s₁.setTop (mkF m 0 #[.val (.ref ob0), .val (.int q0), .val (.ref w_YEAR)] [])) _
    refine XS.aloadN X0.here hx rfl (hb hby d1_0) rfl rfl ?_
    show Steps p.tables e below (s₁.setTop (mkF m 1 #[.val (.ref ob0), .val (.int q0), .val (.ref w_YEAR)] [(.ref ob0)])) _
    refine st1.trans ?_
    show Steps p.tables e below (T1.setTop (mkF m 4 #[.val (.ref ob0), .val (.int q0), .val (.ref w_YEAR)] [])) _
    refine XS.iloadN X1.here hx rfl (hb hby d1_4) rfl ?_
    show Steps p.tables e below (T1.setTop (mkF m 5 #[.val (.ref ob0), .val (.int q0), .val (.ref w_YEAR)] [(.int q0)])) _
    refine XS.iconst X1.here hx rfl (hb hby d1_5) ?_
    show Steps p.tables e below (T1.setTop (mkF m 6 #[.val (.ref ob0), .val (.int q0), .val (.ref w_YEAR)] [(.int (1 : Int32)), (.int q0)])) _
    refine XS.icmpNo X1.here hx rfl (hb hby d1_6) rfl (flt hd0).1 ?_
    show Steps p.tables e below (T1.setTop (mkF m 9 #[.val (.ref ob0), .val (.int q0), .val (.ref w_YEAR)] [])) _
    refine XS.iloadN X1.here hx rfl (hb hby d1_9) rfl ?_
    show Steps p.tables e below (T1.setTop (mkF m 10 #[.val (.ref ob0), .val (.int q0), .val (.ref w_YEAR)] [(.int q0)])) _
    refine XS.aloadN X1.here hx rfl (hb hby d1_10) rfl rfl ?_
    show Steps p.tables e below (T1.setTop (mkF m 11 #[.val (.ref ob0), .val (.int q0), .val (.ref w_YEAR)] [(.ref w_YEAR), (.int q0)])) _
    refine own_getFR X1 hx hZ hown (hw _ (List.mem_of_getElem? (i := 18) rfl)) e1 (F_most_w_YEAR.ext O0.2) (g := (mkF m 11 #[.val (.ref ob0), .val (.int q0), .val (.ref w_YEAR)] [(.ref w_YEAR), (.int q0)])) rfl rfl (hb hby d1_11) _ ?_
    show Steps p.tables e below (T1.setTop (mkF m 14 #[.val (.ref ob0), .val (.int q0), .val (.ref w_YEAR)] [(.int (5 : Int32)), (.int q0)])) _
    refine XS.icmpYes X1.here hx rfl (pc0 := 14) (pc' := 38) rfl (hb hby d1_14) rfl (flt hd1).2.2.2 (by decide) (by decide) ?_
    show Steps p.tables e below (T1.setTop (mkF m 38 #[.val (.ref ob0), .val (.int q0), .val (.ref w_YEAR)] [])) _
    refine XS.aloadN X1.here hx rfl (hb hby d1_38) rfl rfl ?_
    show Steps p.tables e below (T1.setTop (mkF m 39 #[.val (.ref ob0), .val (.int q0), .val (.ref w_YEAR)] [(.ref ob0)])) _
    refine XS.iloadN X1.here hx rfl (hb hby d1_39) rfl ?_
    show Steps p.tables e below (T1.setTop (mkF m 40 #[.val (.ref ob0), .val (.int q0), .val (.ref w_YEAR)] [(.int q0), (.ref ob0)])) _
    refine st2 _ ?_
    show Steps p.tables e below (T2.setTop (mkF m 43 #[.val (.ref ob0), .val (.int q0), .val (.ref w_YEAR)] [])) _
    refine XS.aloadN X2.here hx rfl (hb hby d1_43) rfl rfl ?_
    show Steps p.tables e below (T2.setTop (mkF m 44 #[.val (.ref ob0), .val (.int q0), .val (.ref w_YEAR)] [(.ref ob0)])) _
    refine XS.aloadN X2.here hx rfl (hb hby d1_44) rfl rfl ?_
    show Steps p.tables e below (T2.setTop (mkF m 45 #[.val (.ref ob0), .val (.int q0), .val (.ref w_YEAR)] [(.ref w_YEAR), (.ref ob0)])) _
    refine st3 _ ?_
    show Steps p.tables e below (T3.setTop (mkF m 48 #[.val (.ref ob0), .val (.int q0), .val (.ref w_YEAR)] [])) _
    exact X3.returnOut hx Bd.returns (hb hby d1_48) hr
  · have eH : (T3.setFrames fs).heap = h3 := e3; rw [eH]; exact ⟨rfl, N3, KK3, O3, ((PE_ob0.wr W2).wr W3), (Fw2.other W3 (Or.inr (slot_ne (Or.inr (hw _ (List.mem_of_getElem? (i := 21) rfl))) (Or.inr (hw _ (List.mem_of_getElem? (i := 23) rfl))) (by decide) (t := .int) (t' := (.object "com/example/metered_billing/meteredbilling/plan/Term$Unit")) (by decide) (by decide)))), Fw3, trivial⟩
def Q4_8 (Z : State) (w_MONTH : Addr) (w_YEAR : Addr) (w_cache : Addr) (cl_w_cache : Cell) (ob0 : Addr) (q0 : Int32) (h0 : Heap) (n0 : Nat) (v : Option Value) (h : Heap) (L : List Loc) : Prop := v = some .null ∧ Fr n0 L ∧ h = h0
set_option maxRecDepth 65536 in
set_option maxHeartbeats 40000000 in
theorem rm4_8 (l : Launch) (Z : State) (a0 : Array Value) (hw : ∀ d ∈ tables_1, d.before a0 Z = true) (ws : List Jvm.Cond) (w_MONTH : Addr) (w_YEAR : Addr) (w_cache : Addr) (cl_w_cache : Cell) (ob0 : Addr) (q0 : Int32) (h0 : Heap) (n0 : Nat) (Z0 : n0 ≤ h0.size) (O0 : Old Z n0 h0) (HW : World Z w_MONTH w_YEAR w_cache cl_w_cache) (PE_ob0 : Exa Z h0 ob0 "com/example/metered_billing/meteredbilling/plan/Term") (PF_ob0_length : Fld Z h0 ob0 "com/example/metered_billing/meteredbilling/plan/Term" "length" "I" (.int q0)) (PF_ob0_unit : Fld Z h0 ob0 "com/example/metered_billing/meteredbilling/plan/Term" "unit" "Lcom/example/metered_billing/meteredbilling/plan/Term$Unit;" (.ref w_YEAR)) :
    MetFree l (⟨"com/example/metered_billing/meteredbilling/plan/Term", "lengthIn", "(Lcom/example/metered_billing/meteredbilling/plan/Term$Unit;)Ljava/lang/Integer;"⟩ : MethodName) (head1 (Jvm.Cond.code (⟨"com/example/metered_billing/meteredbilling/plan/Term", "lengthIn", "(Lcom/example/metered_billing/meteredbilling/plan/Term$Unit;)Ljava/lang/Integer;"⟩ : MethodName) prog_43_method_6_code 2 (some (.object "java/lang/Integer")) :: ws) ({ frames := 0, cells := 0, slots := 0, locals := 0 } : Room)) (fun a U => a = #[(.ref ob0), (.ref w_MONTH)] ∧ Z.Warmed39 U.vm ∧ U.heap = h0) (fun _ _ _ _ _ => True) (fun _ U o U' => ∃ v L, o = .returned v ∧ Q4_8 Z w_MONTH w_YEAR w_cache cl_w_cache ob0 q0 h0 n0 v U'.heap L ∧ FrameEnd U o U' L ({ frames := 0, cells := 0, slots := 0, locals := 0 } : Room).cells ({ frames := 0, cells := 0, slots := 0, locals := 0 } : Room).slots) := by
  refine MetFree.of_bodySF (plainFor_of_name pn26) hisR ?_
  intro p e s m args below meth c s₁ Bd hml0 hP hK
  obtain ⟨rfl, hZ, hh⟩ := hP
  have hx := Bd.exec
  have hby := Bd.bytes
  have hml : c.maxLocals = 2 := hml0
  have hown : s.vm.findClass "com/example/metered_billing/meteredbilling/plan/Term" = some m.cls := findClass_of_methodNamed Bd.named
  have hnm := (name_of_methodNamed Bd.named Bd.method).1
  have X0 : Stand p l e ({ frames := 0, cells := 0, slots := 0, locals := 0 } : Room) s m #[(.ref ob0), (.ref w_MONTH)] below meth c s₁ [] 0 0 := Stand.of_body Bd
  have e0 : s₁.heap = h0 := by rw [← hh, Bd.state]; rfl
  have N0 := Fr.nil n0
  have pre0 : ∀ t, Steps p.tables e below (s₁.setTop (mkF m 0 #[.val (.ref ob0), .val (.ref w_MONTH)] [])) t → Steps p.tables e below (s₁.setTop (entryFrame m #[(.ref ob0), (.ref w_MONTH)] 2)) t := fun t k => castTop (ef54 m ob0 w_MONTH) k
  obtain ⟨S_w_MONTH, E_w_MONTH, S_w_YEAR, E_w_YEAR, F_most_w_MONTH, F_most_w_YEAR, F_ordinal_w_MONTH, F_ordinal_w_YEAR, ne_w_MONTH_w_YEAR, S_high, S_w_cache, Ar_w_cache, Sz_w_cache, AL_w_cache, -⟩ := id HW
  obtain ⟨T1, X1, e1, st1⟩ := getF X0 hx hZ hown (host := "") (Or.inl (hw _ (List.mem_of_getElem? (i := 22) rfl))) Via.refl e0 PF_ob0_unit (g := (mkF m 1 #[.val (.ref ob0), .val (.ref w_MONTH)] [(.ref ob0)])) rfl rfl (hb hby d4_1)
  obtain ⟨fs, hr, hrun, hended, hW, hsame⟩ := X1.leave (v := some .null) (fun h => by rw [Bd.returns] at h; cases h)
  refine ⟨_, _, pre0 _ ?_, hrun, hended, _, _, rfl, ?_, ⟨_, rfl⟩, hW, hsame.mono (by decide) (by decide)⟩
  · show Steps p.tables e below (s₁.setTop (mkF m 0 #[.val (.ref ob0), .val (.ref w_MONTH)] [])) _
    refine XS.aloadN X0.here hx rfl (hb hby d4_0) rfl rfl ?_
    show Steps p.tables e below (s₁.setTop (mkF m 1 #[.val (.ref ob0), .val (.ref w_MONTH)] [(.ref ob0)])) _
    refine st1 _ ?_
    show Steps p.tables e below (T1.setTop (mkF m 4 #[.val (.ref ob0), .val (.ref w_MONTH)] [(.ref w_YEAR)])) _
    refine XS.aloadN X1.here hx rfl (hb hby d4_4) rfl rfl ?_
    show Steps p.tables e below (T1.setTop (mkF m 5 #[.val (.ref ob0), .val (.ref w_MONTH)] [(.ref w_MONTH), (.ref w_YEAR)])) _
    refine Jvm.RoadKit.acmp (g := (mkF m 5 #[.val (.ref ob0), .val (.ref w_MONTH)] [(.ref w_MONTH), (.ref w_YEAR)])) X1 hx rfl rfl rfl (pc0 := 5) (pc' := 18) (same := false) rfl (hb hby d4_5) rfl (decide_eq_false fun q => (Ne.symm ne_w_MONTH_w_YEAR) (Value.ref.inj q)) (by decide) (by decide) ?_
    show Steps p.tables e below (T1.setTop (mkF m 18 #[.val (.ref ob0), .val (.ref w_MONTH)] [])) _
    refine XS.aconstNull X1.here hx rfl (hb hby d4_18) ?_
    show Steps p.tables e below (T1.setTop (mkF m 19 #[.val (.ref ob0), .val (.ref w_MONTH)] [.null])) _
    jvm_step X1.here [X1.here.top, hx, (hb hby d4_19), X1.method', Bd.returns, Value.isRef, FieldType.isReference]
    first | (intro acts; rw [hr _ acts rfl rfl rfl]) | rw [hr _ _ rfl rfl rfl]
    exact Steps.refl _
  · exact ⟨rfl, N0, e1⟩
def Q4_9 (Z : State) (w_MONTH : Addr) (w_YEAR : Addr) (w_cache : Addr) (cl_w_cache : Cell) (ob0 : Addr) (q0 : Int32) (h0 : Heap) (n0 : Nat) (v : Option Value) (h : Heap) (L : List Loc) : Prop := ∃ o3_0 : Addr, v = some (.ref o3_0) ∧ Fr n0 L ∧ h = h0 ∧ Exa Z Z.heap o3_0 "java/lang/Integer" ∧ Fld Z Z.heap o3_0 "java/lang/Integer" "value" "I" (.int q0)
set_option maxRecDepth 65536 in
set_option maxHeartbeats 40000000 in
theorem rm4_9 (l : Launch) (Z : State) (a0 : Array Value) (hw : ∀ d ∈ tables_1, d.before a0 Z = true) (ws : List Jvm.Cond) (w_MONTH : Addr) (w_YEAR : Addr) (w_cache : Addr) (cl_w_cache : Cell) (ob0 : Addr) (q0 : Int32) (h0 : Heap) (n0 : Nat) (Z0 : n0 ≤ h0.size) (O0 : Old Z n0 h0) (HW : World Z w_MONTH w_YEAR w_cache cl_w_cache) (PE_ob0 : Exa Z h0 ob0 "com/example/metered_billing/meteredbilling/plan/Term") (PF_ob0_length : Fld Z h0 ob0 "com/example/metered_billing/meteredbilling/plan/Term" "length" "I" (.int q0)) (PF_ob0_unit : Fld Z h0 ob0 "com/example/metered_billing/meteredbilling/plan/Term" "unit" "Lcom/example/metered_billing/meteredbilling/plan/Term$Unit;" (.ref w_YEAR)) (hd0 : ¬ (q0 < (-128 : Int32))) (hd1 : ¬ ((127 : Int32) < q0)) :
    MetFree l (⟨"com/example/metered_billing/meteredbilling/plan/Term", "lengthIn", "(Lcom/example/metered_billing/meteredbilling/plan/Term$Unit;)Ljava/lang/Integer;"⟩ : MethodName) (head1 (Jvm.Cond.code (⟨"com/example/metered_billing/meteredbilling/plan/Term", "lengthIn", "(Lcom/example/metered_billing/meteredbilling/plan/Term$Unit;)Ljava/lang/Integer;"⟩ : MethodName) prog_43_method_6_code 2 (some (.object "java/lang/Integer")) :: ws) ({ frames := 1, cells := 0, slots := 0, locals := 12 } : Room)) (fun a U => a = #[(.ref ob0), (.ref w_YEAR)] ∧ Z.Warmed39 U.vm ∧ U.heap = h0) (fun _ _ _ _ _ => True) (fun _ U o U' => ∃ v L, o = .returned v ∧ Q4_9 Z w_MONTH w_YEAR w_cache cl_w_cache ob0 q0 h0 n0 v U'.heap L ∧ FrameEnd U o U' L ({ frames := 1, cells := 0, slots := 0, locals := 12 } : Room).cells ({ frames := 1, cells := 0, slots := 0, locals := 12 } : Room).slots) := by
  refine MetFree.of_bodySF (plainFor_of_name pn26) hisR ?_
  intro p e s m args below meth c s₁ Bd hml0 hP hK
  obtain ⟨rfl, hZ, hh⟩ := hP
  have hx := Bd.exec
  have hby := Bd.bytes
  have hml : c.maxLocals = 2 := hml0
  have hown : s.vm.findClass "com/example/metered_billing/meteredbilling/plan/Term" = some m.cls := findClass_of_methodNamed Bd.named
  have hnm := (name_of_methodNamed Bd.named Bd.method).1
  have X0 : Stand p l e ({ frames := 1, cells := 0, slots := 0, locals := 12 } : Room) s m #[(.ref ob0), (.ref w_YEAR)] below meth c s₁ [] 0 0 := Stand.of_body Bd
  have e0 : s₁.heap = h0 := by rw [← hh, Bd.state]; rfl
  have N0 := Fr.nil n0
  have pre0 : ∀ t, Steps p.tables e below (s₁.setTop (mkF m 0 #[.val (.ref ob0), .val (.ref w_YEAR)] [])) t → Steps p.tables e below (s₁.setTop (entryFrame m #[(.ref ob0), (.ref w_YEAR)] 2)) t := fun t k => castTop (ef54 m ob0 w_YEAR) k
  obtain ⟨S_w_MONTH, E_w_MONTH, S_w_YEAR, E_w_YEAR, F_most_w_MONTH, F_most_w_YEAR, F_ordinal_w_MONTH, F_ordinal_w_YEAR, ne_w_MONTH_w_YEAR, S_high, S_w_cache, Ar_w_cache, Sz_w_cache, AL_w_cache, -⟩ := id HW
  obtain ⟨T1, X1, e1, st1⟩ := getF X0 hx hZ hown (host := "") (Or.inl (hw _ (List.mem_of_getElem? (i := 22) rfl))) Via.refl e0 PF_ob0_unit (g := (mkF m 1 #[.val (.ref ob0), .val (.ref w_YEAR)] [(.ref ob0)])) rfl rfl (hb hby d4_1)
  obtain ⟨T2, X2, e2, st2⟩ := getF X1 hx hZ hown (host := "") (Or.inl (hw _ (List.mem_of_getElem? (i := 20) rfl))) Via.refl e1 PF_ob0_length (g := (mkF m 9 #[.val (.ref ob0), .val (.ref w_YEAR)] [(.ref ob0)])) rfl rfl (hb hby d4_9)
  obtain ⟨_, _, ⟨T3, L3, k3, n3⟩, -, X3, ⟨Lc3, hQ3, l3, y3, z3⟩, st3⟩ := Jvm.LawKit.callS X2 hx (y := (⟨"java/lang/Integer", "valueOf", "(I)Ljava/lang/Integer;"⟩ : MethodName)) hown (mvT hZ (hw _ (List.mem_of_getElem? (i := 31) rfl))) (mvT hZ (hw _ (List.mem_of_getElem? (i := 32) rfl))) (mvT hZ (hw _ (List.mem_of_getElem? (i := 33) rfl))) (mvT hZ (hw _ (List.mem_of_getElem? (i := 34) rfl))) (by decide) (backOf (W := 0) (rm5_2 l Z a0 hw [] w_MONTH w_YEAR w_cache cl_w_cache q0 h0 n0 (own_n0 O0) O0 HW hd0 hd1) hZ (hw _ (List.mem_of_getElem? (i := 34) rfl)) (hw _ (List.mem_of_getElem? (i := 33) rfl)) (by decide) (by decide)) (g := (mkF m 12 #[.val (.ref ob0), .val (.ref w_YEAR)] [(.int q0)])) rfl (by rw [hml]; rfl) (argsL := [(.int q0)]) (rest := []) (lenOf pd49 rfl) rfl (by show 2 * 0 + _ ≤ _; exact Nat.le_of_eq rfl) (hb hby d4_12) (fun _ _ => ⟨rfl, e2, (by decide : 0 + 0 ≤ _), (by decide : 0 + 0 ≤ _)⟩)
  dsimp only [Pt.U, Pt.locs, Pt.cells, Pt.slots] at X3 l3 y3 z3 st3 hQ3
  subst l3 y3 z3
  obtain ⟨o3_0, rfl, N3q, e3, of3_0, of3_1⟩ := hQ3
  have N3 := Fr.app N0 N3q
  obtain ⟨fs, hr, hrun, hended, hW, hsame⟩ := X3.leave (v := some (.ref o3_0)) (fun h => by rw [Bd.returns] at h; cases h)
  refine ⟨_, _, pre0 _ ?_, hrun, hended, _, _, rfl, ?_, ⟨_, rfl⟩, hW, hsame.mono (by decide) (by decide)⟩
  · show Steps p.tables e below (s₁.setTop (mkF m 0 #[.val (.ref ob0), .val (.ref w_YEAR)] [])) _
    refine XS.aloadN X0.here hx rfl (hb hby d4_0) rfl rfl ?_
    show Steps p.tables e below (s₁.setTop (mkF m 1 #[.val (.ref ob0), .val (.ref w_YEAR)] [(.ref ob0)])) _
    refine st1 _ ?_
    show Steps p.tables e below (T1.setTop (mkF m 4 #[.val (.ref ob0), .val (.ref w_YEAR)] [(.ref w_YEAR)])) _
    refine XS.aloadN X1.here hx rfl (hb hby d4_4) rfl rfl ?_
    show Steps p.tables e below (T1.setTop (mkF m 5 #[.val (.ref ob0), .val (.ref w_YEAR)] [(.ref w_YEAR), (.ref w_YEAR)])) _
    refine Jvm.RoadKit.acmp (g := (mkF m 5 #[.val (.ref ob0), .val (.ref w_YEAR)] [(.ref w_YEAR), (.ref w_YEAR)])) X1 hx rfl rfl rfl (pc0 := 5) (pc' := 8) (same := true) rfl (hb hby d4_5) rfl (decide_eq_true rfl) (by decide) (by decide) ?_
    show Steps p.tables e below (T1.setTop (mkF m 8 #[.val (.ref ob0), .val (.ref w_YEAR)] [])) _
    refine XS.aloadN X1.here hx rfl (hb hby d4_8) rfl rfl ?_
    show Steps p.tables e below (T1.setTop (mkF m 9 #[.val (.ref ob0), .val (.ref w_YEAR)] [(.ref ob0)])) _
    refine st2 _ ?_
    show Steps p.tables e below (T2.setTop (mkF m 12 #[.val (.ref ob0), .val (.ref w_YEAR)] [(.int q0)])) _
    refine st3 _ ?_
    show Steps p.tables e below (T3.setTop (mkF m 15 #[.val (.ref ob0), .val (.ref w_YEAR)] [(.ref o3_0)])) _
    refine XS.goto X3.here hx rfl (pc0 := 15) (pc' := 19) rfl (hb hby d4_15) (by decide) (by decide) ?_
    show Steps p.tables e below (T3.setTop (mkF m 19 #[.val (.ref ob0), .val (.ref w_YEAR)] [(.ref o3_0)])) _
    jvm_step X3.here [X3.here.top, hx, (hb hby d4_19), X3.method', Bd.returns, Value.isRef, FieldType.isReference]
    first | (intro acts; rw [hr _ acts rfl rfl rfl]) | rw [hr _ _ rfl rfl rfl]
    exact Steps.refl _
  · exact ⟨o3_0, rfl, N3, e3, of3_0, of3_1⟩
def Q4_10 (Z : State) (w_MONTH : Addr) (w_YEAR : Addr) (w_cache : Addr) (cl_w_cache : Cell) (ob0 : Addr) (q0 : Int32) (h0 : Heap) (n0 : Nat) (v : Option Value) (h : Heap) (L : List Loc) : Prop := v = some .null ∧ Fr n0 L ∧ h = h0
set_option maxRecDepth 65536 in
set_option maxHeartbeats 40000000 in
theorem rm4_10 (l : Launch) (Z : State) (a0 : Array Value) (hw : ∀ d ∈ tables_1, d.before a0 Z = true) (ws : List Jvm.Cond) (w_MONTH : Addr) (w_YEAR : Addr) (w_cache : Addr) (cl_w_cache : Cell) (ob0 : Addr) (q0 : Int32) (h0 : Heap) (n0 : Nat) (Z0 : n0 ≤ h0.size) (O0 : Old Z n0 h0) (HW : World Z w_MONTH w_YEAR w_cache cl_w_cache) (PE_ob0 : Exa Z h0 ob0 "com/example/metered_billing/meteredbilling/plan/Term") (PF_ob0_length : Fld Z h0 ob0 "com/example/metered_billing/meteredbilling/plan/Term" "length" "I" (.int q0)) (PF_ob0_unit : Fld Z h0 ob0 "com/example/metered_billing/meteredbilling/plan/Term" "unit" "Lcom/example/metered_billing/meteredbilling/plan/Term$Unit;" (.ref w_YEAR)) :
    MetFree l (⟨"com/example/metered_billing/meteredbilling/plan/Term", "lengthIn", "(Lcom/example/metered_billing/meteredbilling/plan/Term$Unit;)Ljava/lang/Integer;"⟩ : MethodName) (head1 (Jvm.Cond.code (⟨"com/example/metered_billing/meteredbilling/plan/Term", "lengthIn", "(Lcom/example/metered_billing/meteredbilling/plan/Term$Unit;)Ljava/lang/Integer;"⟩ : MethodName) prog_43_method_6_code 2 (some (.object "java/lang/Integer")) :: ws) ({ frames := 0, cells := 0, slots := 0, locals := 0 } : Room)) (fun a U => a = #[(.ref ob0), .null] ∧ Z.Warmed39 U.vm ∧ U.heap = h0) (fun _ _ _ _ _ => True) (fun _ U o U' => ∃ v L, o = .returned v ∧ Q4_10 Z w_MONTH w_YEAR w_cache cl_w_cache ob0 q0 h0 n0 v U'.heap L ∧ FrameEnd U o U' L ({ frames := 0, cells := 0, slots := 0, locals := 0 } : Room).cells ({ frames := 0, cells := 0, slots := 0, locals := 0 } : Room).slots) := by
  refine MetFree.of_bodySF (plainFor_of_name pn26) hisR ?_
  intro p e s m args below meth c s₁ Bd hml0 hP hK
  obtain ⟨rfl, hZ, hh⟩ := hP
  have hx := Bd.exec
  have hby := Bd.bytes
  have hml : c.maxLocals = 2 := hml0
  have hown : s.vm.findClass "com/example/metered_billing/meteredbilling/plan/Term" = some m.cls := findClass_of_methodNamed Bd.named
  have hnm := (name_of_methodNamed Bd.named Bd.method).1
  have X0 : Stand p l e ({ frames := 0, cells := 0, slots := 0, locals := 0 } : Room) s m #[(.ref ob0), .null] below meth c s₁ [] 0 0 := Stand.of_body Bd
  have e0 : s₁.heap = h0 := by rw [← hh, Bd.state]; rfl
  have N0 := Fr.nil n0
  have pre0 : ∀ t, Steps p.tables e below (s₁.setTop (mkF m 0 #[.val (.ref ob0), .val .null] [])) t → Steps p.tables e below (s₁.setTop (entryFrame m #[(.ref ob0), .null] 2)) t := fun t k => castTop (ef65 m ob0) k
  obtain ⟨S_w_MONTH, E_w_MONTH, S_w_YEAR, E_w_YEAR, F_most_w_MONTH, F_most_w_YEAR, F_ordinal_w_MONTH, F_ordinal_w_YEAR, ne_w_MONTH_w_YEAR, S_high, S_w_cache, Ar_w_cache, Sz_w_cache, AL_w_cache, -⟩ := id HW
  obtain ⟨T1, X1, e1, st1⟩ := getF X0 hx hZ hown (host := "") (Or.inl (hw _ (List.mem_of_getElem? (i := 22) rfl))) Via.refl e0 PF_ob0_unit (g := (mkF m 1 #[.val (.ref ob0), .val .null] [(.ref ob0)])) rfl rfl (hb hby d4_1)
  obtain ⟨fs, hr, hrun, hended, hW, hsame⟩ := X1.leave (v := some .null) (fun h => by rw [Bd.returns] at h; cases h)
  refine ⟨_, _, pre0 _ ?_, hrun, hended, _, _, rfl, ?_, ⟨_, rfl⟩, hW, hsame.mono (by decide) (by decide)⟩
  · show Steps p.tables e below (s₁.setTop (mkF m 0 #[.val (.ref ob0), .val .null] [])) _
    refine XS.aloadN X0.here hx rfl (hb hby d4_0) rfl rfl ?_
    show Steps p.tables e below (s₁.setTop (mkF m 1 #[.val (.ref ob0), .val .null] [(.ref ob0)])) _
    refine st1 _ ?_
    show Steps p.tables e below (T1.setTop (mkF m 4 #[.val (.ref ob0), .val .null] [(.ref w_YEAR)])) _
    refine XS.aloadN X1.here hx rfl (hb hby d4_4) rfl rfl ?_
    show Steps p.tables e below (T1.setTop (mkF m 5 #[.val (.ref ob0), .val .null] [.null, (.ref w_YEAR)])) _
    refine Jvm.RoadKit.acmp (g := (mkF m 5 #[.val (.ref ob0), .val .null] [.null, (.ref w_YEAR)])) X1 hx rfl rfl rfl (pc0 := 5) (pc' := 18) (same := false) rfl (hb hby d4_5) rfl (decide_eq_false nofun) (by decide) (by decide) ?_
    show Steps p.tables e below (T1.setTop (mkF m 18 #[.val (.ref ob0), .val .null] [])) _
    refine XS.aconstNull X1.here hx rfl (hb hby d4_18) ?_
    show Steps p.tables e below (T1.setTop (mkF m 19 #[.val (.ref ob0), .val .null] [.null])) _
    jvm_step X1.here [X1.here.top, hx, (hb hby d4_19), X1.method', Bd.returns, Value.isRef, FieldType.isReference]
    first | (intro acts; rw [hr _ acts rfl rfl rfl]) | rw [hr _ _ rfl rfl rfl]
    exact Steps.refl _
  · exact ⟨rfl, N0, e1⟩
theorem ef71 (m : MethodId) (x0 : Int32) (x1 : Int32) (x2 : Int32) : entryFrame m #[(.int x0), (.int x1), (.int x2)] maxLocals = mkF m 0 #[.val (.int x0), .val (.int x1), .val (.int x2), .unset, .unset, .unset, .unset, .unset, .unset, .unset, .unset] [] := by first | (simp [entryFrame, mkF, argsToLocals, Value.category, maxLocals]; done) | rfl
theorem pn72 : plainName "com/example/metered_billing/meteredbilling/plan/TermLengthInPinLaw" = true := by first | (simp [plainName, overriddenIn]; done) | decide +kernel
def Q0 (h0 : Heap) (n0 : Nat) (v : Option Value) (h : Heap) (L : List Loc) : Prop := v = some (.int (1 : Int32)) ∧ Fr n0 L
set_option maxRecDepth 65536 in
set_option maxHeartbeats 40000000 in
theorem rm0_a (l : Launch) (Z : State) (a0 : Array Value) (hw : ∀ d ∈ tables_1, d.before a0 Z = true) (ws : List Jvm.Cond) (w_MONTH : Addr) (w_YEAR : Addr) (w_cache : Addr) (cl_w_cache : Cell) (p1 : Int32) (p2 : Int32) (p3 : Int32) (h0 : Heap) (n0 : Nat) (Z0 : n0 ≤ h0.size) (O0 : Old Z n0 h0) (HW : World Z w_MONTH w_YEAR w_cache cl_w_cache) :
    MetFree l x (head1 (Jvm.Cond.code x code maxLocals ret :: ws) room_1) (fun a U => a = #[(.int p1), (.int p2), (.int p3)] ∧ Z.Warmed39 U.vm ∧ U.heap = h0) (fun _ _ _ _ _ => True) (fun _ U o U' => ∃ v L, o = .returned v ∧ Q0 h0 n0 v U'.heap L ∧ FrameEnd U o U' L room_1.cells room_1.slots) := by
  refine MetFree.of_bodySF (plainFor_of_name pn72) hisR ?_
  intro p e s m args below meth c s₁ Bd hml0 hP hK
  obtain ⟨rfl, hZ, hh⟩ := hP
  have hx := Bd.exec
  have hby := Bd.bytes
  have hml : c.maxLocals = 11 := hml0
  have hown : s.vm.findClass "com/example/metered_billing/meteredbilling/plan/TermLengthInPinLaw" = some m.cls := findClass_of_methodNamed Bd.named
  have hnm := (name_of_methodNamed Bd.named Bd.method).1
  have X0 : Stand p l e room_1 s m #[(.int p1), (.int p2), (.int p3)] below meth c s₁ [] 0 0 := Stand.of_body Bd
  have e0 : s₁.heap = h0 := by rw [← hh, Bd.state]; rfl
  have N0 := Fr.nil n0
  have pre0 : ∀ t, Steps p.tables e below (s₁.setTop (mkF m 0 #[.val (.int p1), .val (.int p2), .val (.int p3), .unset, .unset, .unset, .unset, .unset, .unset, .unset, .unset] [])) t → Steps p.tables e below (s₁.setTop (entryFrame m #[(.int p1), (.int p2), (.int p3)] maxLocals)) t := fun t k => castTop (ef71 m p1 p2 p3) k
  obtain ⟨S_w_MONTH, E_w_MONTH, S_w_YEAR, E_w_YEAR, F_most_w_MONTH, F_most_w_YEAR, F_ordinal_w_MONTH, F_ordinal_w_YEAR, ne_w_MONTH_w_YEAR, S_high, S_w_cache, Ar_w_cache, Sz_w_cache, AL_w_cache, -⟩ := id HW
  have c1 : ∀ t, Steps p.tables e below (s₁.setTop (mkF m 3 #[.val (.int p1), .val (.int p2), .val (.int p3), .unset, .unset, .unset, .unset, .unset, .unset, .unset, .unset] [(.int (p1 &&& (1 : Int32)))])) t → Steps p.tables e below (s₁.setTop (entryFrame m #[(.int p1), (.int p2), (.int p3)] maxLocals)) t := fun t kt => pre0 _ (by
    show Steps p.tables e below (s₁.setTop (mkF m 0 #[.val (.int p1), .val (.int p2), .val (.int p3), .unset, .unset, .unset, .unset, .unset, .unset, .unset, .unset] [])) _
    refine XS.iloadN X0.here hx rfl (hb hby at_0) rfl ?_
    show Steps p.tables e below (s₁.setTop (mkF m 1 #[.val (.int p1), .val (.int p2), .val (.int p3), .unset, .unset, .unset, .unset, .unset, .unset, .unset, .unset] [(.int p1)])) _
    refine XS.iconst X0.here hx rfl (hb hby at_1) ?_
    show Steps p.tables e below (s₁.setTop (mkF m 2 #[.val (.int p1), .val (.int p2), .val (.int p3), .unset, .unset, .unset, .unset, .unset, .unset, .unset, .unset] [(.int (1 : Int32)), (.int p1)])) _
    refine XS.iand X0.here hx rfl (hb hby at_2) rfl ?_
    show Steps p.tables e below (s₁.setTop (mkF m 3 #[.val (.int p1), .val (.int p2), .val (.int p3), .unset, .unset, .unset, .unset, .unset, .unset, .unset, .unset] [(.int (p1 &&& (1 : Int32)))])) _
    exact kt)
  by_cases hd0 : (p1 &&& (1 : Int32)) = (0 : Int32)
  · skip
    obtain ⟨T2, X2, e2, st2⟩ := getS2 X0 hx hZ hown (host := "") (Or.inl (hw _ (List.mem_of_getElem? (i := 0) rfl))) Via.refl e0 (S_w_MONTH.ext O0.2) (g := (mkF m 22 #[.val (.int p1), .val (.int p2), .val (.int p3), .val (.int (0 : Int32)), .unset, .unset, .unset, .unset, .unset, .unset, .unset] [])) rfl (hb hby at_22)
    have c3 : ∀ t, Steps p.tables e below (T2.setTop (mkF m 53 #[.val (.int p1), .val (.int p2), .val (.int p3), .val (.int (0 : Int32)), .val (.ref w_MONTH), .val (.int ((1 : Int32) + ((p2 &&& (2147483647 : Int32)) % (11 : Int32)))), .val (.int (p3 &&& (3 : Int32))), .unset, .unset, .unset, .unset] [(.int (p3 &&& (3 : Int32)))])) t → Steps p.tables e below (s₁.setTop (entryFrame m #[(.int p1), (.int p2), (.int p3)] maxLocals)) t := fun t kt => c1 _ (by
      show Steps p.tables e below (s₁.setTop (mkF m 3 #[.val (.int p1), .val (.int p2), .val (.int p3), .unset, .unset, .unset, .unset, .unset, .unset, .unset, .unset] [(.int (p1 &&& (1 : Int32)))])) _
      refine XS.ifYes X0.here hx rfl (pc0 := 3) (pc' := 10) rfl (hb hby at_3) rfl ((if0 _ _).trans (teq hd0).1) (by decide) (by decide) ?_
      show Steps p.tables e below (s₁.setTop (mkF m 10 #[.val (.int p1), .val (.int p2), .val (.int p3), .unset, .unset, .unset, .unset, .unset, .unset, .unset, .unset] [])) _
      refine XS.iconst X0.here hx rfl (hb hby at_10) ?_
      show Steps p.tables e below (s₁.setTop (mkF m 11 #[.val (.int p1), .val (.int p2), .val (.int p3), .unset, .unset, .unset, .unset, .unset, .unset, .unset, .unset] [(.int (0 : Int32))])) _
      refine XS.istoreN X0.here hx rfl (hb hby at_11) rfl (l' := #[.val (.int p1), .val (.int p2), .val (.int p3), .val (.int (0 : Int32)), .unset, .unset, .unset, .unset, .unset, .unset, .unset]) rfl ?_
      show Steps p.tables e below (s₁.setTop (mkF m 12 #[.val (.int p1), .val (.int p2), .val (.int p3), .val (.int (0 : Int32)), .unset, .unset, .unset, .unset, .unset, .unset, .unset] [])) _
      refine XS.iloadN X0.here hx rfl (hb hby at_12) rfl ?_
      show Steps p.tables e below (s₁.setTop (mkF m 13 #[.val (.int p1), .val (.int p2), .val (.int p3), .val (.int (0 : Int32)), .unset, .unset, .unset, .unset, .unset, .unset, .unset] [(.int (0 : Int32))])) _
      refine XS.ifYes X0.here hx rfl (pc0 := 13) (pc' := 22) rfl (hb hby at_13) rfl ((if0 _ _).trans (teq (by decide : (0 : Int32) = (0 : Int32))).1) (by decide) (by decide) ?_
      show Steps p.tables e below (s₁.setTop (mkF m 22 #[.val (.int p1), .val (.int p2), .val (.int p3), .val (.int (0 : Int32)), .unset, .unset, .unset, .unset, .unset, .unset, .unset] [])) _
      refine st2 _ ?_
      show Steps p.tables e below (T2.setTop (mkF m 25 #[.val (.int p1), .val (.int p2), .val (.int p3), .val (.int (0 : Int32)), .unset, .unset, .unset, .unset, .unset, .unset, .unset] [(.ref w_MONTH)])) _
      refine XS.astore X2.here hx rfl (hb hby at_25) rfl rfl (l' := #[.val (.int p1), .val (.int p2), .val (.int p3), .val (.int (0 : Int32)), .val (.ref w_MONTH), .unset, .unset, .unset, .unset, .unset, .unset]) rfl ?_
      show Steps p.tables e below (T2.setTop (mkF m 27 #[.val (.int p1), .val (.int p2), .val (.int p3), .val (.int (0 : Int32)), .val (.ref w_MONTH), .unset, .unset, .unset, .unset, .unset, .unset] [])) _
      refine XS.iconst X2.here hx rfl (hb hby at_27) ?_
      show Steps p.tables e below (T2.setTop (mkF m 28 #[.val (.int p1), .val (.int p2), .val (.int p3), .val (.int (0 : Int32)), .val (.ref w_MONTH), .unset, .unset, .unset, .unset, .unset, .unset] [(.int (1 : Int32))])) _
      refine XS.iloadN X2.here hx rfl (hb hby at_28) rfl ?_
      show Steps p.tables e below (T2.setTop (mkF m 29 #[.val (.int p1), .val (.int p2), .val (.int p3), .val (.int (0 : Int32)), .val (.ref w_MONTH), .unset, .unset, .unset, .unset, .unset, .unset] [(.int p2), (.int (1 : Int32))])) _
      refine X2.ldcInt hx hown (mvT hZ (hw _ (List.mem_of_getElem? (i := 3) rfl))) (g := (mkF m 29 #[.val (.int p1), .val (.int p2), .val (.int p3), .val (.int (0 : Int32)), .val (.ref w_MONTH), .unset, .unset, .unset, .unset, .unset, .unset] [(.int p2), (.int (1 : Int32))])) rfl (hb hby at_29) _ ?_
      show Steps p.tables e below (T2.setTop (mkF m 31 #[.val (.int p1), .val (.int p2), .val (.int p3), .val (.int (0 : Int32)), .val (.ref w_MONTH), .unset, .unset, .unset, .unset, .unset, .unset] [(.int (2147483647 : Int32)), (.int p2), (.int (1 : Int32))])) _
      refine XS.iand X2.here hx rfl (hb hby at_31) rfl ?_
      show Steps p.tables e below (T2.setTop (mkF m 32 #[.val (.int p1), .val (.int p2), .val (.int p3), .val (.int (0 : Int32)), .val (.ref w_MONTH), .unset, .unset, .unset, .unset, .unset, .unset] [(.int (p2 &&& (2147483647 : Int32))), (.int (1 : Int32))])) _
      refine XS.iloadN X2.here hx rfl (hb hby at_32) rfl ?_
      show Steps p.tables e below (T2.setTop (mkF m 33 #[.val (.int p1), .val (.int p2), .val (.int p3), .val (.int (0 : Int32)), .val (.ref w_MONTH), .unset, .unset, .unset, .unset, .unset, .unset] [(.int (0 : Int32)), (.int (p2 &&& (2147483647 : Int32))), (.int (1 : Int32))])) _
      refine XS.ifYes X2.here hx rfl (pc0 := 33) (pc' := 40) rfl (hb hby at_33) rfl ((if0 _ _).trans (teq (by decide : (0 : Int32) = (0 : Int32))).1) (by decide) (by decide) ?_
      show Steps p.tables e below (T2.setTop (mkF m 40 #[.val (.int p1), .val (.int p2), .val (.int p3), .val (.int (0 : Int32)), .val (.ref w_MONTH), .unset, .unset, .unset, .unset, .unset, .unset] [(.int (p2 &&& (2147483647 : Int32))), (.int (1 : Int32))])) _
      refine XS.bipush X2.here hx rfl (hb hby at_40) ?_
      show Steps p.tables e below (T2.setTop (mkF m 42 #[.val (.int p1), .val (.int p2), .val (.int p3), .val (.int (0 : Int32)), .val (.ref w_MONTH), .unset, .unset, .unset, .unset, .unset, .unset] [(.int (11 : Int32)), (.int (p2 &&& (2147483647 : Int32))), (.int (1 : Int32))])) _
      refine iremM X2 hx rfl (hb hby at_42) rfl (by decide) ?_
      show Steps p.tables e below (T2.setTop (mkF m 43 #[.val (.int p1), .val (.int p2), .val (.int p3), .val (.int (0 : Int32)), .val (.ref w_MONTH), .unset, .unset, .unset, .unset, .unset, .unset] [(.int ((p2 &&& (2147483647 : Int32)) % (11 : Int32))), (.int (1 : Int32))])) _
      refine XS.iadd X2.here hx rfl (hb hby at_43) rfl ?_
      show Steps p.tables e below (T2.setTop (mkF m 44 #[.val (.int p1), .val (.int p2), .val (.int p3), .val (.int (0 : Int32)), .val (.ref w_MONTH), .unset, .unset, .unset, .unset, .unset, .unset] [(.int ((1 : Int32) + ((p2 &&& (2147483647 : Int32)) % (11 : Int32))))])) _
      refine XS.istore X2.here hx rfl (hb hby at_44) rfl (l' := #[.val (.int p1), .val (.int p2), .val (.int p3), .val (.int (0 : Int32)), .val (.ref w_MONTH), .val (.int ((1 : Int32) + ((p2 &&& (2147483647 : Int32)) % (11 : Int32)))), .unset, .unset, .unset, .unset, .unset]) rfl ?_
      show Steps p.tables e below (T2.setTop (mkF m 46 #[.val (.int p1), .val (.int p2), .val (.int p3), .val (.int (0 : Int32)), .val (.ref w_MONTH), .val (.int ((1 : Int32) + ((p2 &&& (2147483647 : Int32)) % (11 : Int32)))), .unset, .unset, .unset, .unset, .unset] [])) _
      refine XS.iloadN X2.here hx rfl (hb hby at_46) rfl ?_
      show Steps p.tables e below (T2.setTop (mkF m 47 #[.val (.int p1), .val (.int p2), .val (.int p3), .val (.int (0 : Int32)), .val (.ref w_MONTH), .val (.int ((1 : Int32) + ((p2 &&& (2147483647 : Int32)) % (11 : Int32)))), .unset, .unset, .unset, .unset, .unset] [(.int p3)])) _
      refine XS.iconst X2.here hx rfl (hb hby at_47) ?_
      show Steps p.tables e below (T2.setTop (mkF m 48 #[.val (.int p1), .val (.int p2), .val (.int p3), .val (.int (0 : Int32)), .val (.ref w_MONTH), .val (.int ((1 : Int32) + ((p2 &&& (2147483647 : Int32)) % (11 : Int32)))), .unset, .unset, .unset, .unset, .unset] [(.int (3 : Int32)), (.int p3)])) _
      refine XS.iand X2.here hx rfl (hb hby at_48) rfl ?_
      show Steps p.tables e below (T2.setTop (mkF m 49 #[.val (.int p1), .val (.int p2), .val (.int p3), .val (.int (0 : Int32)), .val (.ref w_MONTH), .val (.int ((1 : Int32) + ((p2 &&& (2147483647 : Int32)) % (11 : Int32)))), .unset, .unset, .unset, .unset, .unset] [(.int (p3 &&& (3 : Int32)))])) _
      refine XS.istore X2.here hx rfl (hb hby at_49) rfl (l' := #[.val (.int p1), .val (.int p2), .val (.int p3), .val (.int (0 : Int32)), .val (.ref w_MONTH), .val (.int ((1 : Int32) + ((p2 &&& (2147483647 : Int32)) % (11 : Int32)))), .val (.int (p3 &&& (3 : Int32))), .unset, .unset, .unset, .unset]) rfl ?_
      show Steps p.tables e below (T2.setTop (mkF m 51 #[.val (.int p1), .val (.int p2), .val (.int p3), .val (.int (0 : Int32)), .val (.ref w_MONTH), .val (.int ((1 : Int32) + ((p2 &&& (2147483647 : Int32)) % (11 : Int32)))), .val (.int (p3 &&& (3 : Int32))), .unset, .unset, .unset, .unset] [])) _
      refine XS.iload X2.here hx rfl (hb hby at_51) rfl ?_
      show Steps p.tables e below (T2.setTop (mkF m 53 #[.val (.int p1), .val (.int p2), .val (.int p3), .val (.int (0 : Int32)), .val (.ref w_MONTH), .val (.int ((1 : Int32) + ((p2 &&& (2147483647 : Int32)) % (11 : Int32)))), .val (.int (p3 &&& (3 : Int32))), .unset, .unset, .unset, .unset] [(.int (p3 &&& (3 : Int32)))])) _
      exact kt)
    by_cases hd1 : (p3 &&& (3 : Int32)) = (0 : Int32)
    · skip
      obtain ⟨T4, X4, e4, st4⟩ := getS2 X2 hx hZ hown (host := "") (Or.inl (hw _ (List.mem_of_getElem? (i := 0) rfl))) Via.refl e2 (S_w_MONTH.ext O0.2) (g := (mkF m 56 #[.val (.int p1), .val (.int p2), .val (.int p3), .val (.int (0 : Int32)), .val (.ref w_MONTH), .val (.int ((1 : Int32) + ((p2 &&& (2147483647 : Int32)) % (11 : Int32)))), .val (.int (p3 &&& (3 : Int32))), .unset, .unset, .unset, .unset] [])) rfl (hb hby at_56)
      obtain ⟨T5, h5, X5, e5, E5, A5, D5, -, st5⟩ := newO X4 hx hZ hown (hw _ (List.mem_of_getElem? (i := 4) rfl)) (hw _ (List.mem_of_getElem? (i := 5) rfl)) (hw _ (List.mem_of_getElem? (i := 6) rfl)) e4 (g := (mkF m 77 #[.val (.int p1), .val (.int p2), .val (.int p3), .val (.int (0 : Int32)), .val (.ref w_MONTH), .val (.int ((1 : Int32) + ((p2 &&& (2147483647 : Int32)) % (11 : Int32)))), .val (.int (p3 &&& (3 : Int32))), .val (.ref w_MONTH), .unset, .unset, .unset] [])) rfl (hb hby at_77) (by decide) (by decide)
      obtain ⟨b5, gg5⟩ : ∃ z, z = h0.size := ⟨_, rfl⟩
      rw [← gg5] at A5 D5 st5
      have bo_b5 : h0.size ≤ b5 := Nat.le_of_eq gg5.symm
      have g_b5 : n0 ≤ b5 := Nat.le_trans (own_n0 O0) bo_b5
      have O5 := O0.ext E5
      have F_length_b5 : Fld Z h5 b5 "com/example/metered_billing/meteredbilling/plan/Term" "length" "I" (.int (0 : Int32)) := D5 (Or.inr (hw _ (List.mem_of_getElem? (i := 21) rfl))) (ty := .int) (by decide)
      have F_unit_b5 : Fld Z h5 b5 "com/example/metered_billing/meteredbilling/plan/Term" "unit" "Lcom/example/metered_billing/meteredbilling/plan/Term$Unit;" .null := D5 (Or.inr (hw _ (List.mem_of_getElem? (i := 23) rfl))) (ty := (.object "com/example/metered_billing/meteredbilling/plan/Term$Unit")) (by decide)
      obtain ⟨_, _, ⟨T6, L6, k6, n6⟩, -, X6, ⟨Lc6, hQ6, l6, y6, z6⟩, st6⟩ := X5.specialBack hx (y := (⟨"com/example/metered_billing/meteredbilling/plan/Term", "<init>", "(ILcom/example/metered_billing/meteredbilling/plan/Term$Unit;)V"⟩ : MethodName)) rfl hown (mvT hZ (hw _ (List.mem_of_getElem? (i := 7) rfl))) (mvT hZ (hw _ (List.mem_of_getElem? (i := 8) rfl))) (mvT hZ (hw _ (List.mem_of_getElem? (i := 9) rfl))) (by decide) (backOf (W := 1) (rm1_1 l Z a0 hw [] w_MONTH w_YEAR w_cache cl_w_cache b5 ((1 : Int32) + ((p2 &&& (2147483647 : Int32)) % (11 : Int32))) h5 n0 (own_n0 O5) O5 HW A5 F_length_b5 F_unit_b5 g_b5 (own_lo11 p2) (own_hi11 p2)) hZ (hw _ (List.mem_of_getElem? (i := 9) rfl)) (hw _ (List.mem_of_getElem? (i := 6) rfl)) (by decide) (by decide)) (g := (mkF m 85 #[.val (.int p1), .val (.int p2), .val (.int p3), .val (.int (0 : Int32)), .val (.ref w_MONTH), .val (.int ((1 : Int32) + ((p2 &&& (2147483647 : Int32)) % (11 : Int32)))), .val (.int (p3 &&& (3 : Int32))), .val (.ref w_MONTH), .unset, .unset, .unset] [(.ref w_MONTH), (.int ((1 : Int32) + ((p2 &&& (2147483647 : Int32)) % (11 : Int32)))), (.ref b5), (.ref b5)])) rfl (by rw [hml]; rfl) (Steps.refl _) (a := b5) (argsL := [(.int ((1 : Int32) + ((p2 &&& (2147483647 : Int32)) % (11 : Int32)))), (.ref w_MONTH)]) (rest := [(.ref b5)]) (lenOf pd27 rfl) rfl (by show 2 * 0 + _ ≤ _; exact Nat.le_of_eq rfl) (hb hby at_85) (fun _ _ => ⟨rfl, e5, (by decide : 1 + 0 ≤ _), (by decide : 2 + 0 ≤ _)⟩)
      dsimp only [Pt.U, Pt.locs, Pt.cells, Pt.slots] at X6 l6 y6 z6 st6 hQ6
      subst l6 y6 z6
      obtain ⟨rfl, N6q, K6, O6, pf6_0, pf6_1, pf6_2, -⟩ := hQ6
      have N6 := Fr.app N0 N6q
      obtain ⟨cq7, kq7, q7a, q7b, q7c⟩ := isOf hZ rfl pf6_0
      obtain ⟨_, _, ⟨T7, L7, k7, n7⟩, -, X7, ⟨Lc7, hQ7, l7, y7, z7⟩, st7⟩ := X6.virtualBack hx (y := (⟨"com/example/metered_billing/meteredbilling/plan/Term", "lengthIn", "(Lcom/example/metered_billing/meteredbilling/plan/Term$Unit;)Ljava/lang/Integer;"⟩ : MethodName)) (z := (⟨"com/example/metered_billing/meteredbilling/plan/Term", "lengthIn", "(Lcom/example/metered_billing/meteredbilling/plan/Term$Unit;)Ljava/lang/Integer;"⟩ : MethodName)) hown (mvT hZ (hw _ (List.mem_of_getElem? (i := 24) rfl))) (mvT hZ (hw _ (List.mem_of_getElem? (i := 25) rfl))) (notFace_of_selects (args := #[]) (mvT hZ (hw _ (List.mem_of_getElem? (i := 27) rfl)))) (mvT hZ (hw _ (List.mem_of_getElem? (i := 27) rfl))) (mvT hZ (hw _ (List.mem_of_getElem? (i := 26) rfl))) (by decide) (backOf (W := 0) (rm4_3 l Z a0 hw [] w_MONTH w_YEAR w_cache cl_w_cache b5 ((1 : Int32) + ((p2 &&& (2147483647 : Int32)) % (11 : Int32))) T6.heap n0 (own_n0 O6) O6 HW pf6_0 pf6_1 pf6_2 (own_lq11 p2) (own_hq11 p2)) hZ (hw _ (List.mem_of_getElem? (i := 28) rfl)) (hw _ (List.mem_of_getElem? (i := 6) rfl)) (by decide) (by decide)) q7a q7c (g := (mkF m 94 #[.val (.int p1), .val (.int p2), .val (.int p3), .val (.int (0 : Int32)), .val (.ref w_MONTH), .val (.int ((1 : Int32) + ((p2 &&& (2147483647 : Int32)) % (11 : Int32)))), .val (.int (p3 &&& (3 : Int32))), .val (.ref w_MONTH), .val (.ref b5), .unset, .unset] [(.ref w_MONTH), (.ref b5)])) rfl (by rw [hml]; rfl) (Steps.refl _) (argsL := [(.ref w_MONTH)]) (rest := []) (lenOf pd55 rfl) rfl (by show 2 * 0 + _ ≤ _; exact Nat.le_of_eq rfl) (hb hby at_94) (fun _ _ => ⟨rfl, rfl, (by decide : 1 + 0 ≤ _), (by decide : 2 + 0 ≤ _)⟩)
      dsimp only [Pt.U, Pt.locs, Pt.cells, Pt.slots] at X7 l7 y7 z7 st7 hQ7
      subst l7 y7 z7
      obtain ⟨o7_0, rfl, N7q, e7, of7_0, of7_1⟩ := hQ7
      have N7 := Fr.app N6 N7q
      obtain ⟨cq8, kq8, q8a, q8b, q8c⟩ := isOf hZ e7 (of7_0.ext O6.2)
      obtain ⟨_, _, ⟨T8, L8, k8, n8⟩, -, X8, ⟨Lc8, hQ8, l8, y8, z8⟩, st8⟩ := X7.virtualBack hx (y := (⟨"java/lang/Integer", "intValue", "()I"⟩ : MethodName)) (z := (⟨"java/lang/Integer", "intValue", "()I"⟩ : MethodName)) hown (mvT hZ (hw _ (List.mem_of_getElem? (i := 38) rfl))) (mvT hZ (hw _ (List.mem_of_getElem? (i := 39) rfl))) (notFace_of_selects (args := #[]) (mvT hZ (hw _ (List.mem_of_getElem? (i := 41) rfl)))) (mvT hZ (hw _ (List.mem_of_getElem? (i := 41) rfl))) (mvT hZ (hw _ (List.mem_of_getElem? (i := 40) rfl))) (by decide) (backOf (W := 0) (rm6_4 l Z a0 hw [] w_MONTH w_YEAR w_cache cl_w_cache o7_0 ((1 : Int32) + ((p2 &&& (2147483647 : Int32)) % (11 : Int32))) T6.heap n0 (own_n0 O6) O6 HW (of7_0.ext O6.2) (of7_1.ext O6.2)) hZ (hw _ (List.mem_of_getElem? (i := 42) rfl)) (hw _ (List.mem_of_getElem? (i := 33) rfl)) (by decide) (by decide)) q8a q8c (g := (mkF m 137 #[.val (.int p1), .val (.int p2), .val (.int p3), .val (.int (0 : Int32)), .val (.ref w_MONTH), .val (.int ((1 : Int32) + ((p2 &&& (2147483647 : Int32)) % (11 : Int32)))), .val (.int (p3 &&& (3 : Int32))), .val (.ref w_MONTH), .val (.ref b5), .val (.ref o7_0), .val (.int (1 : Int32))] [(.ref o7_0)])) rfl (by rw [hml]; rfl) (Steps.refl _) (argsL := []) (rest := []) (lenOf pd61 rfl) rfl (by show 2 * 0 + _ ≤ _; exact Nat.le_of_eq rfl) (hb hby at_137) (fun _ _ => ⟨rfl, e7, (by decide : 1 + 0 ≤ _), (by decide : 2 + 0 ≤ _)⟩)
      dsimp only [Pt.U, Pt.locs, Pt.cells, Pt.slots] at X8 l8 y8 z8 st8 hQ8
      subst l8 y8 z8
      obtain ⟨rfl, N8q, e8⟩ := hQ8
      have N8 := Fr.app N7 N8q
      obtain ⟨fs, hr, hrun, hended, hW, hsame⟩ := X8.leave (v := some (.int (1 : Int32))) (fun h => by rw [Bd.returns] at h; cases h)
      refine ⟨_, _, c3 _ ?_, hrun, hended, _, _, rfl, ?_, ⟨_, rfl⟩, hW, hsame.mono (by decide) (by decide)⟩
      · show Steps p.tables e below (T2.setTop (mkF m 53 #[.val (.int p1), .val (.int p2), .val (.int p3), .val (.int (0 : Int32)), .val (.ref w_MONTH), .val (.int ((1 : Int32) + ((p2 &&& (2147483647 : Int32)) % (11 : Int32)))), .val (.int (p3 &&& (3 : Int32))), .unset, .unset, .unset, .unset] [(.int (p3 &&& (3 : Int32)))])) _
        refine XS.ifNo X2.here hx rfl (hb hby at_53) rfl ((if0 _ _).trans (teq hd1).2) ?_
        show Steps p.tables e below (T2.setTop (mkF m 56 #[.val (.int p1), .val (.int p2), .val (.int p3), .val (.int (0 : Int32)), .val (.ref w_MONTH), .val (.int ((1 : Int32) + ((p2 &&& (2147483647 : Int32)) % (11 : Int32)))), .val (.int (p3 &&& (3 : Int32))), .unset, .unset, .unset, .unset] [])) _
        refine st4 _ ?_
        show Steps p.tables e below (T4.setTop (mkF m 59 #[.val (.int p1), .val (.int p2), .val (.int p3), .val (.int (0 : Int32)), .val (.ref w_MONTH), .val (.int ((1 : Int32) + ((p2 &&& (2147483647 : Int32)) % (11 : Int32)))), .val (.int (p3 &&& (3 : Int32))), .unset, .unset, .unset, .unset] [(.ref w_MONTH)])) _
        refine XS.goto X4.here hx rfl (pc0 := 59) (pc' := 75) rfl (hb hby at_59) (by decide) (by decide) ?_
        show Steps p.tables e below (T4.setTop (mkF m 75 #[.val (.int p1), .val (.int p2), .val (.int p3), .val (.int (0 : Int32)), .val (.ref w_MONTH), .val (.int ((1 : Int32) + ((p2 &&& (2147483647 : Int32)) % (11 : Int32)))), .val (.int (p3 &&& (3 : Int32))), .unset, .unset, .unset, .unset] [(.ref w_MONTH)])) _
        refine XS.astore X4.here hx rfl (hb hby at_75) rfl rfl (l' := #[.val (.int p1), .val (.int p2), .val (.int p3), .val (.int (0 : Int32)), .val (.ref w_MONTH), .val (.int ((1 : Int32) + ((p2 &&& (2147483647 : Int32)) % (11 : Int32)))), .val (.int (p3 &&& (3 : Int32))), .val (.ref w_MONTH), .unset, .unset, .unset]) rfl ?_
        show Steps p.tables e below (T4.setTop (mkF m 77 #[.val (.int p1), .val (.int p2), .val (.int p3), .val (.int (0 : Int32)), .val (.ref w_MONTH), .val (.int ((1 : Int32) + ((p2 &&& (2147483647 : Int32)) % (11 : Int32)))), .val (.int (p3 &&& (3 : Int32))), .val (.ref w_MONTH), .unset, .unset, .unset] [])) _
        refine st5 _ ?_
        show Steps p.tables e below (T5.setTop (mkF m 80 #[.val (.int p1), .val (.int p2), .val (.int p3), .val (.int (0 : Int32)), .val (.ref w_MONTH), .val (.int ((1 : Int32) + ((p2 &&& (2147483647 : Int32)) % (11 : Int32)))), .val (.int (p3 &&& (3 : Int32))), .val (.ref w_MONTH), .unset, .unset, .unset] [(.ref b5)])) _
        refine XS.dup X5.here hx rfl (hb hby at_80) rfl rfl ?_
        show Steps p.tables e below (T5.setTop (mkF m 81 #[.val (.int p1), .val (.int p2), .val (.int p3), .val (.int (0 : Int32)), .val (.ref w_MONTH), .val (.int ((1 : Int32) + ((p2 &&& (2147483647 : Int32)) % (11 : Int32)))), .val (.int (p3 &&& (3 : Int32))), .val (.ref w_MONTH), .unset, .unset, .unset] [(.ref b5), (.ref b5)])) _
        refine XS.iload X5.here hx rfl (hb hby at_81) rfl ?_
        show Steps p.tables e below (T5.setTop (mkF m 83 #[.val (.int p1), .val (.int p2), .val (.int p3), .val (.int (0 : Int32)), .val (.ref w_MONTH), .val (.int ((1 : Int32) + ((p2 &&& (2147483647 : Int32)) % (11 : Int32)))), .val (.int (p3 &&& (3 : Int32))), .val (.ref w_MONTH), .unset, .unset, .unset] [(.int ((1 : Int32) + ((p2 &&& (2147483647 : Int32)) % (11 : Int32)))), (.ref b5), (.ref b5)])) _
        refine XS.aload X5.here hx rfl (hb hby at_83) rfl rfl ?_
        show Steps p.tables e below (T5.setTop (mkF m 85 #[.val (.int p1), .val (.int p2), .val (.int p3), .val (.int (0 : Int32)), .val (.ref w_MONTH), .val (.int ((1 : Int32) + ((p2 &&& (2147483647 : Int32)) % (11 : Int32)))), .val (.int (p3 &&& (3 : Int32))), .val (.ref w_MONTH), .unset, .unset, .unset] [(.ref w_MONTH), (.int ((1 : Int32) + ((p2 &&& (2147483647 : Int32)) % (11 : Int32)))), (.ref b5), (.ref b5)])) _
        refine st6.trans ?_
        show Steps p.tables e below (T6.setTop (mkF m 88 #[.val (.int p1), .val (.int p2), .val (.int p3), .val (.int (0 : Int32)), .val (.ref w_MONTH), .val (.int ((1 : Int32) + ((p2 &&& (2147483647 : Int32)) % (11 : Int32)))), .val (.int (p3 &&& (3 : Int32))), .val (.ref w_MONTH), .unset, .unset, .unset] [(.ref b5)])) _
        refine XS.astore X6.here hx rfl (hb hby at_88) rfl rfl (l' := #[.val (.int p1), .val (.int p2), .val (.int p3), .val (.int (0 : Int32)), .val (.ref w_MONTH), .val (.int ((1 : Int32) + ((p2 &&& (2147483647 : Int32)) % (11 : Int32)))), .val (.int (p3 &&& (3 : Int32))), .val (.ref w_MONTH), .val (.ref b5), .unset, .unset]) rfl ?_
        show Steps p.tables e below (T6.setTop (mkF m 90 #[.val (.int p1), .val (.int p2), .val (.int p3), .val (.int (0 : Int32)), .val (.ref w_MONTH), .val (.int ((1 : Int32) + ((p2 &&& (2147483647 : Int32)) % (11 : Int32)))), .val (.int (p3 &&& (3 : Int32))), .val (.ref w_MONTH), .val (.ref b5), .unset, .unset] [])) _
        refine XS.aload X6.here hx rfl (hb hby at_90) rfl rfl ?_
        show Steps p.tables e below (T6.setTop (mkF m 92 #[.val (.int p1), .val (.int p2), .val (.int p3), .val (.int (0 : Int32)), .val (.ref w_MONTH), .val (.int ((1 : Int32) + ((p2 &&& (2147483647 : Int32)) % (11 : Int32)))), .val (.int (p3 &&& (3 : Int32))), .val (.ref w_MONTH), .val (.ref b5), .unset, .unset] [(.ref b5)])) _
        refine XS.aload X6.here hx rfl (hb hby at_92) rfl rfl ?_
        show Steps p.tables e below (T6.setTop (mkF m 94 #[.val (.int p1), .val (.int p2), .val (.int p3), .val (.int (0 : Int32)), .val (.ref w_MONTH), .val (.int ((1 : Int32) + ((p2 &&& (2147483647 : Int32)) % (11 : Int32)))), .val (.int (p3 &&& (3 : Int32))), .val (.ref w_MONTH), .val (.ref b5), .unset, .unset] [(.ref w_MONTH), (.ref b5)])) _
        refine st7.trans ?_
        show Steps p.tables e below (T7.setTop (mkF m 97 #[.val (.int p1), .val (.int p2), .val (.int p3), .val (.int (0 : Int32)), .val (.ref w_MONTH), .val (.int ((1 : Int32) + ((p2 &&& (2147483647 : Int32)) % (11 : Int32)))), .val (.int (p3 &&& (3 : Int32))), .val (.ref w_MONTH), .val (.ref b5), .unset, .unset] [(.ref o7_0)])) _
        refine XS.astore X7.here hx rfl (hb hby at_97) rfl rfl (l' := #[.val (.int p1), .val (.int p2), .val (.int p3), .val (.int (0 : Int32)), .val (.ref w_MONTH), .val (.int ((1 : Int32) + ((p2 &&& (2147483647 : Int32)) % (11 : Int32)))), .val (.int (p3 &&& (3 : Int32))), .val (.ref w_MONTH), .val (.ref b5), .val (.ref o7_0), .unset]) rfl ?_
        show Steps p.tables e below (T7.setTop (mkF m 99 #[.val (.int p1), .val (.int p2), .val (.int p3), .val (.int (0 : Int32)), .val (.ref w_MONTH), .val (.int ((1 : Int32) + ((p2 &&& (2147483647 : Int32)) % (11 : Int32)))), .val (.int (p3 &&& (3 : Int32))), .val (.ref w_MONTH), .val (.ref b5), .val (.ref o7_0), .unset] [])) _
        refine XS.iload X7.here hx rfl (hb hby at_99) rfl ?_
        show Steps p.tables e below (T7.setTop (mkF m 101 #[.val (.int p1), .val (.int p2), .val (.int p3), .val (.int (0 : Int32)), .val (.ref w_MONTH), .val (.int ((1 : Int32) + ((p2 &&& (2147483647 : Int32)) % (11 : Int32)))), .val (.int (p3 &&& (3 : Int32))), .val (.ref w_MONTH), .val (.ref b5), .val (.ref o7_0), .unset] [(.int (p3 &&& (3 : Int32)))])) _
        refine XS.ifNo X7.here hx rfl (hb hby at_101) rfl ((if0 _ _).trans (teq hd1).2) ?_
        show Steps p.tables e below (T7.setTop (mkF m 104 #[.val (.int p1), .val (.int p2), .val (.int p3), .val (.int (0 : Int32)), .val (.ref w_MONTH), .val (.int ((1 : Int32) + ((p2 &&& (2147483647 : Int32)) % (11 : Int32)))), .val (.int (p3 &&& (3 : Int32))), .val (.ref w_MONTH), .val (.ref b5), .val (.ref o7_0), .unset] [])) _
        refine XS.iloadN X7.here hx rfl (hb hby at_104) rfl ?_
        show Steps p.tables e below (T7.setTop (mkF m 105 #[.val (.int p1), .val (.int p2), .val (.int p3), .val (.int (0 : Int32)), .val (.ref w_MONTH), .val (.int ((1 : Int32) + ((p2 &&& (2147483647 : Int32)) % (11 : Int32)))), .val (.int (p3 &&& (3 : Int32))), .val (.ref w_MONTH), .val (.ref b5), .val (.ref o7_0), .unset] [(.int (0 : Int32))])) _
        refine XS.ifYes X7.here hx rfl (pc0 := 105) (pc' := 118) rfl (hb hby at_105) rfl ((if0 _ _).trans (teq (by decide : (0 : Int32) = (0 : Int32))).1) (by decide) (by decide) ?_
        show Steps p.tables e below (T7.setTop (mkF m 118 #[.val (.int p1), .val (.int p2), .val (.int p3), .val (.int (0 : Int32)), .val (.ref w_MONTH), .val (.int ((1 : Int32) + ((p2 &&& (2147483647 : Int32)) % (11 : Int32)))), .val (.int (p3 &&& (3 : Int32))), .val (.ref w_MONTH), .val (.ref b5), .val (.ref o7_0), .unset] [])) _
        refine XS.iconst X7.here hx rfl (hb hby at_118) ?_
        show Steps p.tables e below (T7.setTop (mkF m 119 #[.val (.int p1), .val (.int p2), .val (.int p3), .val (.int (0 : Int32)), .val (.ref w_MONTH), .val (.int ((1 : Int32) + ((p2 &&& (2147483647 : Int32)) % (11 : Int32)))), .val (.int (p3 &&& (3 : Int32))), .val (.ref w_MONTH), .val (.ref b5), .val (.ref o7_0), .unset] [(.int (1 : Int32))])) _
        refine XS.goto X7.here hx rfl (pc0 := 119) (pc' := 123) rfl (hb hby at_119) (by decide) (by decide) ?_
        show Steps p.tables e below (T7.setTop (mkF m 123 #[.val (.int p1), .val (.int p2), .val (.int p3), .val (.int (0 : Int32)), .val (.ref w_MONTH), .val (.int ((1 : Int32) + ((p2 &&& (2147483647 : Int32)) % (11 : Int32)))), .val (.int (p3 &&& (3 : Int32))), .val (.ref w_MONTH), .val (.ref b5), .val (.ref o7_0), .unset] [(.int (1 : Int32))])) _
        refine XS.istore X7.here hx rfl (hb hby at_123) rfl (l' := #[.val (.int p1), .val (.int p2), .val (.int p3), .val (.int (0 : Int32)), .val (.ref w_MONTH), .val (.int ((1 : Int32) + ((p2 &&& (2147483647 : Int32)) % (11 : Int32)))), .val (.int (p3 &&& (3 : Int32))), .val (.ref w_MONTH), .val (.ref b5), .val (.ref o7_0), .val (.int (1 : Int32))]) rfl ?_
        show Steps p.tables e below (T7.setTop (mkF m 125 #[.val (.int p1), .val (.int p2), .val (.int p3), .val (.int (0 : Int32)), .val (.ref w_MONTH), .val (.int ((1 : Int32) + ((p2 &&& (2147483647 : Int32)) % (11 : Int32)))), .val (.int (p3 &&& (3 : Int32))), .val (.ref w_MONTH), .val (.ref b5), .val (.ref o7_0), .val (.int (1 : Int32))] [])) _
        refine XS.iload X7.here hx rfl (hb hby at_125) rfl ?_
        show Steps p.tables e below (T7.setTop (mkF m 127 #[.val (.int p1), .val (.int p2), .val (.int p3), .val (.int (0 : Int32)), .val (.ref w_MONTH), .val (.int ((1 : Int32) + ((p2 &&& (2147483647 : Int32)) % (11 : Int32)))), .val (.int (p3 &&& (3 : Int32))), .val (.ref w_MONTH), .val (.ref b5), .val (.ref o7_0), .val (.int (1 : Int32))] [(.int (1 : Int32))])) _
        refine XS.ifNo X7.here hx rfl (hb hby at_127) rfl ((if0 _ _).trans (feq (by decide : ¬ ((1 : Int32) = (0 : Int32)))).1) ?_
        show Steps p.tables e below (T7.setTop (mkF m 130 #[.val (.int p1), .val (.int p2), .val (.int p3), .val (.int (0 : Int32)), .val (.ref w_MONTH), .val (.int ((1 : Int32) + ((p2 &&& (2147483647 : Int32)) % (11 : Int32)))), .val (.int (p3 &&& (3 : Int32))), .val (.ref w_MONTH), .val (.ref b5), .val (.ref o7_0), .val (.int (1 : Int32))] [])) _
        refine XS.aload X7.here hx rfl (hb hby at_130) rfl rfl ?_
        show Steps p.tables e below (T7.setTop (mkF m 132 #[.val (.int p1), .val (.int p2), .val (.int p3), .val (.int (0 : Int32)), .val (.ref w_MONTH), .val (.int ((1 : Int32) + ((p2 &&& (2147483647 : Int32)) % (11 : Int32)))), .val (.int (p3 &&& (3 : Int32))), .val (.ref w_MONTH), .val (.ref b5), .val (.ref o7_0), .val (.int (1 : Int32))] [(.ref o7_0)])) _
        refine XS.ifnullNo X7.here hx rfl (hb hby at_132) rfl ?_
        show Steps p.tables e below (T7.setTop (mkF m 135 #[.val (.int p1), .val (.int p2), .val (.int p3), .val (.int (0 : Int32)), .val (.ref w_MONTH), .val (.int ((1 : Int32) + ((p2 &&& (2147483647 : Int32)) % (11 : Int32)))), .val (.int (p3 &&& (3 : Int32))), .val (.ref w_MONTH), .val (.ref b5), .val (.ref o7_0), .val (.int (1 : Int32))] [])) _
        refine XS.aload X7.here hx rfl (hb hby at_135) rfl rfl ?_
        show Steps p.tables e below (T7.setTop (mkF m 137 #[.val (.int p1), .val (.int p2), .val (.int p3), .val (.int (0 : Int32)), .val (.ref w_MONTH), .val (.int ((1 : Int32) + ((p2 &&& (2147483647 : Int32)) % (11 : Int32)))), .val (.int (p3 &&& (3 : Int32))), .val (.ref w_MONTH), .val (.ref b5), .val (.ref o7_0), .val (.int (1 : Int32))] [(.ref o7_0)])) _
        refine st8.trans ?_
        show Steps p.tables e below (T8.setTop (mkF m 140 #[.val (.int p1), .val (.int p2), .val (.int p3), .val (.int (0 : Int32)), .val (.ref w_MONTH), .val (.int ((1 : Int32) + ((p2 &&& (2147483647 : Int32)) % (11 : Int32)))), .val (.int (p3 &&& (3 : Int32))), .val (.ref w_MONTH), .val (.ref b5), .val (.ref o7_0), .val (.int (1 : Int32))] [(.int ((1 : Int32) + ((p2 &&& (2147483647 : Int32)) % (11 : Int32))))])) _
        refine XS.iload X8.here hx rfl (hb hby at_140) rfl ?_
        show Steps p.tables e below (T8.setTop (mkF m 142 #[.val (.int p1), .val (.int p2), .val (.int p3), .val (.int (0 : Int32)), .val (.ref w_MONTH), .val (.int ((1 : Int32) + ((p2 &&& (2147483647 : Int32)) % (11 : Int32)))), .val (.int (p3 &&& (3 : Int32))), .val (.ref w_MONTH), .val (.ref b5), .val (.ref o7_0), .val (.int (1 : Int32))] [(.int ((1 : Int32) + ((p2 &&& (2147483647 : Int32)) % (11 : Int32)))), (.int ((1 : Int32) + ((p2 &&& (2147483647 : Int32)) % (11 : Int32))))])) _
        refine XS.icmpNo X8.here hx rfl (hb hby at_142) rfl (teq (rfl : ((1 : Int32) + ((p2 &&& (2147483647 : Int32)) % (11 : Int32))) = ((1 : Int32) + ((p2 &&& (2147483647 : Int32)) % (11 : Int32))))).2 ?_
        show Steps p.tables e below (T8.setTop (mkF m 145 #[.val (.int p1), .val (.int p2), .val (.int p3), .val (.int (0 : Int32)), .val (.ref w_MONTH), .val (.int ((1 : Int32) + ((p2 &&& (2147483647 : Int32)) % (11 : Int32)))), .val (.int (p3 &&& (3 : Int32))), .val (.ref w_MONTH), .val (.ref b5), .val (.ref o7_0), .val (.int (1 : Int32))] [])) _
        refine XS.iconst X8.here hx rfl (hb hby at_145) ?_
        show Steps p.tables e below (T8.setTop (mkF m 146 #[.val (.int p1), .val (.int p2), .val (.int p3), .val (.int (0 : Int32)), .val (.ref w_MONTH), .val (.int ((1 : Int32) + ((p2 &&& (2147483647 : Int32)) % (11 : Int32)))), .val (.int (p3 &&& (3 : Int32))), .val (.ref w_MONTH), .val (.ref b5), .val (.ref o7_0), .val (.int (1 : Int32))] [(.int (1 : Int32))])) _
        refine XS.goto X8.here hx rfl (pc0 := 146) (pc' := 150) rfl (hb hby at_146) (by decide) (by decide) ?_
        show Steps p.tables e below (T8.setTop (mkF m 150 #[.val (.int p1), .val (.int p2), .val (.int p3), .val (.int (0 : Int32)), .val (.ref w_MONTH), .val (.int ((1 : Int32) + ((p2 &&& (2147483647 : Int32)) % (11 : Int32)))), .val (.int (p3 &&& (3 : Int32))), .val (.ref w_MONTH), .val (.ref b5), .val (.ref o7_0), .val (.int (1 : Int32))] [(.int (1 : Int32))])) _
        exact retN X8 hx (t := .boolean) Bd.returns (by simp) (hb hby at_150) hr
      · exact ⟨rfl, N8⟩
    · skip
      have c4 : ∀ t, Steps p.tables e below (T2.setTop (mkF m 65 #[.val (.int p1), .val (.int p2), .val (.int p3), .val (.int (0 : Int32)), .val (.ref w_MONTH), .val (.int ((1 : Int32) + ((p2 &&& (2147483647 : Int32)) % (11 : Int32)))), .val (.int (p3 &&& (3 : Int32))), .unset, .unset, .unset, .unset] [(.int (1 : Int32)), (.int (p3 &&& (3 : Int32)))])) t → Steps p.tables e below (s₁.setTop (entryFrame m #[(.int p1), (.int p2), (.int p3)] maxLocals)) t := fun t kt => c3 _ (by
        show Steps p.tables e below (T2.setTop (mkF m 53 #[.val (.int p1), .val (.int p2), .val (.int p3), .val (.int (0 : Int32)), .val (.ref w_MONTH), .val (.int ((1 : Int32) + ((p2 &&& (2147483647 : Int32)) % (11 : Int32)))), .val (.int (p3 &&& (3 : Int32))), .unset, .unset, .unset, .unset] [(.int (p3 &&& (3 : Int32)))])) _
        refine XS.ifYes X2.here hx rfl (pc0 := 53) (pc' := 62) rfl (hb hby at_53) rfl ((if0 _ _).trans (feq hd1).2) (by decide) (by decide) ?_
        show Steps p.tables e below (T2.setTop (mkF m 62 #[.val (.int p1), .val (.int p2), .val (.int p3), .val (.int (0 : Int32)), .val (.ref w_MONTH), .val (.int ((1 : Int32) + ((p2 &&& (2147483647 : Int32)) % (11 : Int32)))), .val (.int (p3 &&& (3 : Int32))), .unset, .unset, .unset, .unset] [])) _
        refine XS.iload X2.here hx rfl (hb hby at_62) rfl ?_
        show Steps p.tables e below (T2.setTop (mkF m 64 #[.val (.int p1), .val (.int p2), .val (.int p3), .val (.int (0 : Int32)), .val (.ref w_MONTH), .val (.int ((1 : Int32) + ((p2 &&& (2147483647 : Int32)) % (11 : Int32)))), .val (.int (p3 &&& (3 : Int32))), .unset, .unset, .unset, .unset] [(.int (p3 &&& (3 : Int32)))])) _
        refine XS.iconst X2.here hx rfl (hb hby at_64) ?_
        show Steps p.tables e below (T2.setTop (mkF m 65 #[.val (.int p1), .val (.int p2), .val (.int p3), .val (.int (0 : Int32)), .val (.ref w_MONTH), .val (.int ((1 : Int32) + ((p2 &&& (2147483647 : Int32)) % (11 : Int32)))), .val (.int (p3 &&& (3 : Int32))), .unset, .unset, .unset, .unset] [(.int (1 : Int32)), (.int (p3 &&& (3 : Int32)))])) _
        exact kt)
      by_cases hd2 : (p3 &&& (3 : Int32)) = (1 : Int32)
      · skip
        obtain ⟨T5, X5, e5, st5⟩ := getS2 X2 hx hZ hown (host := "") (Or.inl (hw _ (List.mem_of_getElem? (i := 29) rfl))) Via.refl e2 (S_w_YEAR.ext O0.2) (g := (mkF m 68 #[.val (.int p1), .val (.int p2), .val (.int p3), .val (.int (0 : Int32)), .val (.ref w_MONTH), .val (.int ((1 : Int32) + ((p2 &&& (2147483647 : Int32)) % (11 : Int32)))), .val (.int (p3 &&& (3 : Int32))), .unset, .unset, .unset, .unset] [])) rfl (hb hby at_68)
        obtain ⟨T6, h6, X6, e6, E6, A6, D6, -, st6⟩ := newO X5 hx hZ hown (hw _ (List.mem_of_getElem? (i := 4) rfl)) (hw _ (List.mem_of_getElem? (i := 5) rfl)) (hw _ (List.mem_of_getElem? (i := 6) rfl)) e5 (g := (mkF m 77 #[.val (.int p1), .val (.int p2), .val (.int p3), .val (.int (0 : Int32)), .val (.ref w_MONTH), .val (.int ((1 : Int32) + ((p2 &&& (2147483647 : Int32)) % (11 : Int32)))), .val (.int (p3 &&& (3 : Int32))), .val (.ref w_YEAR), .unset, .unset, .unset] [])) rfl (hb hby at_77) (by decide) (by decide)
        obtain ⟨b6, gg6⟩ : ∃ z, z = h0.size := ⟨_, rfl⟩
        rw [← gg6] at A6 D6 st6
        have bo_b6 : h0.size ≤ b6 := Nat.le_of_eq gg6.symm
        have g_b6 : n0 ≤ b6 := Nat.le_trans (own_n0 O0) bo_b6
        have O6 := O0.ext E6
        have F_length_b6 : Fld Z h6 b6 "com/example/metered_billing/meteredbilling/plan/Term" "length" "I" (.int (0 : Int32)) := D6 (Or.inr (hw _ (List.mem_of_getElem? (i := 21) rfl))) (ty := .int) (by decide)
        have F_unit_b6 : Fld Z h6 b6 "com/example/metered_billing/meteredbilling/plan/Term" "unit" "Lcom/example/metered_billing/meteredbilling/plan/Term$Unit;" .null := D6 (Or.inr (hw _ (List.mem_of_getElem? (i := 23) rfl))) (ty := (.object "com/example/metered_billing/meteredbilling/plan/Term$Unit")) (by decide)
        obtain ⟨_, _, ⟨T7, L7, k7, n7⟩, -, X7, ⟨Lc7, hQ7, l7, y7, z7⟩, st7⟩ := X6.specialBack hx (y := (⟨"com/example/metered_billing/meteredbilling/plan/Term", "<init>", "(ILcom/example/metered_billing/meteredbilling/plan/Term$Unit;)V"⟩ : MethodName)) rfl hown (mvT hZ (hw _ (List.mem_of_getElem? (i := 7) rfl))) (mvT hZ (hw _ (List.mem_of_getElem? (i := 8) rfl))) (mvT hZ (hw _ (List.mem_of_getElem? (i := 9) rfl))) (by decide) (backOf (W := 1) (rm1_1 l Z a0 hw [] w_MONTH w_YEAR w_cache cl_w_cache b6 ((1 : Int32) + ((p2 &&& (2147483647 : Int32)) % (11 : Int32))) h6 n0 (own_n0 O6) O6 HW A6 F_length_b6 F_unit_b6 g_b6 (own_lo11 p2) (own_hi11 p2)) hZ (hw _ (List.mem_of_getElem? (i := 9) rfl)) (hw _ (List.mem_of_getElem? (i := 6) rfl)) (by decide) (by decide)) (g := (mkF m 85 #[.val (.int p1), .val (.int p2), .val (.int p3), .val (.int (0 : Int32)), .val (.ref w_MONTH), .val (.int ((1 : Int32) + ((p2 &&& (2147483647 : Int32)) % (11 : Int32)))), .val (.int (p3 &&& (3 : Int32))), .val (.ref w_YEAR), .unset, .unset, .unset] [(.ref w_MONTH), (.int ((1 : Int32) + ((p2 &&& (2147483647 : Int32)) % (11 : Int32)))), (.ref b6), (.ref b6)])) rfl (by rw [hml]; rfl) (Steps.refl _) (a := b6) (argsL := [(.int ((1 : Int32) + ((p2 &&& (2147483647 : Int32)) % (11 : Int32)))), (.ref w_MONTH)]) (rest := [(.ref b6)]) (lenOf pd27 rfl) rfl (by show 2 * 0 + _ ≤ _; exact Nat.le_of_eq rfl) (hb hby at_85) (fun _ _ => ⟨rfl, e6, (by decide : 1 + 0 ≤ _), (by decide : 2 + 0 ≤ _)⟩)
        dsimp only [Pt.U, Pt.locs, Pt.cells, Pt.slots] at X7 l7 y7 z7 st7 hQ7
        subst l7 y7 z7
        obtain ⟨rfl, N7q, K7, O7, pf7_0, pf7_1, pf7_2, -⟩ := hQ7
        have N7 := Fr.app N0 N7q
        obtain ⟨cq8, kq8, q8a, q8b, q8c⟩ := isOf hZ rfl pf7_0
        obtain ⟨_, _, ⟨T8, L8, k8, n8⟩, -, X8, ⟨Lc8, hQ8, l8, y8, z8⟩, st8⟩ := X7.virtualBack hx (y := (⟨"com/example/metered_billing/meteredbilling/plan/Term", "lengthIn", "(Lcom/example/metered_billing/meteredbilling/plan/Term$Unit;)Ljava/lang/Integer;"⟩ : MethodName)) (z := (⟨"com/example/metered_billing/meteredbilling/plan/Term", "lengthIn", "(Lcom/example/metered_billing/meteredbilling/plan/Term$Unit;)Ljava/lang/Integer;"⟩ : MethodName)) hown (mvT hZ (hw _ (List.mem_of_getElem? (i := 24) rfl))) (mvT hZ (hw _ (List.mem_of_getElem? (i := 25) rfl))) (notFace_of_selects (args := #[]) (mvT hZ (hw _ (List.mem_of_getElem? (i := 27) rfl)))) (mvT hZ (hw _ (List.mem_of_getElem? (i := 27) rfl))) (mvT hZ (hw _ (List.mem_of_getElem? (i := 26) rfl))) (by decide) (backOf (W := 0) (rm4_5 l Z a0 hw [] w_MONTH w_YEAR w_cache cl_w_cache b6 ((1 : Int32) + ((p2 &&& (2147483647 : Int32)) % (11 : Int32))) T7.heap n0 (own_n0 O7) O7 HW pf7_0 pf7_1 pf7_2) hZ (hw _ (List.mem_of_getElem? (i := 28) rfl)) (hw _ (List.mem_of_getElem? (i := 6) rfl)) (by decide) (by decide)) q8a q8c (g := (mkF m 94 #[.val (.int p1), .val (.int p2), .val (.int p3), .val (.int (0 : Int32)), .val (.ref w_MONTH), .val (.int ((1 : Int32) + ((p2 &&& (2147483647 : Int32)) % (11 : Int32)))), .val (.int (p3 &&& (3 : Int32))), .val (.ref w_YEAR), .val (.ref b6), .unset, .unset] [(.ref w_YEAR), (.ref b6)])) rfl (by rw [hml]; rfl) (Steps.refl _) (argsL := [(.ref w_YEAR)]) (rest := []) (lenOf pd55 rfl) rfl (by show 2 * 0 + _ ≤ _; exact Nat.le_of_eq rfl) (hb hby at_94) (fun _ _ => ⟨rfl, rfl, (by decide : 1 + 0 ≤ _), (by decide : 2 + 0 ≤ _)⟩)
        dsimp only [Pt.U, Pt.locs, Pt.cells, Pt.slots] at X8 l8 y8 z8 st8 hQ8
        subst l8 y8 z8
        obtain ⟨rfl, N8q, e8⟩ := hQ8
        have N8 := Fr.app N7 N8q
        obtain ⟨fs, hr, hrun, hended, hW, hsame⟩ := X8.leave (v := some (.int (1 : Int32))) (fun h => by rw [Bd.returns] at h; cases h)
        refine ⟨_, _, c4 _ ?_, hrun, hended, _, _, rfl, ?_, ⟨_, rfl⟩, hW, hsame.mono (by decide) (by decide)⟩
        · show Steps p.tables e below (T2.setTop (mkF m 65 #[.val (.int p1), .val (.int p2), .val (.int p3), .val (.int (0 : Int32)), .val (.ref w_MONTH), .val (.int ((1 : Int32) + ((p2 &&& (2147483647 : Int32)) % (11 : Int32)))), .val (.int (p3 &&& (3 : Int32))), .unset, .unset, .unset, .unset] [(.int (1 : Int32)), (.int (p3 &&& (3 : Int32)))])) _
          refine XS.icmpNo X2.here hx rfl (hb hby at_65) rfl (teq hd2).2 ?_
          show Steps p.tables e below (T2.setTop (mkF m 68 #[.val (.int p1), .val (.int p2), .val (.int p3), .val (.int (0 : Int32)), .val (.ref w_MONTH), .val (.int ((1 : Int32) + ((p2 &&& (2147483647 : Int32)) % (11 : Int32)))), .val (.int (p3 &&& (3 : Int32))), .unset, .unset, .unset, .unset] [])) _
          refine st5 _ ?_
          show Steps p.tables e below (T5.setTop (mkF m 71 #[.val (.int p1), .val (.int p2), .val (.int p3), .val (.int (0 : Int32)), .val (.ref w_MONTH), .val (.int ((1 : Int32) + ((p2 &&& (2147483647 : Int32)) % (11 : Int32)))), .val (.int (p3 &&& (3 : Int32))), .unset, .unset, .unset, .unset] [(.ref w_YEAR)])) _
          refine XS.goto X5.here hx rfl (pc0 := 71) (pc' := 75) rfl (hb hby at_71) (by decide) (by decide) ?_
          show Steps p.tables e below (T5.setTop (mkF m 75 #[.val (.int p1), .val (.int p2), .val (.int p3), .val (.int (0 : Int32)), .val (.ref w_MONTH), .val (.int ((1 : Int32) + ((p2 &&& (2147483647 : Int32)) % (11 : Int32)))), .val (.int (p3 &&& (3 : Int32))), .unset, .unset, .unset, .unset] [(.ref w_YEAR)])) _
          refine XS.astore X5.here hx rfl (hb hby at_75) rfl rfl (l' := #[.val (.int p1), .val (.int p2), .val (.int p3), .val (.int (0 : Int32)), .val (.ref w_MONTH), .val (.int ((1 : Int32) + ((p2 &&& (2147483647 : Int32)) % (11 : Int32)))), .val (.int (p3 &&& (3 : Int32))), .val (.ref w_YEAR), .unset, .unset, .unset]) rfl ?_
          show Steps p.tables e below (T5.setTop (mkF m 77 #[.val (.int p1), .val (.int p2), .val (.int p3), .val (.int (0 : Int32)), .val (.ref w_MONTH), .val (.int ((1 : Int32) + ((p2 &&& (2147483647 : Int32)) % (11 : Int32)))), .val (.int (p3 &&& (3 : Int32))), .val (.ref w_YEAR), .unset, .unset, .unset] [])) _
          refine st6 _ ?_
          show Steps p.tables e below (T6.setTop (mkF m 80 #[.val (.int p1), .val (.int p2), .val (.int p3), .val (.int (0 : Int32)), .val (.ref w_MONTH), .val (.int ((1 : Int32) + ((p2 &&& (2147483647 : Int32)) % (11 : Int32)))), .val (.int (p3 &&& (3 : Int32))), .val (.ref w_YEAR), .unset, .unset, .unset] [(.ref b6)])) _
          refine XS.dup X6.here hx rfl (hb hby at_80) rfl rfl ?_
          show Steps p.tables e below (T6.setTop (mkF m 81 #[.val (.int p1), .val (.int p2), .val (.int p3), .val (.int (0 : Int32)), .val (.ref w_MONTH), .val (.int ((1 : Int32) + ((p2 &&& (2147483647 : Int32)) % (11 : Int32)))), .val (.int (p3 &&& (3 : Int32))), .val (.ref w_YEAR), .unset, .unset, .unset] [(.ref b6), (.ref b6)])) _
          refine XS.iload X6.here hx rfl (hb hby at_81) rfl ?_
          show Steps p.tables e below (T6.setTop (mkF m 83 #[.val (.int p1), .val (.int p2), .val (.int p3), .val (.int (0 : Int32)), .val (.ref w_MONTH), .val (.int ((1 : Int32) + ((p2 &&& (2147483647 : Int32)) % (11 : Int32)))), .val (.int (p3 &&& (3 : Int32))), .val (.ref w_YEAR), .unset, .unset, .unset] [(.int ((1 : Int32) + ((p2 &&& (2147483647 : Int32)) % (11 : Int32)))), (.ref b6), (.ref b6)])) _
          refine XS.aload X6.here hx rfl (hb hby at_83) rfl rfl ?_
          show Steps p.tables e below (T6.setTop (mkF m 85 #[.val (.int p1), .val (.int p2), .val (.int p3), .val (.int (0 : Int32)), .val (.ref w_MONTH), .val (.int ((1 : Int32) + ((p2 &&& (2147483647 : Int32)) % (11 : Int32)))), .val (.int (p3 &&& (3 : Int32))), .val (.ref w_YEAR), .unset, .unset, .unset] [(.ref w_MONTH), (.int ((1 : Int32) + ((p2 &&& (2147483647 : Int32)) % (11 : Int32)))), (.ref b6), (.ref b6)])) _
          refine st7.trans ?_
          show Steps p.tables e below (T7.setTop (mkF m 88 #[.val (.int p1), .val (.int p2), .val (.int p3), .val (.int (0 : Int32)), .val (.ref w_MONTH), .val (.int ((1 : Int32) + ((p2 &&& (2147483647 : Int32)) % (11 : Int32)))), .val (.int (p3 &&& (3 : Int32))), .val (.ref w_YEAR), .unset, .unset, .unset] [(.ref b6)])) _
          refine XS.astore X7.here hx rfl (hb hby at_88) rfl rfl (l' := #[.val (.int p1), .val (.int p2), .val (.int p3), .val (.int (0 : Int32)), .val (.ref w_MONTH), .val (.int ((1 : Int32) + ((p2 &&& (2147483647 : Int32)) % (11 : Int32)))), .val (.int (p3 &&& (3 : Int32))), .val (.ref w_YEAR), .val (.ref b6), .unset, .unset]) rfl ?_
          show Steps p.tables e below (T7.setTop (mkF m 90 #[.val (.int p1), .val (.int p2), .val (.int p3), .val (.int (0 : Int32)), .val (.ref w_MONTH), .val (.int ((1 : Int32) + ((p2 &&& (2147483647 : Int32)) % (11 : Int32)))), .val (.int (p3 &&& (3 : Int32))), .val (.ref w_YEAR), .val (.ref b6), .unset, .unset] [])) _
          refine XS.aload X7.here hx rfl (hb hby at_90) rfl rfl ?_
          show Steps p.tables e below (T7.setTop (mkF m 92 #[.val (.int p1), .val (.int p2), .val (.int p3), .val (.int (0 : Int32)), .val (.ref w_MONTH), .val (.int ((1 : Int32) + ((p2 &&& (2147483647 : Int32)) % (11 : Int32)))), .val (.int (p3 &&& (3 : Int32))), .val (.ref w_YEAR), .val (.ref b6), .unset, .unset] [(.ref b6)])) _
          refine XS.aload X7.here hx rfl (hb hby at_92) rfl rfl ?_
          show Steps p.tables e below (T7.setTop (mkF m 94 #[.val (.int p1), .val (.int p2), .val (.int p3), .val (.int (0 : Int32)), .val (.ref w_MONTH), .val (.int ((1 : Int32) + ((p2 &&& (2147483647 : Int32)) % (11 : Int32)))), .val (.int (p3 &&& (3 : Int32))), .val (.ref w_YEAR), .val (.ref b6), .unset, .unset] [(.ref w_YEAR), (.ref b6)])) _
          refine st8.trans ?_
          show Steps p.tables e below (T8.setTop (mkF m 97 #[.val (.int p1), .val (.int p2), .val (.int p3), .val (.int (0 : Int32)), .val (.ref w_MONTH), .val (.int ((1 : Int32) + ((p2 &&& (2147483647 : Int32)) % (11 : Int32)))), .val (.int (p3 &&& (3 : Int32))), .val (.ref w_YEAR), .val (.ref b6), .unset, .unset] [.null])) _
          refine XS.astore X8.here hx rfl (hb hby at_97) rfl rfl (l' := #[.val (.int p1), .val (.int p2), .val (.int p3), .val (.int (0 : Int32)), .val (.ref w_MONTH), .val (.int ((1 : Int32) + ((p2 &&& (2147483647 : Int32)) % (11 : Int32)))), .val (.int (p3 &&& (3 : Int32))), .val (.ref w_YEAR), .val (.ref b6), .val .null, .unset]) rfl ?_
          show Steps p.tables e below (T8.setTop (mkF m 99 #[.val (.int p1), .val (.int p2), .val (.int p3), .val (.int (0 : Int32)), .val (.ref w_MONTH), .val (.int ((1 : Int32) + ((p2 &&& (2147483647 : Int32)) % (11 : Int32)))), .val (.int (p3 &&& (3 : Int32))), .val (.ref w_YEAR), .val (.ref b6), .val .null, .unset] [])) _
          refine XS.iload X8.here hx rfl (hb hby at_99) rfl ?_
          show Steps p.tables e below (T8.setTop (mkF m 101 #[.val (.int p1), .val (.int p2), .val (.int p3), .val (.int (0 : Int32)), .val (.ref w_MONTH), .val (.int ((1 : Int32) + ((p2 &&& (2147483647 : Int32)) % (11 : Int32)))), .val (.int (p3 &&& (3 : Int32))), .val (.ref w_YEAR), .val (.ref b6), .val .null, .unset] [(.int (p3 &&& (3 : Int32)))])) _
          refine XS.ifYes X8.here hx rfl (pc0 := 101) (pc' := 108) rfl (hb hby at_101) rfl ((if0 _ _).trans (feq hd1).2) (by decide) (by decide) ?_
          show Steps p.tables e below (T8.setTop (mkF m 108 #[.val (.int p1), .val (.int p2), .val (.int p3), .val (.int (0 : Int32)), .val (.ref w_MONTH), .val (.int ((1 : Int32) + ((p2 &&& (2147483647 : Int32)) % (11 : Int32)))), .val (.int (p3 &&& (3 : Int32))), .val (.ref w_YEAR), .val (.ref b6), .val .null, .unset] [])) _
          refine XS.iload X8.here hx rfl (hb hby at_108) rfl ?_
          show Steps p.tables e below (T8.setTop (mkF m 110 #[.val (.int p1), .val (.int p2), .val (.int p3), .val (.int (0 : Int32)), .val (.ref w_MONTH), .val (.int ((1 : Int32) + ((p2 &&& (2147483647 : Int32)) % (11 : Int32)))), .val (.int (p3 &&& (3 : Int32))), .val (.ref w_YEAR), .val (.ref b6), .val .null, .unset] [(.int (p3 &&& (3 : Int32)))])) _
          refine XS.iconst X8.here hx rfl (hb hby at_110) ?_
          show Steps p.tables e below (T8.setTop (mkF m 111 #[.val (.int p1), .val (.int p2), .val (.int p3), .val (.int (0 : Int32)), .val (.ref w_MONTH), .val (.int ((1 : Int32) + ((p2 &&& (2147483647 : Int32)) % (11 : Int32)))), .val (.int (p3 &&& (3 : Int32))), .val (.ref w_YEAR), .val (.ref b6), .val .null, .unset] [(.int (1 : Int32)), (.int (p3 &&& (3 : Int32)))])) _
          refine XS.icmpNo X8.here hx rfl (hb hby at_111) rfl (teq hd2).2 ?_
          show Steps p.tables e below (T8.setTop (mkF m 114 #[.val (.int p1), .val (.int p2), .val (.int p3), .val (.int (0 : Int32)), .val (.ref w_MONTH), .val (.int ((1 : Int32) + ((p2 &&& (2147483647 : Int32)) % (11 : Int32)))), .val (.int (p3 &&& (3 : Int32))), .val (.ref w_YEAR), .val (.ref b6), .val .null, .unset] [])) _
          refine XS.iloadN X8.here hx rfl (hb hby at_114) rfl ?_
          show Steps p.tables e below (T8.setTop (mkF m 115 #[.val (.int p1), .val (.int p2), .val (.int p3), .val (.int (0 : Int32)), .val (.ref w_MONTH), .val (.int ((1 : Int32) + ((p2 &&& (2147483647 : Int32)) % (11 : Int32)))), .val (.int (p3 &&& (3 : Int32))), .val (.ref w_YEAR), .val (.ref b6), .val .null, .unset] [(.int (0 : Int32))])) _
          refine XS.ifYes X8.here hx rfl (pc0 := 115) (pc' := 122) rfl (hb hby at_115) rfl ((if0 _ _).trans (teq (by decide : (0 : Int32) = (0 : Int32))).1) (by decide) (by decide) ?_
          show Steps p.tables e below (T8.setTop (mkF m 122 #[.val (.int p1), .val (.int p2), .val (.int p3), .val (.int (0 : Int32)), .val (.ref w_MONTH), .val (.int ((1 : Int32) + ((p2 &&& (2147483647 : Int32)) % (11 : Int32)))), .val (.int (p3 &&& (3 : Int32))), .val (.ref w_YEAR), .val (.ref b6), .val .null, .unset] [])) _
          refine XS.iconst X8.here hx rfl (hb hby at_122) ?_
          show Steps p.tables e below (T8.setTop (mkF m 123 #[.val (.int p1), .val (.int p2), .val (.int p3), .val (.int (0 : Int32)), .val (.ref w_MONTH), .val (.int ((1 : Int32) + ((p2 &&& (2147483647 : Int32)) % (11 : Int32)))), .val (.int (p3 &&& (3 : Int32))), .val (.ref w_YEAR), .val (.ref b6), .val .null, .unset] [(.int (0 : Int32))])) _
          refine XS.istore X8.here hx rfl (hb hby at_123) rfl (l' := #[.val (.int p1), .val (.int p2), .val (.int p3), .val (.int (0 : Int32)), .val (.ref w_MONTH), .val (.int ((1 : Int32) + ((p2 &&& (2147483647 : Int32)) % (11 : Int32)))), .val (.int (p3 &&& (3 : Int32))), .val (.ref w_YEAR), .val (.ref b6), .val .null, .val (.int (0 : Int32))]) rfl ?_
          show Steps p.tables e below (T8.setTop (mkF m 125 #[.val (.int p1), .val (.int p2), .val (.int p3), .val (.int (0 : Int32)), .val (.ref w_MONTH), .val (.int ((1 : Int32) + ((p2 &&& (2147483647 : Int32)) % (11 : Int32)))), .val (.int (p3 &&& (3 : Int32))), .val (.ref w_YEAR), .val (.ref b6), .val .null, .val (.int (0 : Int32))] [])) _
          refine XS.iload X8.here hx rfl (hb hby at_125) rfl ?_
          show Steps p.tables e below (T8.setTop (mkF m 127 #[.val (.int p1), .val (.int p2), .val (.int p3), .val (.int (0 : Int32)), .val (.ref w_MONTH), .val (.int ((1 : Int32) + ((p2 &&& (2147483647 : Int32)) % (11 : Int32)))), .val (.int (p3 &&& (3 : Int32))), .val (.ref w_YEAR), .val (.ref b6), .val .null, .val (.int (0 : Int32))] [(.int (0 : Int32))])) _
          refine XS.ifYes X8.here hx rfl (pc0 := 127) (pc' := 151) rfl (hb hby at_127) rfl ((if0 _ _).trans (teq (by decide : (0 : Int32) = (0 : Int32))).1) (by decide) (by decide) ?_
          show Steps p.tables e below (T8.setTop (mkF m 151 #[.val (.int p1), .val (.int p2), .val (.int p3), .val (.int (0 : Int32)), .val (.ref w_MONTH), .val (.int ((1 : Int32) + ((p2 &&& (2147483647 : Int32)) % (11 : Int32)))), .val (.int (p3 &&& (3 : Int32))), .val (.ref w_YEAR), .val (.ref b6), .val .null, .val (.int (0 : Int32))] [])) _
          refine XS.aload X8.here hx rfl (hb hby at_151) rfl rfl ?_
          show Steps p.tables e below (T8.setTop (mkF m 153 #[.val (.int p1), .val (.int p2), .val (.int p3), .val (.int (0 : Int32)), .val (.ref w_MONTH), .val (.int ((1 : Int32) + ((p2 &&& (2147483647 : Int32)) % (11 : Int32)))), .val (.int (p3 &&& (3 : Int32))), .val (.ref w_YEAR), .val (.ref b6), .val .null, .val (.int (0 : Int32))] [.null])) _
          refine XS.ifnonnullNo X8.here hx rfl (hb hby at_153) rfl ?_
          show Steps p.tables e below (T8.setTop (mkF m 156 #[.val (.int p1), .val (.int p2), .val (.int p3), .val (.int (0 : Int32)), .val (.ref w_MONTH), .val (.int ((1 : Int32) + ((p2 &&& (2147483647 : Int32)) % (11 : Int32)))), .val (.int (p3 &&& (3 : Int32))), .val (.ref w_YEAR), .val (.ref b6), .val .null, .val (.int (0 : Int32))] [])) _
          refine XS.iconst X8.here hx rfl (hb hby at_156) ?_
          show Steps p.tables e below (T8.setTop (mkF m 157 #[.val (.int p1), .val (.int p2), .val (.int p3), .val (.int (0 : Int32)), .val (.ref w_MONTH), .val (.int ((1 : Int32) + ((p2 &&& (2147483647 : Int32)) % (11 : Int32)))), .val (.int (p3 &&& (3 : Int32))), .val (.ref w_YEAR), .val (.ref b6), .val .null, .val (.int (0 : Int32))] [(.int (1 : Int32))])) _
          refine XS.goto X8.here hx rfl (pc0 := 157) (pc' := 161) rfl (hb hby at_157) (by decide) (by decide) ?_
          show Steps p.tables e below (T8.setTop (mkF m 161 #[.val (.int p1), .val (.int p2), .val (.int p3), .val (.int (0 : Int32)), .val (.ref w_MONTH), .val (.int ((1 : Int32) + ((p2 &&& (2147483647 : Int32)) % (11 : Int32)))), .val (.int (p3 &&& (3 : Int32))), .val (.ref w_YEAR), .val (.ref b6), .val .null, .val (.int (0 : Int32))] [(.int (1 : Int32))])) _
          exact retN X8 hx (t := .boolean) Bd.returns (by simp) (hb hby at_161) hr
        · exact ⟨rfl, N8⟩
      · skip
        obtain ⟨T5, h5, X5, e5, E5, A5, D5, -, st5⟩ := newO X2 hx hZ hown (hw _ (List.mem_of_getElem? (i := 4) rfl)) (hw _ (List.mem_of_getElem? (i := 5) rfl)) (hw _ (List.mem_of_getElem? (i := 6) rfl)) e2 (g := (mkF m 77 #[.val (.int p1), .val (.int p2), .val (.int p3), .val (.int (0 : Int32)), .val (.ref w_MONTH), .val (.int ((1 : Int32) + ((p2 &&& (2147483647 : Int32)) % (11 : Int32)))), .val (.int (p3 &&& (3 : Int32))), .val .null, .unset, .unset, .unset] [])) rfl (hb hby at_77) (by decide) (by decide)
        obtain ⟨b5, gg5⟩ : ∃ z, z = h0.size := ⟨_, rfl⟩
        rw [← gg5] at A5 D5 st5
        have bo_b5 : h0.size ≤ b5 := Nat.le_of_eq gg5.symm
        have g_b5 : n0 ≤ b5 := Nat.le_trans (own_n0 O0) bo_b5
        have O5 := O0.ext E5
        have F_length_b5 : Fld Z h5 b5 "com/example/metered_billing/meteredbilling/plan/Term" "length" "I" (.int (0 : Int32)) := D5 (Or.inr (hw _ (List.mem_of_getElem? (i := 21) rfl))) (ty := .int) (by decide)
        have F_unit_b5 : Fld Z h5 b5 "com/example/metered_billing/meteredbilling/plan/Term" "unit" "Lcom/example/metered_billing/meteredbilling/plan/Term$Unit;" .null := D5 (Or.inr (hw _ (List.mem_of_getElem? (i := 23) rfl))) (ty := (.object "com/example/metered_billing/meteredbilling/plan/Term$Unit")) (by decide)
        obtain ⟨_, _, ⟨T6, L6, k6, n6⟩, -, X6, ⟨Lc6, hQ6, l6, y6, z6⟩, st6⟩ := X5.specialBack hx (y := (⟨"com/example/metered_billing/meteredbilling/plan/Term", "<init>", "(ILcom/example/metered_billing/meteredbilling/plan/Term$Unit;)V"⟩ : MethodName)) rfl hown (mvT hZ (hw _ (List.mem_of_getElem? (i := 7) rfl))) (mvT hZ (hw _ (List.mem_of_getElem? (i := 8) rfl))) (mvT hZ (hw _ (List.mem_of_getElem? (i := 9) rfl))) (by decide) (backOf (W := 1) (rm1_1 l Z a0 hw [] w_MONTH w_YEAR w_cache cl_w_cache b5 ((1 : Int32) + ((p2 &&& (2147483647 : Int32)) % (11 : Int32))) h5 n0 (own_n0 O5) O5 HW A5 F_length_b5 F_unit_b5 g_b5 (own_lo11 p2) (own_hi11 p2)) hZ (hw _ (List.mem_of_getElem? (i := 9) rfl)) (hw _ (List.mem_of_getElem? (i := 6) rfl)) (by decide) (by decide)) (g := (mkF m 85 #[.val (.int p1), .val (.int p2), .val (.int p3), .val (.int (0 : Int32)), .val (.ref w_MONTH), .val (.int ((1 : Int32) + ((p2 &&& (2147483647 : Int32)) % (11 : Int32)))), .val (.int (p3 &&& (3 : Int32))), .val .null, .unset, .unset, .unset] [(.ref w_MONTH), (.int ((1 : Int32) + ((p2 &&& (2147483647 : Int32)) % (11 : Int32)))), (.ref b5), (.ref b5)])) rfl (by rw [hml]; rfl) (Steps.refl _) (a := b5) (argsL := [(.int ((1 : Int32) + ((p2 &&& (2147483647 : Int32)) % (11 : Int32)))), (.ref w_MONTH)]) (rest := [(.ref b5)]) (lenOf pd27 rfl) rfl (by show 2 * 0 + _ ≤ _; exact Nat.le_of_eq rfl) (hb hby at_85) (fun _ _ => ⟨rfl, e5, (by decide : 1 + 0 ≤ _), (by decide : 2 + 0 ≤ _)⟩)
        dsimp only [Pt.U, Pt.locs, Pt.cells, Pt.slots] at X6 l6 y6 z6 st6 hQ6
        subst l6 y6 z6
        obtain ⟨rfl, N6q, K6, O6, pf6_0, pf6_1, pf6_2, -⟩ := hQ6
        have N6 := Fr.app N0 N6q
        obtain ⟨cq7, kq7, q7a, q7b, q7c⟩ := isOf hZ rfl pf6_0
        obtain ⟨_, _, ⟨T7, L7, k7, n7⟩, -, X7, ⟨Lc7, hQ7, l7, y7, z7⟩, st7⟩ := X6.virtualBack hx (y := (⟨"com/example/metered_billing/meteredbilling/plan/Term", "lengthIn", "(Lcom/example/metered_billing/meteredbilling/plan/Term$Unit;)Ljava/lang/Integer;"⟩ : MethodName)) (z := (⟨"com/example/metered_billing/meteredbilling/plan/Term", "lengthIn", "(Lcom/example/metered_billing/meteredbilling/plan/Term$Unit;)Ljava/lang/Integer;"⟩ : MethodName)) hown (mvT hZ (hw _ (List.mem_of_getElem? (i := 24) rfl))) (mvT hZ (hw _ (List.mem_of_getElem? (i := 25) rfl))) (notFace_of_selects (args := #[]) (mvT hZ (hw _ (List.mem_of_getElem? (i := 27) rfl)))) (mvT hZ (hw _ (List.mem_of_getElem? (i := 27) rfl))) (mvT hZ (hw _ (List.mem_of_getElem? (i := 26) rfl))) (by decide) (backOf (W := 0) (rm4_6 l Z a0 hw [] w_MONTH w_YEAR w_cache cl_w_cache b5 ((1 : Int32) + ((p2 &&& (2147483647 : Int32)) % (11 : Int32))) T6.heap n0 (own_n0 O6) O6 HW pf6_0 pf6_1 pf6_2) hZ (hw _ (List.mem_of_getElem? (i := 28) rfl)) (hw _ (List.mem_of_getElem? (i := 6) rfl)) (by decide) (by decide)) q7a q7c (g := (mkF m 94 #[.val (.int p1), .val (.int p2), .val (.int p3), .val (.int (0 : Int32)), .val (.ref w_MONTH), .val (.int ((1 : Int32) + ((p2 &&& (2147483647 : Int32)) % (11 : Int32)))), .val (.int (p3 &&& (3 : Int32))), .val .null, .val (.ref b5), .unset, .unset] [.null, (.ref b5)])) rfl (by rw [hml]; rfl) (Steps.refl _) (argsL := [.null]) (rest := []) (lenOf pd55 rfl) rfl (by show 2 * 0 + _ ≤ _; exact Nat.le_of_eq rfl) (hb hby at_94) (fun _ _ => ⟨rfl, rfl, (by decide : 1 + 0 ≤ _), (by decide : 2 + 0 ≤ _)⟩)
        dsimp only [Pt.U, Pt.locs, Pt.cells, Pt.slots] at X7 l7 y7 z7 st7 hQ7
        subst l7 y7 z7
        obtain ⟨rfl, N7q, e7⟩ := hQ7
        have N7 := Fr.app N6 N7q
        obtain ⟨fs, hr, hrun, hended, hW, hsame⟩ := X7.leave (v := some (.int (1 : Int32))) (fun h => by rw [Bd.returns] at h; cases h)
        refine ⟨_, _, c4 _ ?_, hrun, hended, _, _, rfl, ?_, ⟨_, rfl⟩, hW, hsame.mono (by decide) (by decide)⟩
        · show Steps p.tables e below (T2.setTop (mkF m 65 #[.val (.int p1), .val (.int p2), .val (.int p3), .val (.int (0 : Int32)), .val (.ref w_MONTH), .val (.int ((1 : Int32) + ((p2 &&& (2147483647 : Int32)) % (11 : Int32)))), .val (.int (p3 &&& (3 : Int32))), .unset, .unset, .unset, .unset] [(.int (1 : Int32)), (.int (p3 &&& (3 : Int32)))])) _
          refine XS.icmpYes X2.here hx rfl (pc0 := 65) (pc' := 74) rfl (hb hby at_65) rfl (feq hd2).2 (by decide) (by decide) ?_
          show Steps p.tables e below (T2.setTop (mkF m 74 #[.val (.int p1), .val (.int p2), .val (.int p3), .val (.int (0 : Int32)), .val (.ref w_MONTH), .val (.int ((1 : Int32) + ((p2 &&& (2147483647 : Int32)) % (11 : Int32)))), .val (.int (p3 &&& (3 : Int32))), .unset, .unset, .unset, .unset] [])) _
          refine XS.aconstNull X2.here hx rfl (hb hby at_74) ?_
          show Steps p.tables e below (T2.setTop (mkF m 75 #[.val (.int p1), .val (.int p2), .val (.int p3), .val (.int (0 : Int32)), .val (.ref w_MONTH), .val (.int ((1 : Int32) + ((p2 &&& (2147483647 : Int32)) % (11 : Int32)))), .val (.int (p3 &&& (3 : Int32))), .unset, .unset, .unset, .unset] [.null])) _
          refine XS.astore X2.here hx rfl (hb hby at_75) rfl rfl (l' := #[.val (.int p1), .val (.int p2), .val (.int p3), .val (.int (0 : Int32)), .val (.ref w_MONTH), .val (.int ((1 : Int32) + ((p2 &&& (2147483647 : Int32)) % (11 : Int32)))), .val (.int (p3 &&& (3 : Int32))), .val .null, .unset, .unset, .unset]) rfl ?_
          show Steps p.tables e below (T2.setTop (mkF m 77 #[.val (.int p1), .val (.int p2), .val (.int p3), .val (.int (0 : Int32)), .val (.ref w_MONTH), .val (.int ((1 : Int32) + ((p2 &&& (2147483647 : Int32)) % (11 : Int32)))), .val (.int (p3 &&& (3 : Int32))), .val .null, .unset, .unset, .unset] [])) _
          refine st5 _ ?_
          show Steps p.tables e below (T5.setTop (mkF m 80 #[.val (.int p1), .val (.int p2), .val (.int p3), .val (.int (0 : Int32)), .val (.ref w_MONTH), .val (.int ((1 : Int32) + ((p2 &&& (2147483647 : Int32)) % (11 : Int32)))), .val (.int (p3 &&& (3 : Int32))), .val .null, .unset, .unset, .unset] [(.ref b5)])) _
          refine XS.dup X5.here hx rfl (hb hby at_80) rfl rfl ?_
          show Steps p.tables e below (T5.setTop (mkF m 81 #[.val (.int p1), .val (.int p2), .val (.int p3), .val (.int (0 : Int32)), .val (.ref w_MONTH), .val (.int ((1 : Int32) + ((p2 &&& (2147483647 : Int32)) % (11 : Int32)))), .val (.int (p3 &&& (3 : Int32))), .val .null, .unset, .unset, .unset] [(.ref b5), (.ref b5)])) _
          refine XS.iload X5.here hx rfl (hb hby at_81) rfl ?_
          show Steps p.tables e below (T5.setTop (mkF m 83 #[.val (.int p1), .val (.int p2), .val (.int p3), .val (.int (0 : Int32)), .val (.ref w_MONTH), .val (.int ((1 : Int32) + ((p2 &&& (2147483647 : Int32)) % (11 : Int32)))), .val (.int (p3 &&& (3 : Int32))), .val .null, .unset, .unset, .unset] [(.int ((1 : Int32) + ((p2 &&& (2147483647 : Int32)) % (11 : Int32)))), (.ref b5), (.ref b5)])) _
          refine XS.aload X5.here hx rfl (hb hby at_83) rfl rfl ?_
          show Steps p.tables e below (T5.setTop (mkF m 85 #[.val (.int p1), .val (.int p2), .val (.int p3), .val (.int (0 : Int32)), .val (.ref w_MONTH), .val (.int ((1 : Int32) + ((p2 &&& (2147483647 : Int32)) % (11 : Int32)))), .val (.int (p3 &&& (3 : Int32))), .val .null, .unset, .unset, .unset] [(.ref w_MONTH), (.int ((1 : Int32) + ((p2 &&& (2147483647 : Int32)) % (11 : Int32)))), (.ref b5), (.ref b5)])) _
          refine st6.trans ?_
          show Steps p.tables e below (T6.setTop (mkF m 88 #[.val (.int p1), .val (.int p2), .val (.int p3), .val (.int (0 : Int32)), .val (.ref w_MONTH), .val (.int ((1 : Int32) + ((p2 &&& (2147483647 : Int32)) % (11 : Int32)))), .val (.int (p3 &&& (3 : Int32))), .val .null, .unset, .unset, .unset] [(.ref b5)])) _
          refine XS.astore X6.here hx rfl (hb hby at_88) rfl rfl (l' := #[.val (.int p1), .val (.int p2), .val (.int p3), .val (.int (0 : Int32)), .val (.ref w_MONTH), .val (.int ((1 : Int32) + ((p2 &&& (2147483647 : Int32)) % (11 : Int32)))), .val (.int (p3 &&& (3 : Int32))), .val .null, .val (.ref b5), .unset, .unset]) rfl ?_
          show Steps p.tables e below (T6.setTop (mkF m 90 #[.val (.int p1), .val (.int p2), .val (.int p3), .val (.int (0 : Int32)), .val (.ref w_MONTH), .val (.int ((1 : Int32) + ((p2 &&& (2147483647 : Int32)) % (11 : Int32)))), .val (.int (p3 &&& (3 : Int32))), .val .null, .val (.ref b5), .unset, .unset] [])) _
          refine XS.aload X6.here hx rfl (hb hby at_90) rfl rfl ?_
          show Steps p.tables e below (T6.setTop (mkF m 92 #[.val (.int p1), .val (.int p2), .val (.int p3), .val (.int (0 : Int32)), .val (.ref w_MONTH), .val (.int ((1 : Int32) + ((p2 &&& (2147483647 : Int32)) % (11 : Int32)))), .val (.int (p3 &&& (3 : Int32))), .val .null, .val (.ref b5), .unset, .unset] [(.ref b5)])) _
          refine XS.aload X6.here hx rfl (hb hby at_92) rfl rfl ?_
          show Steps p.tables e below (T6.setTop (mkF m 94 #[.val (.int p1), .val (.int p2), .val (.int p3), .val (.int (0 : Int32)), .val (.ref w_MONTH), .val (.int ((1 : Int32) + ((p2 &&& (2147483647 : Int32)) % (11 : Int32)))), .val (.int (p3 &&& (3 : Int32))), .val .null, .val (.ref b5), .unset, .unset] [.null, (.ref b5)])) _
          refine st7.trans ?_
          show Steps p.tables e below (T7.setTop (mkF m 97 #[.val (.int p1), .val (.int p2), .val (.int p3), .val (.int (0 : Int32)), .val (.ref w_MONTH), .val (.int ((1 : Int32) + ((p2 &&& (2147483647 : Int32)) % (11 : Int32)))), .val (.int (p3 &&& (3 : Int32))), .val .null, .val (.ref b5), .unset, .unset] [.null])) _
          refine XS.astore X7.here hx rfl (hb hby at_97) rfl rfl (l' := #[.val (.int p1), .val (.int p2), .val (.int p3), .val (.int (0 : Int32)), .val (.ref w_MONTH), .val (.int ((1 : Int32) + ((p2 &&& (2147483647 : Int32)) % (11 : Int32)))), .val (.int (p3 &&& (3 : Int32))), .val .null, .val (.ref b5), .val .null, .unset]) rfl ?_
          show Steps p.tables e below (T7.setTop (mkF m 99 #[.val (.int p1), .val (.int p2), .val (.int p3), .val (.int (0 : Int32)), .val (.ref w_MONTH), .val (.int ((1 : Int32) + ((p2 &&& (2147483647 : Int32)) % (11 : Int32)))), .val (.int (p3 &&& (3 : Int32))), .val .null, .val (.ref b5), .val .null, .unset] [])) _
          refine XS.iload X7.here hx rfl (hb hby at_99) rfl ?_
          show Steps p.tables e below (T7.setTop (mkF m 101 #[.val (.int p1), .val (.int p2), .val (.int p3), .val (.int (0 : Int32)), .val (.ref w_MONTH), .val (.int ((1 : Int32) + ((p2 &&& (2147483647 : Int32)) % (11 : Int32)))), .val (.int (p3 &&& (3 : Int32))), .val .null, .val (.ref b5), .val .null, .unset] [(.int (p3 &&& (3 : Int32)))])) _
          refine XS.ifYes X7.here hx rfl (pc0 := 101) (pc' := 108) rfl (hb hby at_101) rfl ((if0 _ _).trans (feq hd1).2) (by decide) (by decide) ?_
          show Steps p.tables e below (T7.setTop (mkF m 108 #[.val (.int p1), .val (.int p2), .val (.int p3), .val (.int (0 : Int32)), .val (.ref w_MONTH), .val (.int ((1 : Int32) + ((p2 &&& (2147483647 : Int32)) % (11 : Int32)))), .val (.int (p3 &&& (3 : Int32))), .val .null, .val (.ref b5), .val .null, .unset] [])) _
          refine XS.iload X7.here hx rfl (hb hby at_108) rfl ?_
          show Steps p.tables e below (T7.setTop (mkF m 110 #[.val (.int p1), .val (.int p2), .val (.int p3), .val (.int (0 : Int32)), .val (.ref w_MONTH), .val (.int ((1 : Int32) + ((p2 &&& (2147483647 : Int32)) % (11 : Int32)))), .val (.int (p3 &&& (3 : Int32))), .val .null, .val (.ref b5), .val .null, .unset] [(.int (p3 &&& (3 : Int32)))])) _
          refine XS.iconst X7.here hx rfl (hb hby at_110) ?_
          show Steps p.tables e below (T7.setTop (mkF m 111 #[.val (.int p1), .val (.int p2), .val (.int p3), .val (.int (0 : Int32)), .val (.ref w_MONTH), .val (.int ((1 : Int32) + ((p2 &&& (2147483647 : Int32)) % (11 : Int32)))), .val (.int (p3 &&& (3 : Int32))), .val .null, .val (.ref b5), .val .null, .unset] [(.int (1 : Int32)), (.int (p3 &&& (3 : Int32)))])) _
          refine XS.icmpYes X7.here hx rfl (pc0 := 111) (pc' := 122) rfl (hb hby at_111) rfl (feq hd2).2 (by decide) (by decide) ?_
          show Steps p.tables e below (T7.setTop (mkF m 122 #[.val (.int p1), .val (.int p2), .val (.int p3), .val (.int (0 : Int32)), .val (.ref w_MONTH), .val (.int ((1 : Int32) + ((p2 &&& (2147483647 : Int32)) % (11 : Int32)))), .val (.int (p3 &&& (3 : Int32))), .val .null, .val (.ref b5), .val .null, .unset] [])) _
          refine XS.iconst X7.here hx rfl (hb hby at_122) ?_
          show Steps p.tables e below (T7.setTop (mkF m 123 #[.val (.int p1), .val (.int p2), .val (.int p3), .val (.int (0 : Int32)), .val (.ref w_MONTH), .val (.int ((1 : Int32) + ((p2 &&& (2147483647 : Int32)) % (11 : Int32)))), .val (.int (p3 &&& (3 : Int32))), .val .null, .val (.ref b5), .val .null, .unset] [(.int (0 : Int32))])) _
          refine XS.istore X7.here hx rfl (hb hby at_123) rfl (l' := #[.val (.int p1), .val (.int p2), .val (.int p3), .val (.int (0 : Int32)), .val (.ref w_MONTH), .val (.int ((1 : Int32) + ((p2 &&& (2147483647 : Int32)) % (11 : Int32)))), .val (.int (p3 &&& (3 : Int32))), .val .null, .val (.ref b5), .val .null, .val (.int (0 : Int32))]) rfl ?_
          show Steps p.tables e below (T7.setTop (mkF m 125 #[.val (.int p1), .val (.int p2), .val (.int p3), .val (.int (0 : Int32)), .val (.ref w_MONTH), .val (.int ((1 : Int32) + ((p2 &&& (2147483647 : Int32)) % (11 : Int32)))), .val (.int (p3 &&& (3 : Int32))), .val .null, .val (.ref b5), .val .null, .val (.int (0 : Int32))] [])) _
          refine XS.iload X7.here hx rfl (hb hby at_125) rfl ?_
          show Steps p.tables e below (T7.setTop (mkF m 127 #[.val (.int p1), .val (.int p2), .val (.int p3), .val (.int (0 : Int32)), .val (.ref w_MONTH), .val (.int ((1 : Int32) + ((p2 &&& (2147483647 : Int32)) % (11 : Int32)))), .val (.int (p3 &&& (3 : Int32))), .val .null, .val (.ref b5), .val .null, .val (.int (0 : Int32))] [(.int (0 : Int32))])) _
          refine XS.ifYes X7.here hx rfl (pc0 := 127) (pc' := 151) rfl (hb hby at_127) rfl ((if0 _ _).trans (teq (by decide : (0 : Int32) = (0 : Int32))).1) (by decide) (by decide) ?_
          show Steps p.tables e below (T7.setTop (mkF m 151 #[.val (.int p1), .val (.int p2), .val (.int p3), .val (.int (0 : Int32)), .val (.ref w_MONTH), .val (.int ((1 : Int32) + ((p2 &&& (2147483647 : Int32)) % (11 : Int32)))), .val (.int (p3 &&& (3 : Int32))), .val .null, .val (.ref b5), .val .null, .val (.int (0 : Int32))] [])) _
          refine XS.aload X7.here hx rfl (hb hby at_151) rfl rfl ?_
          show Steps p.tables e below (T7.setTop (mkF m 153 #[.val (.int p1), .val (.int p2), .val (.int p3), .val (.int (0 : Int32)), .val (.ref w_MONTH), .val (.int ((1 : Int32) + ((p2 &&& (2147483647 : Int32)) % (11 : Int32)))), .val (.int (p3 &&& (3 : Int32))), .val .null, .val (.ref b5), .val .null, .val (.int (0 : Int32))] [.null])) _
          refine XS.ifnonnullNo X7.here hx rfl (hb hby at_153) rfl ?_
          show Steps p.tables e below (T7.setTop (mkF m 156 #[.val (.int p1), .val (.int p2), .val (.int p3), .val (.int (0 : Int32)), .val (.ref w_MONTH), .val (.int ((1 : Int32) + ((p2 &&& (2147483647 : Int32)) % (11 : Int32)))), .val (.int (p3 &&& (3 : Int32))), .val .null, .val (.ref b5), .val .null, .val (.int (0 : Int32))] [])) _
          refine XS.iconst X7.here hx rfl (hb hby at_156) ?_
          show Steps p.tables e below (T7.setTop (mkF m 157 #[.val (.int p1), .val (.int p2), .val (.int p3), .val (.int (0 : Int32)), .val (.ref w_MONTH), .val (.int ((1 : Int32) + ((p2 &&& (2147483647 : Int32)) % (11 : Int32)))), .val (.int (p3 &&& (3 : Int32))), .val .null, .val (.ref b5), .val .null, .val (.int (0 : Int32))] [(.int (1 : Int32))])) _
          refine XS.goto X7.here hx rfl (pc0 := 157) (pc' := 161) rfl (hb hby at_157) (by decide) (by decide) ?_
          show Steps p.tables e below (T7.setTop (mkF m 161 #[.val (.int p1), .val (.int p2), .val (.int p3), .val (.int (0 : Int32)), .val (.ref w_MONTH), .val (.int ((1 : Int32) + ((p2 &&& (2147483647 : Int32)) % (11 : Int32)))), .val (.int (p3 &&& (3 : Int32))), .val .null, .val (.ref b5), .val .null, .val (.int (0 : Int32))] [(.int (1 : Int32))])) _
          exact retN X7 hx (t := .boolean) Bd.returns (by simp) (hb hby at_161) hr
        · exact ⟨rfl, N7⟩
  · skip
    obtain ⟨T2, X2, e2, st2⟩ := getS2 X0 hx hZ hown (host := "") (Or.inl (hw _ (List.mem_of_getElem? (i := 29) rfl))) Via.refl e0 (S_w_YEAR.ext O0.2) (g := (mkF m 16 #[.val (.int p1), .val (.int p2), .val (.int p3), .val (.int (1 : Int32)), .unset, .unset, .unset, .unset, .unset, .unset, .unset] [])) rfl (hb hby at_16)
    have c3 : ∀ t, Steps p.tables e below (T2.setTop (mkF m 53 #[.val (.int p1), .val (.int p2), .val (.int p3), .val (.int (1 : Int32)), .val (.ref w_YEAR), .val (.int ((1 : Int32) + ((p2 &&& (2147483647 : Int32)) % (5 : Int32)))), .val (.int (p3 &&& (3 : Int32))), .unset, .unset, .unset, .unset] [(.int (p3 &&& (3 : Int32)))])) t → Steps p.tables e below (s₁.setTop (entryFrame m #[(.int p1), (.int p2), (.int p3)] maxLocals)) t := fun t kt => c1 _ (by
      show Steps p.tables e below (s₁.setTop (mkF m 3 #[.val (.int p1), .val (.int p2), .val (.int p3), .unset, .unset, .unset, .unset, .unset, .unset, .unset, .unset] [(.int (p1 &&& (1 : Int32)))])) _
      refine XS.ifNo X0.here hx rfl (hb hby at_3) rfl ((if0 _ _).trans (feq hd0).1) ?_
      show Steps p.tables e below (s₁.setTop (mkF m 6 #[.val (.int p1), .val (.int p2), .val (.int p3), .unset, .unset, .unset, .unset, .unset, .unset, .unset, .unset] [])) _
      refine XS.iconst X0.here hx rfl (hb hby at_6) ?_
      show Steps p.tables e below (s₁.setTop (mkF m 7 #[.val (.int p1), .val (.int p2), .val (.int p3), .unset, .unset, .unset, .unset, .unset, .unset, .unset, .unset] [(.int (1 : Int32))])) _
      refine XS.goto X0.here hx rfl (pc0 := 7) (pc' := 11) rfl (hb hby at_7) (by decide) (by decide) ?_
      show Steps p.tables e below (s₁.setTop (mkF m 11 #[.val (.int p1), .val (.int p2), .val (.int p3), .unset, .unset, .unset, .unset, .unset, .unset, .unset, .unset] [(.int (1 : Int32))])) _
      refine XS.istoreN X0.here hx rfl (hb hby at_11) rfl (l' := #[.val (.int p1), .val (.int p2), .val (.int p3), .val (.int (1 : Int32)), .unset, .unset, .unset, .unset, .unset, .unset, .unset]) rfl ?_
      show Steps p.tables e below (s₁.setTop (mkF m 12 #[.val (.int p1), .val (.int p2), .val (.int p3), .val (.int (1 : Int32)), .unset, .unset, .unset, .unset, .unset, .unset, .unset] [])) _
      refine XS.iloadN X0.here hx rfl (hb hby at_12) rfl ?_
      show Steps p.tables e below (s₁.setTop (mkF m 13 #[.val (.int p1), .val (.int p2), .val (.int p3), .val (.int (1 : Int32)), .unset, .unset, .unset, .unset, .unset, .unset, .unset] [(.int (1 : Int32))])) _
      refine XS.ifNo X0.here hx rfl (hb hby at_13) rfl ((if0 _ _).trans (feq (by decide : ¬ ((1 : Int32) = (0 : Int32)))).1) ?_
      show Steps p.tables e below (s₁.setTop (mkF m 16 #[.val (.int p1), .val (.int p2), .val (.int p3), .val (.int (1 : Int32)), .unset, .unset, .unset, .unset, .unset, .unset, .unset] [])) _
      refine st2 _ ?_
      show Steps p.tables e below (T2.setTop (mkF m 19 #[.val (.int p1), .val (.int p2), .val (.int p3), .val (.int (1 : Int32)), .unset, .unset, .unset, .unset, .unset, .unset, .unset] [(.ref w_YEAR)])) _
      refine XS.goto X2.here hx rfl (pc0 := 19) (pc' := 25) rfl (hb hby at_19) (by decide) (by decide) ?_
      show Steps p.tables e below (T2.setTop (mkF m 25 #[.val (.int p1), .val (.int p2), .val (.int p3), .val (.int (1 : Int32)), .unset, .unset, .unset, .unset, .unset, .unset, .unset] [(.ref w_YEAR)])) _
      refine XS.astore X2.here hx rfl (hb hby at_25) rfl rfl (l' := #[.val (.int p1), .val (.int p2), .val (.int p3), .val (.int (1 : Int32)), .val (.ref w_YEAR), .unset, .unset, .unset, .unset, .unset, .unset]) rfl ?_
      show Steps p.tables e below (T2.setTop (mkF m 27 #[.val (.int p1), .val (.int p2), .val (.int p3), .val (.int (1 : Int32)), .val (.ref w_YEAR), .unset, .unset, .unset, .unset, .unset, .unset] [])) _
      refine XS.iconst X2.here hx rfl (hb hby at_27) ?_
      show Steps p.tables e below (T2.setTop (mkF m 28 #[.val (.int p1), .val (.int p2), .val (.int p3), .val (.int (1 : Int32)), .val (.ref w_YEAR), .unset, .unset, .unset, .unset, .unset, .unset] [(.int (1 : Int32))])) _
      refine XS.iloadN X2.here hx rfl (hb hby at_28) rfl ?_
      show Steps p.tables e below (T2.setTop (mkF m 29 #[.val (.int p1), .val (.int p2), .val (.int p3), .val (.int (1 : Int32)), .val (.ref w_YEAR), .unset, .unset, .unset, .unset, .unset, .unset] [(.int p2), (.int (1 : Int32))])) _
      refine X2.ldcInt hx hown (mvT hZ (hw _ (List.mem_of_getElem? (i := 3) rfl))) (g := (mkF m 29 #[.val (.int p1), .val (.int p2), .val (.int p3), .val (.int (1 : Int32)), .val (.ref w_YEAR), .unset, .unset, .unset, .unset, .unset, .unset] [(.int p2), (.int (1 : Int32))])) rfl (hb hby at_29) _ ?_
      show Steps p.tables e below (T2.setTop (mkF m 31 #[.val (.int p1), .val (.int p2), .val (.int p3), .val (.int (1 : Int32)), .val (.ref w_YEAR), .unset, .unset, .unset, .unset, .unset, .unset] [(.int (2147483647 : Int32)), (.int p2), (.int (1 : Int32))])) _
      refine XS.iand X2.here hx rfl (hb hby at_31) rfl ?_
      show Steps p.tables e below (T2.setTop (mkF m 32 #[.val (.int p1), .val (.int p2), .val (.int p3), .val (.int (1 : Int32)), .val (.ref w_YEAR), .unset, .unset, .unset, .unset, .unset, .unset] [(.int (p2 &&& (2147483647 : Int32))), (.int (1 : Int32))])) _
      refine XS.iloadN X2.here hx rfl (hb hby at_32) rfl ?_
      show Steps p.tables e below (T2.setTop (mkF m 33 #[.val (.int p1), .val (.int p2), .val (.int p3), .val (.int (1 : Int32)), .val (.ref w_YEAR), .unset, .unset, .unset, .unset, .unset, .unset] [(.int (1 : Int32)), (.int (p2 &&& (2147483647 : Int32))), (.int (1 : Int32))])) _
      refine XS.ifNo X2.here hx rfl (hb hby at_33) rfl ((if0 _ _).trans (feq (by decide : ¬ ((1 : Int32) = (0 : Int32)))).1) ?_
      show Steps p.tables e below (T2.setTop (mkF m 36 #[.val (.int p1), .val (.int p2), .val (.int p3), .val (.int (1 : Int32)), .val (.ref w_YEAR), .unset, .unset, .unset, .unset, .unset, .unset] [(.int (p2 &&& (2147483647 : Int32))), (.int (1 : Int32))])) _
      refine XS.iconst X2.here hx rfl (hb hby at_36) ?_
      show Steps p.tables e below (T2.setTop (mkF m 37 #[.val (.int p1), .val (.int p2), .val (.int p3), .val (.int (1 : Int32)), .val (.ref w_YEAR), .unset, .unset, .unset, .unset, .unset, .unset] [(.int (5 : Int32)), (.int (p2 &&& (2147483647 : Int32))), (.int (1 : Int32))])) _
      refine XS.goto X2.here hx rfl (pc0 := 37) (pc' := 42) rfl (hb hby at_37) (by decide) (by decide) ?_
      show Steps p.tables e below (T2.setTop (mkF m 42 #[.val (.int p1), .val (.int p2), .val (.int p3), .val (.int (1 : Int32)), .val (.ref w_YEAR), .unset, .unset, .unset, .unset, .unset, .unset] [(.int (5 : Int32)), (.int (p2 &&& (2147483647 : Int32))), (.int (1 : Int32))])) _
      refine iremM X2 hx rfl (hb hby at_42) rfl (by decide) ?_
      show Steps p.tables e below (T2.setTop (mkF m 43 #[.val (.int p1), .val (.int p2), .val (.int p3), .val (.int (1 : Int32)), .val (.ref w_YEAR), .unset, .unset, .unset, .unset, .unset, .unset] [(.int ((p2 &&& (2147483647 : Int32)) % (5 : Int32))), (.int (1 : Int32))])) _
      refine XS.iadd X2.here hx rfl (hb hby at_43) rfl ?_
      show Steps p.tables e below (T2.setTop (mkF m 44 #[.val (.int p1), .val (.int p2), .val (.int p3), .val (.int (1 : Int32)), .val (.ref w_YEAR), .unset, .unset, .unset, .unset, .unset, .unset] [(.int ((1 : Int32) + ((p2 &&& (2147483647 : Int32)) % (5 : Int32))))])) _
      refine XS.istore X2.here hx rfl (hb hby at_44) rfl (l' := #[.val (.int p1), .val (.int p2), .val (.int p3), .val (.int (1 : Int32)), .val (.ref w_YEAR), .val (.int ((1 : Int32) + ((p2 &&& (2147483647 : Int32)) % (5 : Int32)))), .unset, .unset, .unset, .unset, .unset]) rfl ?_
      show Steps p.tables e below (T2.setTop (mkF m 46 #[.val (.int p1), .val (.int p2), .val (.int p3), .val (.int (1 : Int32)), .val (.ref w_YEAR), .val (.int ((1 : Int32) + ((p2 &&& (2147483647 : Int32)) % (5 : Int32)))), .unset, .unset, .unset, .unset, .unset] [])) _
      refine XS.iloadN X2.here hx rfl (hb hby at_46) rfl ?_
      show Steps p.tables e below (T2.setTop (mkF m 47 #[.val (.int p1), .val (.int p2), .val (.int p3), .val (.int (1 : Int32)), .val (.ref w_YEAR), .val (.int ((1 : Int32) + ((p2 &&& (2147483647 : Int32)) % (5 : Int32)))), .unset, .unset, .unset, .unset, .unset] [(.int p3)])) _
      refine XS.iconst X2.here hx rfl (hb hby at_47) ?_
      show Steps p.tables e below (T2.setTop (mkF m 48 #[.val (.int p1), .val (.int p2), .val (.int p3), .val (.int (1 : Int32)), .val (.ref w_YEAR), .val (.int ((1 : Int32) + ((p2 &&& (2147483647 : Int32)) % (5 : Int32)))), .unset, .unset, .unset, .unset, .unset] [(.int (3 : Int32)), (.int p3)])) _
      refine XS.iand X2.here hx rfl (hb hby at_48) rfl ?_
      show Steps p.tables e below (T2.setTop (mkF m 49 #[.val (.int p1), .val (.int p2), .val (.int p3), .val (.int (1 : Int32)), .val (.ref w_YEAR), .val (.int ((1 : Int32) + ((p2 &&& (2147483647 : Int32)) % (5 : Int32)))), .unset, .unset, .unset, .unset, .unset] [(.int (p3 &&& (3 : Int32)))])) _
      refine XS.istore X2.here hx rfl (hb hby at_49) rfl (l' := #[.val (.int p1), .val (.int p2), .val (.int p3), .val (.int (1 : Int32)), .val (.ref w_YEAR), .val (.int ((1 : Int32) + ((p2 &&& (2147483647 : Int32)) % (5 : Int32)))), .val (.int (p3 &&& (3 : Int32))), .unset, .unset, .unset, .unset]) rfl ?_
      show Steps p.tables e below (T2.setTop (mkF m 51 #[.val (.int p1), .val (.int p2), .val (.int p3), .val (.int (1 : Int32)), .val (.ref w_YEAR), .val (.int ((1 : Int32) + ((p2 &&& (2147483647 : Int32)) % (5 : Int32)))), .val (.int (p3 &&& (3 : Int32))), .unset, .unset, .unset, .unset] [])) _
      refine XS.iload X2.here hx rfl (hb hby at_51) rfl ?_
      show Steps p.tables e below (T2.setTop (mkF m 53 #[.val (.int p1), .val (.int p2), .val (.int p3), .val (.int (1 : Int32)), .val (.ref w_YEAR), .val (.int ((1 : Int32) + ((p2 &&& (2147483647 : Int32)) % (5 : Int32)))), .val (.int (p3 &&& (3 : Int32))), .unset, .unset, .unset, .unset] [(.int (p3 &&& (3 : Int32)))])) _
      exact kt)
    by_cases hd1 : (p3 &&& (3 : Int32)) = (0 : Int32)
    · skip
      obtain ⟨T4, X4, e4, st4⟩ := getS2 X2 hx hZ hown (host := "") (Or.inl (hw _ (List.mem_of_getElem? (i := 0) rfl))) Via.refl e2 (S_w_MONTH.ext O0.2) (g := (mkF m 56 #[.val (.int p1), .val (.int p2), .val (.int p3), .val (.int (1 : Int32)), .val (.ref w_YEAR), .val (.int ((1 : Int32) + ((p2 &&& (2147483647 : Int32)) % (5 : Int32)))), .val (.int (p3 &&& (3 : Int32))), .unset, .unset, .unset, .unset] [])) rfl (hb hby at_56)
      obtain ⟨T5, h5, X5, e5, E5, A5, D5, -, st5⟩ := newO X4 hx hZ hown (hw _ (List.mem_of_getElem? (i := 4) rfl)) (hw _ (List.mem_of_getElem? (i := 5) rfl)) (hw _ (List.mem_of_getElem? (i := 6) rfl)) e4 (g := (mkF m 77 #[.val (.int p1), .val (.int p2), .val (.int p3), .val (.int (1 : Int32)), .val (.ref w_YEAR), .val (.int ((1 : Int32) + ((p2 &&& (2147483647 : Int32)) % (5 : Int32)))), .val (.int (p3 &&& (3 : Int32))), .val (.ref w_MONTH), .unset, .unset, .unset] [])) rfl (hb hby at_77) (by decide) (by decide)
      obtain ⟨b5, gg5⟩ : ∃ z, z = h0.size := ⟨_, rfl⟩
      rw [← gg5] at A5 D5 st5
      have bo_b5 : h0.size ≤ b5 := Nat.le_of_eq gg5.symm
      have g_b5 : n0 ≤ b5 := Nat.le_trans (own_n0 O0) bo_b5
      have O5 := O0.ext E5
      have F_length_b5 : Fld Z h5 b5 "com/example/metered_billing/meteredbilling/plan/Term" "length" "I" (.int (0 : Int32)) := D5 (Or.inr (hw _ (List.mem_of_getElem? (i := 21) rfl))) (ty := .int) (by decide)
      have F_unit_b5 : Fld Z h5 b5 "com/example/metered_billing/meteredbilling/plan/Term" "unit" "Lcom/example/metered_billing/meteredbilling/plan/Term$Unit;" .null := D5 (Or.inr (hw _ (List.mem_of_getElem? (i := 23) rfl))) (ty := (.object "com/example/metered_billing/meteredbilling/plan/Term$Unit")) (by decide)
      obtain ⟨_, _, ⟨T6, L6, k6, n6⟩, -, X6, ⟨Lc6, hQ6, l6, y6, z6⟩, st6⟩ := X5.specialBack hx (y := (⟨"com/example/metered_billing/meteredbilling/plan/Term", "<init>", "(ILcom/example/metered_billing/meteredbilling/plan/Term$Unit;)V"⟩ : MethodName)) rfl hown (mvT hZ (hw _ (List.mem_of_getElem? (i := 7) rfl))) (mvT hZ (hw _ (List.mem_of_getElem? (i := 8) rfl))) (mvT hZ (hw _ (List.mem_of_getElem? (i := 9) rfl))) (by decide) (backOf (W := 1) (rm1_7 l Z a0 hw [] w_MONTH w_YEAR w_cache cl_w_cache b5 ((1 : Int32) + ((p2 &&& (2147483647 : Int32)) % (5 : Int32))) h5 n0 (own_n0 O5) O5 HW A5 F_length_b5 F_unit_b5 g_b5 (own_lo5 p2) (own_hi5 p2)) hZ (hw _ (List.mem_of_getElem? (i := 9) rfl)) (hw _ (List.mem_of_getElem? (i := 6) rfl)) (by decide) (by decide)) (g := (mkF m 85 #[.val (.int p1), .val (.int p2), .val (.int p3), .val (.int (1 : Int32)), .val (.ref w_YEAR), .val (.int ((1 : Int32) + ((p2 &&& (2147483647 : Int32)) % (5 : Int32)))), .val (.int (p3 &&& (3 : Int32))), .val (.ref w_MONTH), .unset, .unset, .unset] [(.ref w_YEAR), (.int ((1 : Int32) + ((p2 &&& (2147483647 : Int32)) % (5 : Int32)))), (.ref b5), (.ref b5)])) rfl (by rw [hml]; rfl) (Steps.refl _) (a := b5) (argsL := [(.int ((1 : Int32) + ((p2 &&& (2147483647 : Int32)) % (5 : Int32)))), (.ref w_YEAR)]) (rest := [(.ref b5)]) (lenOf pd27 rfl) rfl (by show 2 * 0 + _ ≤ _; exact Nat.le_of_eq rfl) (hb hby at_85) (fun _ _ => ⟨rfl, e5, (by decide : 1 + 0 ≤ _), (by decide : 2 + 0 ≤ _)⟩)
      dsimp only [Pt.U, Pt.locs, Pt.cells, Pt.slots] at X6 l6 y6 z6 st6 hQ6
      subst l6 y6 z6
      obtain ⟨rfl, N6q, K6, O6, pf6_0, pf6_1, pf6_2, -⟩ := hQ6
      have N6 := Fr.app N0 N6q
      obtain ⟨cq7, kq7, q7a, q7b, q7c⟩ := isOf hZ rfl pf6_0
      obtain ⟨_, _, ⟨T7, L7, k7, n7⟩, -, X7, ⟨Lc7, hQ7, l7, y7, z7⟩, st7⟩ := X6.virtualBack hx (y := (⟨"com/example/metered_billing/meteredbilling/plan/Term", "lengthIn", "(Lcom/example/metered_billing/meteredbilling/plan/Term$Unit;)Ljava/lang/Integer;"⟩ : MethodName)) (z := (⟨"com/example/metered_billing/meteredbilling/plan/Term", "lengthIn", "(Lcom/example/metered_billing/meteredbilling/plan/Term$Unit;)Ljava/lang/Integer;"⟩ : MethodName)) hown (mvT hZ (hw _ (List.mem_of_getElem? (i := 24) rfl))) (mvT hZ (hw _ (List.mem_of_getElem? (i := 25) rfl))) (notFace_of_selects (args := #[]) (mvT hZ (hw _ (List.mem_of_getElem? (i := 27) rfl)))) (mvT hZ (hw _ (List.mem_of_getElem? (i := 27) rfl))) (mvT hZ (hw _ (List.mem_of_getElem? (i := 26) rfl))) (by decide) (backOf (W := 0) (rm4_8 l Z a0 hw [] w_MONTH w_YEAR w_cache cl_w_cache b5 ((1 : Int32) + ((p2 &&& (2147483647 : Int32)) % (5 : Int32))) T6.heap n0 (own_n0 O6) O6 HW pf6_0 pf6_1 pf6_2) hZ (hw _ (List.mem_of_getElem? (i := 28) rfl)) (hw _ (List.mem_of_getElem? (i := 6) rfl)) (by decide) (by decide)) q7a q7c (g := (mkF m 94 #[.val (.int p1), .val (.int p2), .val (.int p3), .val (.int (1 : Int32)), .val (.ref w_YEAR), .val (.int ((1 : Int32) + ((p2 &&& (2147483647 : Int32)) % (5 : Int32)))), .val (.int (p3 &&& (3 : Int32))), .val (.ref w_MONTH), .val (.ref b5), .unset, .unset] [(.ref w_MONTH), (.ref b5)])) rfl (by rw [hml]; rfl) (Steps.refl _) (argsL := [(.ref w_MONTH)]) (rest := []) (lenOf pd55 rfl) rfl (by show 2 * 0 + _ ≤ _; exact Nat.le_of_eq rfl) (hb hby at_94) (fun _ _ => ⟨rfl, rfl, (by decide : 1 + 0 ≤ _), (by decide : 2 + 0 ≤ _)⟩)
      dsimp only [Pt.U, Pt.locs, Pt.cells, Pt.slots] at X7 l7 y7 z7 st7 hQ7
      subst l7 y7 z7
      obtain ⟨rfl, N7q, e7⟩ := hQ7
      have N7 := Fr.app N6 N7q
      obtain ⟨fs, hr, hrun, hended, hW, hsame⟩ := X7.leave (v := some (.int (1 : Int32))) (fun h => by rw [Bd.returns] at h; cases h)
      refine ⟨_, _, c3 _ ?_, hrun, hended, _, _, rfl, ?_, ⟨_, rfl⟩, hW, hsame.mono (by decide) (by decide)⟩
      · show Steps p.tables e below (T2.setTop (mkF m 53 #[.val (.int p1), .val (.int p2), .val (.int p3), .val (.int (1 : Int32)), .val (.ref w_YEAR), .val (.int ((1 : Int32) + ((p2 &&& (2147483647 : Int32)) % (5 : Int32)))), .val (.int (p3 &&& (3 : Int32))), .unset, .unset, .unset, .unset] [(.int (p3 &&& (3 : Int32)))])) _
        refine XS.ifNo X2.here hx rfl (hb hby at_53) rfl ((if0 _ _).trans (teq hd1).2) ?_
        show Steps p.tables e below (T2.setTop (mkF m 56 #[.val (.int p1), .val (.int p2), .val (.int p3), .val (.int (1 : Int32)), .val (.ref w_YEAR), .val (.int ((1 : Int32) + ((p2 &&& (2147483647 : Int32)) % (5 : Int32)))), .val (.int (p3 &&& (3 : Int32))), .unset, .unset, .unset, .unset] [])) _
        refine st4 _ ?_
        show Steps p.tables e below (T4.setTop (mkF m 59 #[.val (.int p1), .val (.int p2), .val (.int p3), .val (.int (1 : Int32)), .val (.ref w_YEAR), .val (.int ((1 : Int32) + ((p2 &&& (2147483647 : Int32)) % (5 : Int32)))), .val (.int (p3 &&& (3 : Int32))), .unset, .unset, .unset, .unset] [(.ref w_MONTH)])) _
        refine XS.goto X4.here hx rfl (pc0 := 59) (pc' := 75) rfl (hb hby at_59) (by decide) (by decide) ?_
        show Steps p.tables e below (T4.setTop (mkF m 75 #[.val (.int p1), .val (.int p2), .val (.int p3), .val (.int (1 : Int32)), .val (.ref w_YEAR), .val (.int ((1 : Int32) + ((p2 &&& (2147483647 : Int32)) % (5 : Int32)))), .val (.int (p3 &&& (3 : Int32))), .unset, .unset, .unset, .unset] [(.ref w_MONTH)])) _
        refine XS.astore X4.here hx rfl (hb hby at_75) rfl rfl (l' := #[.val (.int p1), .val (.int p2), .val (.int p3), .val (.int (1 : Int32)), .val (.ref w_YEAR), .val (.int ((1 : Int32) + ((p2 &&& (2147483647 : Int32)) % (5 : Int32)))), .val (.int (p3 &&& (3 : Int32))), .val (.ref w_MONTH), .unset, .unset, .unset]) rfl ?_
        show Steps p.tables e below (T4.setTop (mkF m 77 #[.val (.int p1), .val (.int p2), .val (.int p3), .val (.int (1 : Int32)), .val (.ref w_YEAR), .val (.int ((1 : Int32) + ((p2 &&& (2147483647 : Int32)) % (5 : Int32)))), .val (.int (p3 &&& (3 : Int32))), .val (.ref w_MONTH), .unset, .unset, .unset] [])) _
        refine st5 _ ?_
        show Steps p.tables e below (T5.setTop (mkF m 80 #[.val (.int p1), .val (.int p2), .val (.int p3), .val (.int (1 : Int32)), .val (.ref w_YEAR), .val (.int ((1 : Int32) + ((p2 &&& (2147483647 : Int32)) % (5 : Int32)))), .val (.int (p3 &&& (3 : Int32))), .val (.ref w_MONTH), .unset, .unset, .unset] [(.ref b5)])) _
        refine XS.dup X5.here hx rfl (hb hby at_80) rfl rfl ?_
        show Steps p.tables e below (T5.setTop (mkF m 81 #[.val (.int p1), .val (.int p2), .val (.int p3), .val (.int (1 : Int32)), .val (.ref w_YEAR), .val (.int ((1 : Int32) + ((p2 &&& (2147483647 : Int32)) % (5 : Int32)))), .val (.int (p3 &&& (3 : Int32))), .val (.ref w_MONTH), .unset, .unset, .unset] [(.ref b5), (.ref b5)])) _
        refine XS.iload X5.here hx rfl (hb hby at_81) rfl ?_
        show Steps p.tables e below (T5.setTop (mkF m 83 #[.val (.int p1), .val (.int p2), .val (.int p3), .val (.int (1 : Int32)), .val (.ref w_YEAR), .val (.int ((1 : Int32) + ((p2 &&& (2147483647 : Int32)) % (5 : Int32)))), .val (.int (p3 &&& (3 : Int32))), .val (.ref w_MONTH), .unset, .unset, .unset] [(.int ((1 : Int32) + ((p2 &&& (2147483647 : Int32)) % (5 : Int32)))), (.ref b5), (.ref b5)])) _
        refine XS.aload X5.here hx rfl (hb hby at_83) rfl rfl ?_
        show Steps p.tables e below (T5.setTop (mkF m 85 #[.val (.int p1), .val (.int p2), .val (.int p3), .val (.int (1 : Int32)), .val (.ref w_YEAR), .val (.int ((1 : Int32) + ((p2 &&& (2147483647 : Int32)) % (5 : Int32)))), .val (.int (p3 &&& (3 : Int32))), .val (.ref w_MONTH), .unset, .unset, .unset] [(.ref w_YEAR), (.int ((1 : Int32) + ((p2 &&& (2147483647 : Int32)) % (5 : Int32)))), (.ref b5), (.ref b5)])) _
        refine st6.trans ?_
        show Steps p.tables e below (T6.setTop (mkF m 88 #[.val (.int p1), .val (.int p2), .val (.int p3), .val (.int (1 : Int32)), .val (.ref w_YEAR), .val (.int ((1 : Int32) + ((p2 &&& (2147483647 : Int32)) % (5 : Int32)))), .val (.int (p3 &&& (3 : Int32))), .val (.ref w_MONTH), .unset, .unset, .unset] [(.ref b5)])) _
        refine XS.astore X6.here hx rfl (hb hby at_88) rfl rfl (l' := #[.val (.int p1), .val (.int p2), .val (.int p3), .val (.int (1 : Int32)), .val (.ref w_YEAR), .val (.int ((1 : Int32) + ((p2 &&& (2147483647 : Int32)) % (5 : Int32)))), .val (.int (p3 &&& (3 : Int32))), .val (.ref w_MONTH), .val (.ref b5), .unset, .unset]) rfl ?_
        show Steps p.tables e below (T6.setTop (mkF m 90 #[.val (.int p1), .val (.int p2), .val (.int p3), .val (.int (1 : Int32)), .val (.ref w_YEAR), .val (.int ((1 : Int32) + ((p2 &&& (2147483647 : Int32)) % (5 : Int32)))), .val (.int (p3 &&& (3 : Int32))), .val (.ref w_MONTH), .val (.ref b5), .unset, .unset] [])) _
        refine XS.aload X6.here hx rfl (hb hby at_90) rfl rfl ?_
        show Steps p.tables e below (T6.setTop (mkF m 92 #[.val (.int p1), .val (.int p2), .val (.int p3), .val (.int (1 : Int32)), .val (.ref w_YEAR), .val (.int ((1 : Int32) + ((p2 &&& (2147483647 : Int32)) % (5 : Int32)))), .val (.int (p3 &&& (3 : Int32))), .val (.ref w_MONTH), .val (.ref b5), .unset, .unset] [(.ref b5)])) _
        refine XS.aload X6.here hx rfl (hb hby at_92) rfl rfl ?_
        show Steps p.tables e below (T6.setTop (mkF m 94 #[.val (.int p1), .val (.int p2), .val (.int p3), .val (.int (1 : Int32)), .val (.ref w_YEAR), .val (.int ((1 : Int32) + ((p2 &&& (2147483647 : Int32)) % (5 : Int32)))), .val (.int (p3 &&& (3 : Int32))), .val (.ref w_MONTH), .val (.ref b5), .unset, .unset] [(.ref w_MONTH), (.ref b5)])) _
        refine st7.trans ?_
        show Steps p.tables e below (T7.setTop (mkF m 97 #[.val (.int p1), .val (.int p2), .val (.int p3), .val (.int (1 : Int32)), .val (.ref w_YEAR), .val (.int ((1 : Int32) + ((p2 &&& (2147483647 : Int32)) % (5 : Int32)))), .val (.int (p3 &&& (3 : Int32))), .val (.ref w_MONTH), .val (.ref b5), .unset, .unset] [.null])) _
        refine XS.astore X7.here hx rfl (hb hby at_97) rfl rfl (l' := #[.val (.int p1), .val (.int p2), .val (.int p3), .val (.int (1 : Int32)), .val (.ref w_YEAR), .val (.int ((1 : Int32) + ((p2 &&& (2147483647 : Int32)) % (5 : Int32)))), .val (.int (p3 &&& (3 : Int32))), .val (.ref w_MONTH), .val (.ref b5), .val .null, .unset]) rfl ?_
        show Steps p.tables e below (T7.setTop (mkF m 99 #[.val (.int p1), .val (.int p2), .val (.int p3), .val (.int (1 : Int32)), .val (.ref w_YEAR), .val (.int ((1 : Int32) + ((p2 &&& (2147483647 : Int32)) % (5 : Int32)))), .val (.int (p3 &&& (3 : Int32))), .val (.ref w_MONTH), .val (.ref b5), .val .null, .unset] [])) _
        refine XS.iload X7.here hx rfl (hb hby at_99) rfl ?_
        show Steps p.tables e below (T7.setTop (mkF m 101 #[.val (.int p1), .val (.int p2), .val (.int p3), .val (.int (1 : Int32)), .val (.ref w_YEAR), .val (.int ((1 : Int32) + ((p2 &&& (2147483647 : Int32)) % (5 : Int32)))), .val (.int (p3 &&& (3 : Int32))), .val (.ref w_MONTH), .val (.ref b5), .val .null, .unset] [(.int (p3 &&& (3 : Int32)))])) _
        refine XS.ifNo X7.here hx rfl (hb hby at_101) rfl ((if0 _ _).trans (teq hd1).2) ?_
        show Steps p.tables e below (T7.setTop (mkF m 104 #[.val (.int p1), .val (.int p2), .val (.int p3), .val (.int (1 : Int32)), .val (.ref w_YEAR), .val (.int ((1 : Int32) + ((p2 &&& (2147483647 : Int32)) % (5 : Int32)))), .val (.int (p3 &&& (3 : Int32))), .val (.ref w_MONTH), .val (.ref b5), .val .null, .unset] [])) _
        refine XS.iloadN X7.here hx rfl (hb hby at_104) rfl ?_
        show Steps p.tables e below (T7.setTop (mkF m 105 #[.val (.int p1), .val (.int p2), .val (.int p3), .val (.int (1 : Int32)), .val (.ref w_YEAR), .val (.int ((1 : Int32) + ((p2 &&& (2147483647 : Int32)) % (5 : Int32)))), .val (.int (p3 &&& (3 : Int32))), .val (.ref w_MONTH), .val (.ref b5), .val .null, .unset] [(.int (1 : Int32))])) _
        refine XS.ifNo X7.here hx rfl (hb hby at_105) rfl ((if0 _ _).trans (feq (by decide : ¬ ((1 : Int32) = (0 : Int32)))).1) ?_
        show Steps p.tables e below (T7.setTop (mkF m 108 #[.val (.int p1), .val (.int p2), .val (.int p3), .val (.int (1 : Int32)), .val (.ref w_YEAR), .val (.int ((1 : Int32) + ((p2 &&& (2147483647 : Int32)) % (5 : Int32)))), .val (.int (p3 &&& (3 : Int32))), .val (.ref w_MONTH), .val (.ref b5), .val .null, .unset] [])) _
        refine XS.iload X7.here hx rfl (hb hby at_108) rfl ?_
        show Steps p.tables e below (T7.setTop (mkF m 110 #[.val (.int p1), .val (.int p2), .val (.int p3), .val (.int (1 : Int32)), .val (.ref w_YEAR), .val (.int ((1 : Int32) + ((p2 &&& (2147483647 : Int32)) % (5 : Int32)))), .val (.int (p3 &&& (3 : Int32))), .val (.ref w_MONTH), .val (.ref b5), .val .null, .unset] [(.int (p3 &&& (3 : Int32)))])) _
        refine XS.iconst X7.here hx rfl (hb hby at_110) ?_
        show Steps p.tables e below (T7.setTop (mkF m 111 #[.val (.int p1), .val (.int p2), .val (.int p3), .val (.int (1 : Int32)), .val (.ref w_YEAR), .val (.int ((1 : Int32) + ((p2 &&& (2147483647 : Int32)) % (5 : Int32)))), .val (.int (p3 &&& (3 : Int32))), .val (.ref w_MONTH), .val (.ref b5), .val .null, .unset] [(.int (1 : Int32)), (.int (p3 &&& (3 : Int32)))])) _
        refine XS.icmpYes X7.here hx rfl (pc0 := 111) (pc' := 122) rfl (hb hby at_111) rfl (feq (by rw [hd1]; decide : ¬ ((p3 &&& (3 : Int32)) = (1 : Int32)))).2 (by decide) (by decide) ?_
        show Steps p.tables e below (T7.setTop (mkF m 122 #[.val (.int p1), .val (.int p2), .val (.int p3), .val (.int (1 : Int32)), .val (.ref w_YEAR), .val (.int ((1 : Int32) + ((p2 &&& (2147483647 : Int32)) % (5 : Int32)))), .val (.int (p3 &&& (3 : Int32))), .val (.ref w_MONTH), .val (.ref b5), .val .null, .unset] [])) _
        refine XS.iconst X7.here hx rfl (hb hby at_122) ?_
        show Steps p.tables e below (T7.setTop (mkF m 123 #[.val (.int p1), .val (.int p2), .val (.int p3), .val (.int (1 : Int32)), .val (.ref w_YEAR), .val (.int ((1 : Int32) + ((p2 &&& (2147483647 : Int32)) % (5 : Int32)))), .val (.int (p3 &&& (3 : Int32))), .val (.ref w_MONTH), .val (.ref b5), .val .null, .unset] [(.int (0 : Int32))])) _
        refine XS.istore X7.here hx rfl (hb hby at_123) rfl (l' := #[.val (.int p1), .val (.int p2), .val (.int p3), .val (.int (1 : Int32)), .val (.ref w_YEAR), .val (.int ((1 : Int32) + ((p2 &&& (2147483647 : Int32)) % (5 : Int32)))), .val (.int (p3 &&& (3 : Int32))), .val (.ref w_MONTH), .val (.ref b5), .val .null, .val (.int (0 : Int32))]) rfl ?_
        show Steps p.tables e below (T7.setTop (mkF m 125 #[.val (.int p1), .val (.int p2), .val (.int p3), .val (.int (1 : Int32)), .val (.ref w_YEAR), .val (.int ((1 : Int32) + ((p2 &&& (2147483647 : Int32)) % (5 : Int32)))), .val (.int (p3 &&& (3 : Int32))), .val (.ref w_MONTH), .val (.ref b5), .val .null, .val (.int (0 : Int32))] [])) _
        refine XS.iload X7.here hx rfl (hb hby at_125) rfl ?_
        show Steps p.tables e below (T7.setTop (mkF m 127 #[.val (.int p1), .val (.int p2), .val (.int p3), .val (.int (1 : Int32)), .val (.ref w_YEAR), .val (.int ((1 : Int32) + ((p2 &&& (2147483647 : Int32)) % (5 : Int32)))), .val (.int (p3 &&& (3 : Int32))), .val (.ref w_MONTH), .val (.ref b5), .val .null, .val (.int (0 : Int32))] [(.int (0 : Int32))])) _
        refine XS.ifYes X7.here hx rfl (pc0 := 127) (pc' := 151) rfl (hb hby at_127) rfl ((if0 _ _).trans (teq (by decide : (0 : Int32) = (0 : Int32))).1) (by decide) (by decide) ?_
        show Steps p.tables e below (T7.setTop (mkF m 151 #[.val (.int p1), .val (.int p2), .val (.int p3), .val (.int (1 : Int32)), .val (.ref w_YEAR), .val (.int ((1 : Int32) + ((p2 &&& (2147483647 : Int32)) % (5 : Int32)))), .val (.int (p3 &&& (3 : Int32))), .val (.ref w_MONTH), .val (.ref b5), .val .null, .val (.int (0 : Int32))] [])) _
        refine XS.aload X7.here hx rfl (hb hby at_151) rfl rfl ?_
        show Steps p.tables e below (T7.setTop (mkF m 153 #[.val (.int p1), .val (.int p2), .val (.int p3), .val (.int (1 : Int32)), .val (.ref w_YEAR), .val (.int ((1 : Int32) + ((p2 &&& (2147483647 : Int32)) % (5 : Int32)))), .val (.int (p3 &&& (3 : Int32))), .val (.ref w_MONTH), .val (.ref b5), .val .null, .val (.int (0 : Int32))] [.null])) _
        refine XS.ifnonnullNo X7.here hx rfl (hb hby at_153) rfl ?_
        show Steps p.tables e below (T7.setTop (mkF m 156 #[.val (.int p1), .val (.int p2), .val (.int p3), .val (.int (1 : Int32)), .val (.ref w_YEAR), .val (.int ((1 : Int32) + ((p2 &&& (2147483647 : Int32)) % (5 : Int32)))), .val (.int (p3 &&& (3 : Int32))), .val (.ref w_MONTH), .val (.ref b5), .val .null, .val (.int (0 : Int32))] [])) _
        refine XS.iconst X7.here hx rfl (hb hby at_156) ?_
        show Steps p.tables e below (T7.setTop (mkF m 157 #[.val (.int p1), .val (.int p2), .val (.int p3), .val (.int (1 : Int32)), .val (.ref w_YEAR), .val (.int ((1 : Int32) + ((p2 &&& (2147483647 : Int32)) % (5 : Int32)))), .val (.int (p3 &&& (3 : Int32))), .val (.ref w_MONTH), .val (.ref b5), .val .null, .val (.int (0 : Int32))] [(.int (1 : Int32))])) _
        refine XS.goto X7.here hx rfl (pc0 := 157) (pc' := 161) rfl (hb hby at_157) (by decide) (by decide) ?_
        show Steps p.tables e below (T7.setTop (mkF m 161 #[.val (.int p1), .val (.int p2), .val (.int p3), .val (.int (1 : Int32)), .val (.ref w_YEAR), .val (.int ((1 : Int32) + ((p2 &&& (2147483647 : Int32)) % (5 : Int32)))), .val (.int (p3 &&& (3 : Int32))), .val (.ref w_MONTH), .val (.ref b5), .val .null, .val (.int (0 : Int32))] [(.int (1 : Int32))])) _
        exact retN X7 hx (t := .boolean) Bd.returns (by simp) (hb hby at_161) hr
      · exact ⟨rfl, N7⟩
    · skip
      have c4 : ∀ t, Steps p.tables e below (T2.setTop (mkF m 65 #[.val (.int p1), .val (.int p2), .val (.int p3), .val (.int (1 : Int32)), .val (.ref w_YEAR), .val (.int ((1 : Int32) + ((p2 &&& (2147483647 : Int32)) % (5 : Int32)))), .val (.int (p3 &&& (3 : Int32))), .unset, .unset, .unset, .unset] [(.int (1 : Int32)), (.int (p3 &&& (3 : Int32)))])) t → Steps p.tables e below (s₁.setTop (entryFrame m #[(.int p1), (.int p2), (.int p3)] maxLocals)) t := fun t kt => c3 _ (by
        show Steps p.tables e below (T2.setTop (mkF m 53 #[.val (.int p1), .val (.int p2), .val (.int p3), .val (.int (1 : Int32)), .val (.ref w_YEAR), .val (.int ((1 : Int32) + ((p2 &&& (2147483647 : Int32)) % (5 : Int32)))), .val (.int (p3 &&& (3 : Int32))), .unset, .unset, .unset, .unset] [(.int (p3 &&& (3 : Int32)))])) _
        refine XS.ifYes X2.here hx rfl (pc0 := 53) (pc' := 62) rfl (hb hby at_53) rfl ((if0 _ _).trans (feq hd1).2) (by decide) (by decide) ?_
        show Steps p.tables e below (T2.setTop (mkF m 62 #[.val (.int p1), .val (.int p2), .val (.int p3), .val (.int (1 : Int32)), .val (.ref w_YEAR), .val (.int ((1 : Int32) + ((p2 &&& (2147483647 : Int32)) % (5 : Int32)))), .val (.int (p3 &&& (3 : Int32))), .unset, .unset, .unset, .unset] [])) _
        refine XS.iload X2.here hx rfl (hb hby at_62) rfl ?_
        show Steps p.tables e below (T2.setTop (mkF m 64 #[.val (.int p1), .val (.int p2), .val (.int p3), .val (.int (1 : Int32)), .val (.ref w_YEAR), .val (.int ((1 : Int32) + ((p2 &&& (2147483647 : Int32)) % (5 : Int32)))), .val (.int (p3 &&& (3 : Int32))), .unset, .unset, .unset, .unset] [(.int (p3 &&& (3 : Int32)))])) _
        refine XS.iconst X2.here hx rfl (hb hby at_64) ?_
        show Steps p.tables e below (T2.setTop (mkF m 65 #[.val (.int p1), .val (.int p2), .val (.int p3), .val (.int (1 : Int32)), .val (.ref w_YEAR), .val (.int ((1 : Int32) + ((p2 &&& (2147483647 : Int32)) % (5 : Int32)))), .val (.int (p3 &&& (3 : Int32))), .unset, .unset, .unset, .unset] [(.int (1 : Int32)), (.int (p3 &&& (3 : Int32)))])) _
        exact kt)
      by_cases hd2 : (p3 &&& (3 : Int32)) = (1 : Int32)
      · skip
        obtain ⟨T5, X5, e5, st5⟩ := getS2 X2 hx hZ hown (host := "") (Or.inl (hw _ (List.mem_of_getElem? (i := 29) rfl))) Via.refl e2 (S_w_YEAR.ext O0.2) (g := (mkF m 68 #[.val (.int p1), .val (.int p2), .val (.int p3), .val (.int (1 : Int32)), .val (.ref w_YEAR), .val (.int ((1 : Int32) + ((p2 &&& (2147483647 : Int32)) % (5 : Int32)))), .val (.int (p3 &&& (3 : Int32))), .unset, .unset, .unset, .unset] [])) rfl (hb hby at_68)
        obtain ⟨T6, h6, X6, e6, E6, A6, D6, -, st6⟩ := newO X5 hx hZ hown (hw _ (List.mem_of_getElem? (i := 4) rfl)) (hw _ (List.mem_of_getElem? (i := 5) rfl)) (hw _ (List.mem_of_getElem? (i := 6) rfl)) e5 (g := (mkF m 77 #[.val (.int p1), .val (.int p2), .val (.int p3), .val (.int (1 : Int32)), .val (.ref w_YEAR), .val (.int ((1 : Int32) + ((p2 &&& (2147483647 : Int32)) % (5 : Int32)))), .val (.int (p3 &&& (3 : Int32))), .val (.ref w_YEAR), .unset, .unset, .unset] [])) rfl (hb hby at_77) (by decide) (by decide)
        obtain ⟨b6, gg6⟩ : ∃ z, z = h0.size := ⟨_, rfl⟩
        rw [← gg6] at A6 D6 st6
        have bo_b6 : h0.size ≤ b6 := Nat.le_of_eq gg6.symm
        have g_b6 : n0 ≤ b6 := Nat.le_trans (own_n0 O0) bo_b6
        have O6 := O0.ext E6
        have F_length_b6 : Fld Z h6 b6 "com/example/metered_billing/meteredbilling/plan/Term" "length" "I" (.int (0 : Int32)) := D6 (Or.inr (hw _ (List.mem_of_getElem? (i := 21) rfl))) (ty := .int) (by decide)
        have F_unit_b6 : Fld Z h6 b6 "com/example/metered_billing/meteredbilling/plan/Term" "unit" "Lcom/example/metered_billing/meteredbilling/plan/Term$Unit;" .null := D6 (Or.inr (hw _ (List.mem_of_getElem? (i := 23) rfl))) (ty := (.object "com/example/metered_billing/meteredbilling/plan/Term$Unit")) (by decide)
        obtain ⟨_, _, ⟨T7, L7, k7, n7⟩, -, X7, ⟨Lc7, hQ7, l7, y7, z7⟩, st7⟩ := X6.specialBack hx (y := (⟨"com/example/metered_billing/meteredbilling/plan/Term", "<init>", "(ILcom/example/metered_billing/meteredbilling/plan/Term$Unit;)V"⟩ : MethodName)) rfl hown (mvT hZ (hw _ (List.mem_of_getElem? (i := 7) rfl))) (mvT hZ (hw _ (List.mem_of_getElem? (i := 8) rfl))) (mvT hZ (hw _ (List.mem_of_getElem? (i := 9) rfl))) (by decide) (backOf (W := 1) (rm1_7 l Z a0 hw [] w_MONTH w_YEAR w_cache cl_w_cache b6 ((1 : Int32) + ((p2 &&& (2147483647 : Int32)) % (5 : Int32))) h6 n0 (own_n0 O6) O6 HW A6 F_length_b6 F_unit_b6 g_b6 (own_lo5 p2) (own_hi5 p2)) hZ (hw _ (List.mem_of_getElem? (i := 9) rfl)) (hw _ (List.mem_of_getElem? (i := 6) rfl)) (by decide) (by decide)) (g := (mkF m 85 #[.val (.int p1), .val (.int p2), .val (.int p3), .val (.int (1 : Int32)), .val (.ref w_YEAR), .val (.int ((1 : Int32) + ((p2 &&& (2147483647 : Int32)) % (5 : Int32)))), .val (.int (p3 &&& (3 : Int32))), .val (.ref w_YEAR), .unset, .unset, .unset] [(.ref w_YEAR), (.int ((1 : Int32) + ((p2 &&& (2147483647 : Int32)) % (5 : Int32)))), (.ref b6), (.ref b6)])) rfl (by rw [hml]; rfl) (Steps.refl _) (a := b6) (argsL := [(.int ((1 : Int32) + ((p2 &&& (2147483647 : Int32)) % (5 : Int32)))), (.ref w_YEAR)]) (rest := [(.ref b6)]) (lenOf pd27 rfl) rfl (by show 2 * 0 + _ ≤ _; exact Nat.le_of_eq rfl) (hb hby at_85) (fun _ _ => ⟨rfl, e6, (by decide : 1 + 0 ≤ _), (by decide : 2 + 0 ≤ _)⟩)
        dsimp only [Pt.U, Pt.locs, Pt.cells, Pt.slots] at X7 l7 y7 z7 st7 hQ7
        subst l7 y7 z7
        obtain ⟨rfl, N7q, K7, O7, pf7_0, pf7_1, pf7_2, -⟩ := hQ7
        have N7 := Fr.app N0 N7q
        obtain ⟨cq8, kq8, q8a, q8b, q8c⟩ := isOf hZ rfl pf7_0
        obtain ⟨_, _, ⟨T8, L8, k8, n8⟩, -, X8, ⟨Lc8, hQ8, l8, y8, z8⟩, st8⟩ := X7.virtualBack hx (y := (⟨"com/example/metered_billing/meteredbilling/plan/Term", "lengthIn", "(Lcom/example/metered_billing/meteredbilling/plan/Term$Unit;)Ljava/lang/Integer;"⟩ : MethodName)) (z := (⟨"com/example/metered_billing/meteredbilling/plan/Term", "lengthIn", "(Lcom/example/metered_billing/meteredbilling/plan/Term$Unit;)Ljava/lang/Integer;"⟩ : MethodName)) hown (mvT hZ (hw _ (List.mem_of_getElem? (i := 24) rfl))) (mvT hZ (hw _ (List.mem_of_getElem? (i := 25) rfl))) (notFace_of_selects (args := #[]) (mvT hZ (hw _ (List.mem_of_getElem? (i := 27) rfl)))) (mvT hZ (hw _ (List.mem_of_getElem? (i := 27) rfl))) (mvT hZ (hw _ (List.mem_of_getElem? (i := 26) rfl))) (by decide) (backOf (W := 0) (rm4_9 l Z a0 hw [] w_MONTH w_YEAR w_cache cl_w_cache b6 ((1 : Int32) + ((p2 &&& (2147483647 : Int32)) % (5 : Int32))) T7.heap n0 (own_n0 O7) O7 HW pf7_0 pf7_1 pf7_2 (own_lq5 p2) (own_hq5 p2)) hZ (hw _ (List.mem_of_getElem? (i := 28) rfl)) (hw _ (List.mem_of_getElem? (i := 6) rfl)) (by decide) (by decide)) q8a q8c (g := (mkF m 94 #[.val (.int p1), .val (.int p2), .val (.int p3), .val (.int (1 : Int32)), .val (.ref w_YEAR), .val (.int ((1 : Int32) + ((p2 &&& (2147483647 : Int32)) % (5 : Int32)))), .val (.int (p3 &&& (3 : Int32))), .val (.ref w_YEAR), .val (.ref b6), .unset, .unset] [(.ref w_YEAR), (.ref b6)])) rfl (by rw [hml]; rfl) (Steps.refl _) (argsL := [(.ref w_YEAR)]) (rest := []) (lenOf pd55 rfl) rfl (by show 2 * 0 + _ ≤ _; exact Nat.le_of_eq rfl) (hb hby at_94) (fun _ _ => ⟨rfl, rfl, (by decide : 1 + 0 ≤ _), (by decide : 2 + 0 ≤ _)⟩)
        dsimp only [Pt.U, Pt.locs, Pt.cells, Pt.slots] at X8 l8 y8 z8 st8 hQ8
        subst l8 y8 z8
        obtain ⟨o8_0, rfl, N8q, e8, of8_0, of8_1⟩ := hQ8
        have N8 := Fr.app N7 N8q
        obtain ⟨cq9, kq9, q9a, q9b, q9c⟩ := isOf hZ e8 (of8_0.ext O7.2)
        obtain ⟨_, _, ⟨T9, L9, k9, n9⟩, -, X9, ⟨Lc9, hQ9, l9, y9, z9⟩, st9⟩ := X8.virtualBack hx (y := (⟨"java/lang/Integer", "intValue", "()I"⟩ : MethodName)) (z := (⟨"java/lang/Integer", "intValue", "()I"⟩ : MethodName)) hown (mvT hZ (hw _ (List.mem_of_getElem? (i := 38) rfl))) (mvT hZ (hw _ (List.mem_of_getElem? (i := 39) rfl))) (notFace_of_selects (args := #[]) (mvT hZ (hw _ (List.mem_of_getElem? (i := 41) rfl)))) (mvT hZ (hw _ (List.mem_of_getElem? (i := 41) rfl))) (mvT hZ (hw _ (List.mem_of_getElem? (i := 40) rfl))) (by decide) (backOf (W := 0) (rm6_4 l Z a0 hw [] w_MONTH w_YEAR w_cache cl_w_cache o8_0 ((1 : Int32) + ((p2 &&& (2147483647 : Int32)) % (5 : Int32))) T7.heap n0 (own_n0 O7) O7 HW (of8_0.ext O7.2) (of8_1.ext O7.2)) hZ (hw _ (List.mem_of_getElem? (i := 42) rfl)) (hw _ (List.mem_of_getElem? (i := 33) rfl)) (by decide) (by decide)) q9a q9c (g := (mkF m 137 #[.val (.int p1), .val (.int p2), .val (.int p3), .val (.int (1 : Int32)), .val (.ref w_YEAR), .val (.int ((1 : Int32) + ((p2 &&& (2147483647 : Int32)) % (5 : Int32)))), .val (.int (p3 &&& (3 : Int32))), .val (.ref w_YEAR), .val (.ref b6), .val (.ref o8_0), .val (.int (1 : Int32))] [(.ref o8_0)])) rfl (by rw [hml]; rfl) (Steps.refl _) (argsL := []) (rest := []) (lenOf pd61 rfl) rfl (by show 2 * 0 + _ ≤ _; exact Nat.le_of_eq rfl) (hb hby at_137) (fun _ _ => ⟨rfl, e8, (by decide : 1 + 0 ≤ _), (by decide : 2 + 0 ≤ _)⟩)
        dsimp only [Pt.U, Pt.locs, Pt.cells, Pt.slots] at X9 l9 y9 z9 st9 hQ9
        subst l9 y9 z9
        obtain ⟨rfl, N9q, e9⟩ := hQ9
        have N9 := Fr.app N8 N9q
        obtain ⟨fs, hr, hrun, hended, hW, hsame⟩ := X9.leave (v := some (.int (1 : Int32))) (fun h => by rw [Bd.returns] at h; cases h)
        refine ⟨_, _, c4 _ ?_, hrun, hended, _, _, rfl, ?_, ⟨_, rfl⟩, hW, hsame.mono (by decide) (by decide)⟩
        · show Steps p.tables e below (T2.setTop (mkF m 65 #[.val (.int p1), .val (.int p2), .val (.int p3), .val (.int (1 : Int32)), .val (.ref w_YEAR), .val (.int ((1 : Int32) + ((p2 &&& (2147483647 : Int32)) % (5 : Int32)))), .val (.int (p3 &&& (3 : Int32))), .unset, .unset, .unset, .unset] [(.int (1 : Int32)), (.int (p3 &&& (3 : Int32)))])) _
          refine XS.icmpNo X2.here hx rfl (hb hby at_65) rfl (teq hd2).2 ?_
          show Steps p.tables e below (T2.setTop (mkF m 68 #[.val (.int p1), .val (.int p2), .val (.int p3), .val (.int (1 : Int32)), .val (.ref w_YEAR), .val (.int ((1 : Int32) + ((p2 &&& (2147483647 : Int32)) % (5 : Int32)))), .val (.int (p3 &&& (3 : Int32))), .unset, .unset, .unset, .unset] [])) _
          refine st5 _ ?_
          show Steps p.tables e below (T5.setTop (mkF m 71 #[.val (.int p1), .val (.int p2), .val (.int p3), .val (.int (1 : Int32)), .val (.ref w_YEAR), .val (.int ((1 : Int32) + ((p2 &&& (2147483647 : Int32)) % (5 : Int32)))), .val (.int (p3 &&& (3 : Int32))), .unset, .unset, .unset, .unset] [(.ref w_YEAR)])) _
          refine XS.goto X5.here hx rfl (pc0 := 71) (pc' := 75) rfl (hb hby at_71) (by decide) (by decide) ?_
          show Steps p.tables e below (T5.setTop (mkF m 75 #[.val (.int p1), .val (.int p2), .val (.int p3), .val (.int (1 : Int32)), .val (.ref w_YEAR), .val (.int ((1 : Int32) + ((p2 &&& (2147483647 : Int32)) % (5 : Int32)))), .val (.int (p3 &&& (3 : Int32))), .unset, .unset, .unset, .unset] [(.ref w_YEAR)])) _
          refine XS.astore X5.here hx rfl (hb hby at_75) rfl rfl (l' := #[.val (.int p1), .val (.int p2), .val (.int p3), .val (.int (1 : Int32)), .val (.ref w_YEAR), .val (.int ((1 : Int32) + ((p2 &&& (2147483647 : Int32)) % (5 : Int32)))), .val (.int (p3 &&& (3 : Int32))), .val (.ref w_YEAR), .unset, .unset, .unset]) rfl ?_
          show Steps p.tables e below (T5.setTop (mkF m 77 #[.val (.int p1), .val (.int p2), .val (.int p3), .val (.int (1 : Int32)), .val (.ref w_YEAR), .val (.int ((1 : Int32) + ((p2 &&& (2147483647 : Int32)) % (5 : Int32)))), .val (.int (p3 &&& (3 : Int32))), .val (.ref w_YEAR), .unset, .unset, .unset] [])) _
          refine st6 _ ?_
          show Steps p.tables e below (T6.setTop (mkF m 80 #[.val (.int p1), .val (.int p2), .val (.int p3), .val (.int (1 : Int32)), .val (.ref w_YEAR), .val (.int ((1 : Int32) + ((p2 &&& (2147483647 : Int32)) % (5 : Int32)))), .val (.int (p3 &&& (3 : Int32))), .val (.ref w_YEAR), .unset, .unset, .unset] [(.ref b6)])) _
          refine XS.dup X6.here hx rfl (hb hby at_80) rfl rfl ?_
          show Steps p.tables e below (T6.setTop (mkF m 81 #[.val (.int p1), .val (.int p2), .val (.int p3), .val (.int (1 : Int32)), .val (.ref w_YEAR), .val (.int ((1 : Int32) + ((p2 &&& (2147483647 : Int32)) % (5 : Int32)))), .val (.int (p3 &&& (3 : Int32))), .val (.ref w_YEAR), .unset, .unset, .unset] [(.ref b6), (.ref b6)])) _
          refine XS.iload X6.here hx rfl (hb hby at_81) rfl ?_
          show Steps p.tables e below (T6.setTop (mkF m 83 #[.val (.int p1), .val (.int p2), .val (.int p3), .val (.int (1 : Int32)), .val (.ref w_YEAR), .val (.int ((1 : Int32) + ((p2 &&& (2147483647 : Int32)) % (5 : Int32)))), .val (.int (p3 &&& (3 : Int32))), .val (.ref w_YEAR), .unset, .unset, .unset] [(.int ((1 : Int32) + ((p2 &&& (2147483647 : Int32)) % (5 : Int32)))), (.ref b6), (.ref b6)])) _
          refine XS.aload X6.here hx rfl (hb hby at_83) rfl rfl ?_
          show Steps p.tables e below (T6.setTop (mkF m 85 #[.val (.int p1), .val (.int p2), .val (.int p3), .val (.int (1 : Int32)), .val (.ref w_YEAR), .val (.int ((1 : Int32) + ((p2 &&& (2147483647 : Int32)) % (5 : Int32)))), .val (.int (p3 &&& (3 : Int32))), .val (.ref w_YEAR), .unset, .unset, .unset] [(.ref w_YEAR), (.int ((1 : Int32) + ((p2 &&& (2147483647 : Int32)) % (5 : Int32)))), (.ref b6), (.ref b6)])) _
          refine st7.trans ?_
          show Steps p.tables e below (T7.setTop (mkF m 88 #[.val (.int p1), .val (.int p2), .val (.int p3), .val (.int (1 : Int32)), .val (.ref w_YEAR), .val (.int ((1 : Int32) + ((p2 &&& (2147483647 : Int32)) % (5 : Int32)))), .val (.int (p3 &&& (3 : Int32))), .val (.ref w_YEAR), .unset, .unset, .unset] [(.ref b6)])) _
          refine XS.astore X7.here hx rfl (hb hby at_88) rfl rfl (l' := #[.val (.int p1), .val (.int p2), .val (.int p3), .val (.int (1 : Int32)), .val (.ref w_YEAR), .val (.int ((1 : Int32) + ((p2 &&& (2147483647 : Int32)) % (5 : Int32)))), .val (.int (p3 &&& (3 : Int32))), .val (.ref w_YEAR), .val (.ref b6), .unset, .unset]) rfl ?_
          show Steps p.tables e below (T7.setTop (mkF m 90 #[.val (.int p1), .val (.int p2), .val (.int p3), .val (.int (1 : Int32)), .val (.ref w_YEAR), .val (.int ((1 : Int32) + ((p2 &&& (2147483647 : Int32)) % (5 : Int32)))), .val (.int (p3 &&& (3 : Int32))), .val (.ref w_YEAR), .val (.ref b6), .unset, .unset] [])) _
          refine XS.aload X7.here hx rfl (hb hby at_90) rfl rfl ?_
          show Steps p.tables e below (T7.setTop (mkF m 92 #[.val (.int p1), .val (.int p2), .val (.int p3), .val (.int (1 : Int32)), .val (.ref w_YEAR), .val (.int ((1 : Int32) + ((p2 &&& (2147483647 : Int32)) % (5 : Int32)))), .val (.int (p3 &&& (3 : Int32))), .val (.ref w_YEAR), .val (.ref b6), .unset, .unset] [(.ref b6)])) _
          refine XS.aload X7.here hx rfl (hb hby at_92) rfl rfl ?_
          show Steps p.tables e below (T7.setTop (mkF m 94 #[.val (.int p1), .val (.int p2), .val (.int p3), .val (.int (1 : Int32)), .val (.ref w_YEAR), .val (.int ((1 : Int32) + ((p2 &&& (2147483647 : Int32)) % (5 : Int32)))), .val (.int (p3 &&& (3 : Int32))), .val (.ref w_YEAR), .val (.ref b6), .unset, .unset] [(.ref w_YEAR), (.ref b6)])) _
          refine st8.trans ?_
          show Steps p.tables e below (T8.setTop (mkF m 97 #[.val (.int p1), .val (.int p2), .val (.int p3), .val (.int (1 : Int32)), .val (.ref w_YEAR), .val (.int ((1 : Int32) + ((p2 &&& (2147483647 : Int32)) % (5 : Int32)))), .val (.int (p3 &&& (3 : Int32))), .val (.ref w_YEAR), .val (.ref b6), .unset, .unset] [(.ref o8_0)])) _
          refine XS.astore X8.here hx rfl (hb hby at_97) rfl rfl (l' := #[.val (.int p1), .val (.int p2), .val (.int p3), .val (.int (1 : Int32)), .val (.ref w_YEAR), .val (.int ((1 : Int32) + ((p2 &&& (2147483647 : Int32)) % (5 : Int32)))), .val (.int (p3 &&& (3 : Int32))), .val (.ref w_YEAR), .val (.ref b6), .val (.ref o8_0), .unset]) rfl ?_
          show Steps p.tables e below (T8.setTop (mkF m 99 #[.val (.int p1), .val (.int p2), .val (.int p3), .val (.int (1 : Int32)), .val (.ref w_YEAR), .val (.int ((1 : Int32) + ((p2 &&& (2147483647 : Int32)) % (5 : Int32)))), .val (.int (p3 &&& (3 : Int32))), .val (.ref w_YEAR), .val (.ref b6), .val (.ref o8_0), .unset] [])) _
          refine XS.iload X8.here hx rfl (hb hby at_99) rfl ?_
          show Steps p.tables e below (T8.setTop (mkF m 101 #[.val (.int p1), .val (.int p2), .val (.int p3), .val (.int (1 : Int32)), .val (.ref w_YEAR), .val (.int ((1 : Int32) + ((p2 &&& (2147483647 : Int32)) % (5 : Int32)))), .val (.int (p3 &&& (3 : Int32))), .val (.ref w_YEAR), .val (.ref b6), .val (.ref o8_0), .unset] [(.int (p3 &&& (3 : Int32)))])) _
          refine XS.ifYes X8.here hx rfl (pc0 := 101) (pc' := 108) rfl (hb hby at_101) rfl ((if0 _ _).trans (feq hd1).2) (by decide) (by decide) ?_
          show Steps p.tables e below (T8.setTop (mkF m 108 #[.val (.int p1), .val (.int p2), .val (.int p3), .val (.int (1 : Int32)), .val (.ref w_YEAR), .val (.int ((1 : Int32) + ((p2 &&& (2147483647 : Int32)) % (5 : Int32)))), .val (.int (p3 &&& (3 : Int32))), .val (.ref w_YEAR), .val (.ref b6), .val (.ref o8_0), .unset] [])) _
          refine XS.iload X8.here hx rfl (hb hby at_108) rfl ?_
          show Steps p.tables e below (T8.setTop (mkF m 110 #[.val (.int p1), .val (.int p2), .val (.int p3), .val (.int (1 : Int32)), .val (.ref w_YEAR), .val (.int ((1 : Int32) + ((p2 &&& (2147483647 : Int32)) % (5 : Int32)))), .val (.int (p3 &&& (3 : Int32))), .val (.ref w_YEAR), .val (.ref b6), .val (.ref o8_0), .unset] [(.int (p3 &&& (3 : Int32)))])) _
          refine XS.iconst X8.here hx rfl (hb hby at_110) ?_
          show Steps p.tables e below (T8.setTop (mkF m 111 #[.val (.int p1), .val (.int p2), .val (.int p3), .val (.int (1 : Int32)), .val (.ref w_YEAR), .val (.int ((1 : Int32) + ((p2 &&& (2147483647 : Int32)) % (5 : Int32)))), .val (.int (p3 &&& (3 : Int32))), .val (.ref w_YEAR), .val (.ref b6), .val (.ref o8_0), .unset] [(.int (1 : Int32)), (.int (p3 &&& (3 : Int32)))])) _
          refine XS.icmpNo X8.here hx rfl (hb hby at_111) rfl (teq hd2).2 ?_
          show Steps p.tables e below (T8.setTop (mkF m 114 #[.val (.int p1), .val (.int p2), .val (.int p3), .val (.int (1 : Int32)), .val (.ref w_YEAR), .val (.int ((1 : Int32) + ((p2 &&& (2147483647 : Int32)) % (5 : Int32)))), .val (.int (p3 &&& (3 : Int32))), .val (.ref w_YEAR), .val (.ref b6), .val (.ref o8_0), .unset] [])) _
          refine XS.iloadN X8.here hx rfl (hb hby at_114) rfl ?_
          show Steps p.tables e below (T8.setTop (mkF m 115 #[.val (.int p1), .val (.int p2), .val (.int p3), .val (.int (1 : Int32)), .val (.ref w_YEAR), .val (.int ((1 : Int32) + ((p2 &&& (2147483647 : Int32)) % (5 : Int32)))), .val (.int (p3 &&& (3 : Int32))), .val (.ref w_YEAR), .val (.ref b6), .val (.ref o8_0), .unset] [(.int (1 : Int32))])) _
          refine XS.ifNo X8.here hx rfl (hb hby at_115) rfl ((if0 _ _).trans (feq (by decide : ¬ ((1 : Int32) = (0 : Int32)))).1) ?_
          show Steps p.tables e below (T8.setTop (mkF m 118 #[.val (.int p1), .val (.int p2), .val (.int p3), .val (.int (1 : Int32)), .val (.ref w_YEAR), .val (.int ((1 : Int32) + ((p2 &&& (2147483647 : Int32)) % (5 : Int32)))), .val (.int (p3 &&& (3 : Int32))), .val (.ref w_YEAR), .val (.ref b6), .val (.ref o8_0), .unset] [])) _
          refine XS.iconst X8.here hx rfl (hb hby at_118) ?_
          show Steps p.tables e below (T8.setTop (mkF m 119 #[.val (.int p1), .val (.int p2), .val (.int p3), .val (.int (1 : Int32)), .val (.ref w_YEAR), .val (.int ((1 : Int32) + ((p2 &&& (2147483647 : Int32)) % (5 : Int32)))), .val (.int (p3 &&& (3 : Int32))), .val (.ref w_YEAR), .val (.ref b6), .val (.ref o8_0), .unset] [(.int (1 : Int32))])) _
          refine XS.goto X8.here hx rfl (pc0 := 119) (pc' := 123) rfl (hb hby at_119) (by decide) (by decide) ?_
          show Steps p.tables e below (T8.setTop (mkF m 123 #[.val (.int p1), .val (.int p2), .val (.int p3), .val (.int (1 : Int32)), .val (.ref w_YEAR), .val (.int ((1 : Int32) + ((p2 &&& (2147483647 : Int32)) % (5 : Int32)))), .val (.int (p3 &&& (3 : Int32))), .val (.ref w_YEAR), .val (.ref b6), .val (.ref o8_0), .unset] [(.int (1 : Int32))])) _
          refine XS.istore X8.here hx rfl (hb hby at_123) rfl (l' := #[.val (.int p1), .val (.int p2), .val (.int p3), .val (.int (1 : Int32)), .val (.ref w_YEAR), .val (.int ((1 : Int32) + ((p2 &&& (2147483647 : Int32)) % (5 : Int32)))), .val (.int (p3 &&& (3 : Int32))), .val (.ref w_YEAR), .val (.ref b6), .val (.ref o8_0), .val (.int (1 : Int32))]) rfl ?_
          show Steps p.tables e below (T8.setTop (mkF m 125 #[.val (.int p1), .val (.int p2), .val (.int p3), .val (.int (1 : Int32)), .val (.ref w_YEAR), .val (.int ((1 : Int32) + ((p2 &&& (2147483647 : Int32)) % (5 : Int32)))), .val (.int (p3 &&& (3 : Int32))), .val (.ref w_YEAR), .val (.ref b6), .val (.ref o8_0), .val (.int (1 : Int32))] [])) _
          refine XS.iload X8.here hx rfl (hb hby at_125) rfl ?_
          show Steps p.tables e below (T8.setTop (mkF m 127 #[.val (.int p1), .val (.int p2), .val (.int p3), .val (.int (1 : Int32)), .val (.ref w_YEAR), .val (.int ((1 : Int32) + ((p2 &&& (2147483647 : Int32)) % (5 : Int32)))), .val (.int (p3 &&& (3 : Int32))), .val (.ref w_YEAR), .val (.ref b6), .val (.ref o8_0), .val (.int (1 : Int32))] [(.int (1 : Int32))])) _
          refine XS.ifNo X8.here hx rfl (hb hby at_127) rfl ((if0 _ _).trans (feq (by decide : ¬ ((1 : Int32) = (0 : Int32)))).1) ?_
          show Steps p.tables e below (T8.setTop (mkF m 130 #[.val (.int p1), .val (.int p2), .val (.int p3), .val (.int (1 : Int32)), .val (.ref w_YEAR), .val (.int ((1 : Int32) + ((p2 &&& (2147483647 : Int32)) % (5 : Int32)))), .val (.int (p3 &&& (3 : Int32))), .val (.ref w_YEAR), .val (.ref b6), .val (.ref o8_0), .val (.int (1 : Int32))] [])) _
          refine XS.aload X8.here hx rfl (hb hby at_130) rfl rfl ?_
          show Steps p.tables e below (T8.setTop (mkF m 132 #[.val (.int p1), .val (.int p2), .val (.int p3), .val (.int (1 : Int32)), .val (.ref w_YEAR), .val (.int ((1 : Int32) + ((p2 &&& (2147483647 : Int32)) % (5 : Int32)))), .val (.int (p3 &&& (3 : Int32))), .val (.ref w_YEAR), .val (.ref b6), .val (.ref o8_0), .val (.int (1 : Int32))] [(.ref o8_0)])) _
          refine XS.ifnullNo X8.here hx rfl (hb hby at_132) rfl ?_
          show Steps p.tables e below (T8.setTop (mkF m 135 #[.val (.int p1), .val (.int p2), .val (.int p3), .val (.int (1 : Int32)), .val (.ref w_YEAR), .val (.int ((1 : Int32) + ((p2 &&& (2147483647 : Int32)) % (5 : Int32)))), .val (.int (p3 &&& (3 : Int32))), .val (.ref w_YEAR), .val (.ref b6), .val (.ref o8_0), .val (.int (1 : Int32))] [])) _
          refine XS.aload X8.here hx rfl (hb hby at_135) rfl rfl ?_
          show Steps p.tables e below (T8.setTop (mkF m 137 #[.val (.int p1), .val (.int p2), .val (.int p3), .val (.int (1 : Int32)), .val (.ref w_YEAR), .val (.int ((1 : Int32) + ((p2 &&& (2147483647 : Int32)) % (5 : Int32)))), .val (.int (p3 &&& (3 : Int32))), .val (.ref w_YEAR), .val (.ref b6), .val (.ref o8_0), .val (.int (1 : Int32))] [(.ref o8_0)])) _
          refine st9.trans ?_
          show Steps p.tables e below (T9.setTop (mkF m 140 #[.val (.int p1), .val (.int p2), .val (.int p3), .val (.int (1 : Int32)), .val (.ref w_YEAR), .val (.int ((1 : Int32) + ((p2 &&& (2147483647 : Int32)) % (5 : Int32)))), .val (.int (p3 &&& (3 : Int32))), .val (.ref w_YEAR), .val (.ref b6), .val (.ref o8_0), .val (.int (1 : Int32))] [(.int ((1 : Int32) + ((p2 &&& (2147483647 : Int32)) % (5 : Int32))))])) _
          refine XS.iload X9.here hx rfl (hb hby at_140) rfl ?_
          show Steps p.tables e below (T9.setTop (mkF m 142 #[.val (.int p1), .val (.int p2), .val (.int p3), .val (.int (1 : Int32)), .val (.ref w_YEAR), .val (.int ((1 : Int32) + ((p2 &&& (2147483647 : Int32)) % (5 : Int32)))), .val (.int (p3 &&& (3 : Int32))), .val (.ref w_YEAR), .val (.ref b6), .val (.ref o8_0), .val (.int (1 : Int32))] [(.int ((1 : Int32) + ((p2 &&& (2147483647 : Int32)) % (5 : Int32)))), (.int ((1 : Int32) + ((p2 &&& (2147483647 : Int32)) % (5 : Int32))))])) _
          refine XS.icmpNo X9.here hx rfl (hb hby at_142) rfl (teq (rfl : ((1 : Int32) + ((p2 &&& (2147483647 : Int32)) % (5 : Int32))) = ((1 : Int32) + ((p2 &&& (2147483647 : Int32)) % (5 : Int32))))).2 ?_
          show Steps p.tables e below (T9.setTop (mkF m 145 #[.val (.int p1), .val (.int p2), .val (.int p3), .val (.int (1 : Int32)), .val (.ref w_YEAR), .val (.int ((1 : Int32) + ((p2 &&& (2147483647 : Int32)) % (5 : Int32)))), .val (.int (p3 &&& (3 : Int32))), .val (.ref w_YEAR), .val (.ref b6), .val (.ref o8_0), .val (.int (1 : Int32))] [])) _
          refine XS.iconst X9.here hx rfl (hb hby at_145) ?_
          show Steps p.tables e below (T9.setTop (mkF m 146 #[.val (.int p1), .val (.int p2), .val (.int p3), .val (.int (1 : Int32)), .val (.ref w_YEAR), .val (.int ((1 : Int32) + ((p2 &&& (2147483647 : Int32)) % (5 : Int32)))), .val (.int (p3 &&& (3 : Int32))), .val (.ref w_YEAR), .val (.ref b6), .val (.ref o8_0), .val (.int (1 : Int32))] [(.int (1 : Int32))])) _
          refine XS.goto X9.here hx rfl (pc0 := 146) (pc' := 150) rfl (hb hby at_146) (by decide) (by decide) ?_
          show Steps p.tables e below (T9.setTop (mkF m 150 #[.val (.int p1), .val (.int p2), .val (.int p3), .val (.int (1 : Int32)), .val (.ref w_YEAR), .val (.int ((1 : Int32) + ((p2 &&& (2147483647 : Int32)) % (5 : Int32)))), .val (.int (p3 &&& (3 : Int32))), .val (.ref w_YEAR), .val (.ref b6), .val (.ref o8_0), .val (.int (1 : Int32))] [(.int (1 : Int32))])) _
          exact retN X9 hx (t := .boolean) Bd.returns (by simp) (hb hby at_150) hr
        · exact ⟨rfl, N9⟩
      · skip
        obtain ⟨T5, h5, X5, e5, E5, A5, D5, -, st5⟩ := newO X2 hx hZ hown (hw _ (List.mem_of_getElem? (i := 4) rfl)) (hw _ (List.mem_of_getElem? (i := 5) rfl)) (hw _ (List.mem_of_getElem? (i := 6) rfl)) e2 (g := (mkF m 77 #[.val (.int p1), .val (.int p2), .val (.int p3), .val (.int (1 : Int32)), .val (.ref w_YEAR), .val (.int ((1 : Int32) + ((p2 &&& (2147483647 : Int32)) % (5 : Int32)))), .val (.int (p3 &&& (3 : Int32))), .val .null, .unset, .unset, .unset] [])) rfl (hb hby at_77) (by decide) (by decide)
        obtain ⟨b5, gg5⟩ : ∃ z, z = h0.size := ⟨_, rfl⟩
        rw [← gg5] at A5 D5 st5
        have bo_b5 : h0.size ≤ b5 := Nat.le_of_eq gg5.symm
        have g_b5 : n0 ≤ b5 := Nat.le_trans (own_n0 O0) bo_b5
        have O5 := O0.ext E5
        have F_length_b5 : Fld Z h5 b5 "com/example/metered_billing/meteredbilling/plan/Term" "length" "I" (.int (0 : Int32)) := D5 (Or.inr (hw _ (List.mem_of_getElem? (i := 21) rfl))) (ty := .int) (by decide)
        have F_unit_b5 : Fld Z h5 b5 "com/example/metered_billing/meteredbilling/plan/Term" "unit" "Lcom/example/metered_billing/meteredbilling/plan/Term$Unit;" .null := D5 (Or.inr (hw _ (List.mem_of_getElem? (i := 23) rfl))) (ty := (.object "com/example/metered_billing/meteredbilling/plan/Term$Unit")) (by decide)
        obtain ⟨_, _, ⟨T6, L6, k6, n6⟩, -, X6, ⟨Lc6, hQ6, l6, y6, z6⟩, st6⟩ := X5.specialBack hx (y := (⟨"com/example/metered_billing/meteredbilling/plan/Term", "<init>", "(ILcom/example/metered_billing/meteredbilling/plan/Term$Unit;)V"⟩ : MethodName)) rfl hown (mvT hZ (hw _ (List.mem_of_getElem? (i := 7) rfl))) (mvT hZ (hw _ (List.mem_of_getElem? (i := 8) rfl))) (mvT hZ (hw _ (List.mem_of_getElem? (i := 9) rfl))) (by decide) (backOf (W := 1) (rm1_7 l Z a0 hw [] w_MONTH w_YEAR w_cache cl_w_cache b5 ((1 : Int32) + ((p2 &&& (2147483647 : Int32)) % (5 : Int32))) h5 n0 (own_n0 O5) O5 HW A5 F_length_b5 F_unit_b5 g_b5 (own_lo5 p2) (own_hi5 p2)) hZ (hw _ (List.mem_of_getElem? (i := 9) rfl)) (hw _ (List.mem_of_getElem? (i := 6) rfl)) (by decide) (by decide)) (g := (mkF m 85 #[.val (.int p1), .val (.int p2), .val (.int p3), .val (.int (1 : Int32)), .val (.ref w_YEAR), .val (.int ((1 : Int32) + ((p2 &&& (2147483647 : Int32)) % (5 : Int32)))), .val (.int (p3 &&& (3 : Int32))), .val .null, .unset, .unset, .unset] [(.ref w_YEAR), (.int ((1 : Int32) + ((p2 &&& (2147483647 : Int32)) % (5 : Int32)))), (.ref b5), (.ref b5)])) rfl (by rw [hml]; rfl) (Steps.refl _) (a := b5) (argsL := [(.int ((1 : Int32) + ((p2 &&& (2147483647 : Int32)) % (5 : Int32)))), (.ref w_YEAR)]) (rest := [(.ref b5)]) (lenOf pd27 rfl) rfl (by show 2 * 0 + _ ≤ _; exact Nat.le_of_eq rfl) (hb hby at_85) (fun _ _ => ⟨rfl, e5, (by decide : 1 + 0 ≤ _), (by decide : 2 + 0 ≤ _)⟩)
        dsimp only [Pt.U, Pt.locs, Pt.cells, Pt.slots] at X6 l6 y6 z6 st6 hQ6
        subst l6 y6 z6
        obtain ⟨rfl, N6q, K6, O6, pf6_0, pf6_1, pf6_2, -⟩ := hQ6
        have N6 := Fr.app N0 N6q
        obtain ⟨cq7, kq7, q7a, q7b, q7c⟩ := isOf hZ rfl pf6_0
        obtain ⟨_, _, ⟨T7, L7, k7, n7⟩, -, X7, ⟨Lc7, hQ7, l7, y7, z7⟩, st7⟩ := X6.virtualBack hx (y := (⟨"com/example/metered_billing/meteredbilling/plan/Term", "lengthIn", "(Lcom/example/metered_billing/meteredbilling/plan/Term$Unit;)Ljava/lang/Integer;"⟩ : MethodName)) (z := (⟨"com/example/metered_billing/meteredbilling/plan/Term", "lengthIn", "(Lcom/example/metered_billing/meteredbilling/plan/Term$Unit;)Ljava/lang/Integer;"⟩ : MethodName)) hown (mvT hZ (hw _ (List.mem_of_getElem? (i := 24) rfl))) (mvT hZ (hw _ (List.mem_of_getElem? (i := 25) rfl))) (notFace_of_selects (args := #[]) (mvT hZ (hw _ (List.mem_of_getElem? (i := 27) rfl)))) (mvT hZ (hw _ (List.mem_of_getElem? (i := 27) rfl))) (mvT hZ (hw _ (List.mem_of_getElem? (i := 26) rfl))) (by decide) (backOf (W := 0) (rm4_10 l Z a0 hw [] w_MONTH w_YEAR w_cache cl_w_cache b5 ((1 : Int32) + ((p2 &&& (2147483647 : Int32)) % (5 : Int32))) T6.heap n0 (own_n0 O6) O6 HW pf6_0 pf6_1 pf6_2) hZ (hw _ (List.mem_of_getElem? (i := 28) rfl)) (hw _ (List.mem_of_getElem? (i := 6) rfl)) (by decide) (by decide)) q7a q7c (g := (mkF m 94 #[.val (.int p1), .val (.int p2), .val (.int p3), .val (.int (1 : Int32)), .val (.ref w_YEAR), .val (.int ((1 : Int32) + ((p2 &&& (2147483647 : Int32)) % (5 : Int32)))), .val (.int (p3 &&& (3 : Int32))), .val .null, .val (.ref b5), .unset, .unset] [.null, (.ref b5)])) rfl (by rw [hml]; rfl) (Steps.refl _) (argsL := [.null]) (rest := []) (lenOf pd55 rfl) rfl (by show 2 * 0 + _ ≤ _; exact Nat.le_of_eq rfl) (hb hby at_94) (fun _ _ => ⟨rfl, rfl, (by decide : 1 + 0 ≤ _), (by decide : 2 + 0 ≤ _)⟩)
        dsimp only [Pt.U, Pt.locs, Pt.cells, Pt.slots] at X7 l7 y7 z7 st7 hQ7
        subst l7 y7 z7
        obtain ⟨rfl, N7q, e7⟩ := hQ7
        have N7 := Fr.app N6 N7q
        obtain ⟨fs, hr, hrun, hended, hW, hsame⟩ := X7.leave (v := some (.int (1 : Int32))) (fun h => by rw [Bd.returns] at h; cases h)
        refine ⟨_, _, c4 _ ?_, hrun, hended, _, _, rfl, ?_, ⟨_, rfl⟩, hW, hsame.mono (by decide) (by decide)⟩
        · show Steps p.tables e below (T2.setTop (mkF m 65 #[.val (.int p1), .val (.int p2), .val (.int p3), .val (.int (1 : Int32)), .val (.ref w_YEAR), .val (.int ((1 : Int32) + ((p2 &&& (2147483647 : Int32)) % (5 : Int32)))), .val (.int (p3 &&& (3 : Int32))), .unset, .unset, .unset, .unset] [(.int (1 : Int32)), (.int (p3 &&& (3 : Int32)))])) _
          refine XS.icmpYes X2.here hx rfl (pc0 := 65) (pc' := 74) rfl (hb hby at_65) rfl (feq hd2).2 (by decide) (by decide) ?_
          show Steps p.tables e below (T2.setTop (mkF m 74 #[.val (.int p1), .val (.int p2), .val (.int p3), .val (.int (1 : Int32)), .val (.ref w_YEAR), .val (.int ((1 : Int32) + ((p2 &&& (2147483647 : Int32)) % (5 : Int32)))), .val (.int (p3 &&& (3 : Int32))), .unset, .unset, .unset, .unset] [])) _
          refine XS.aconstNull X2.here hx rfl (hb hby at_74) ?_
          show Steps p.tables e below (T2.setTop (mkF m 75 #[.val (.int p1), .val (.int p2), .val (.int p3), .val (.int (1 : Int32)), .val (.ref w_YEAR), .val (.int ((1 : Int32) + ((p2 &&& (2147483647 : Int32)) % (5 : Int32)))), .val (.int (p3 &&& (3 : Int32))), .unset, .unset, .unset, .unset] [.null])) _
          refine XS.astore X2.here hx rfl (hb hby at_75) rfl rfl (l' := #[.val (.int p1), .val (.int p2), .val (.int p3), .val (.int (1 : Int32)), .val (.ref w_YEAR), .val (.int ((1 : Int32) + ((p2 &&& (2147483647 : Int32)) % (5 : Int32)))), .val (.int (p3 &&& (3 : Int32))), .val .null, .unset, .unset, .unset]) rfl ?_
          show Steps p.tables e below (T2.setTop (mkF m 77 #[.val (.int p1), .val (.int p2), .val (.int p3), .val (.int (1 : Int32)), .val (.ref w_YEAR), .val (.int ((1 : Int32) + ((p2 &&& (2147483647 : Int32)) % (5 : Int32)))), .val (.int (p3 &&& (3 : Int32))), .val .null, .unset, .unset, .unset] [])) _
          refine st5 _ ?_
          show Steps p.tables e below (T5.setTop (mkF m 80 #[.val (.int p1), .val (.int p2), .val (.int p3), .val (.int (1 : Int32)), .val (.ref w_YEAR), .val (.int ((1 : Int32) + ((p2 &&& (2147483647 : Int32)) % (5 : Int32)))), .val (.int (p3 &&& (3 : Int32))), .val .null, .unset, .unset, .unset] [(.ref b5)])) _
          refine XS.dup X5.here hx rfl (hb hby at_80) rfl rfl ?_
          show Steps p.tables e below (T5.setTop (mkF m 81 #[.val (.int p1), .val (.int p2), .val (.int p3), .val (.int (1 : Int32)), .val (.ref w_YEAR), .val (.int ((1 : Int32) + ((p2 &&& (2147483647 : Int32)) % (5 : Int32)))), .val (.int (p3 &&& (3 : Int32))), .val .null, .unset, .unset, .unset] [(.ref b5), (.ref b5)])) _
          refine XS.iload X5.here hx rfl (hb hby at_81) rfl ?_
          show Steps p.tables e below (T5.setTop (mkF m 83 #[.val (.int p1), .val (.int p2), .val (.int p3), .val (.int (1 : Int32)), .val (.ref w_YEAR), .val (.int ((1 : Int32) + ((p2 &&& (2147483647 : Int32)) % (5 : Int32)))), .val (.int (p3 &&& (3 : Int32))), .val .null, .unset, .unset, .unset] [(.int ((1 : Int32) + ((p2 &&& (2147483647 : Int32)) % (5 : Int32)))), (.ref b5), (.ref b5)])) _
          refine XS.aload X5.here hx rfl (hb hby at_83) rfl rfl ?_
          show Steps p.tables e below (T5.setTop (mkF m 85 #[.val (.int p1), .val (.int p2), .val (.int p3), .val (.int (1 : Int32)), .val (.ref w_YEAR), .val (.int ((1 : Int32) + ((p2 &&& (2147483647 : Int32)) % (5 : Int32)))), .val (.int (p3 &&& (3 : Int32))), .val .null, .unset, .unset, .unset] [(.ref w_YEAR), (.int ((1 : Int32) + ((p2 &&& (2147483647 : Int32)) % (5 : Int32)))), (.ref b5), (.ref b5)])) _
          refine st6.trans ?_
          show Steps p.tables e below (T6.setTop (mkF m 88 #[.val (.int p1), .val (.int p2), .val (.int p3), .val (.int (1 : Int32)), .val (.ref w_YEAR), .val (.int ((1 : Int32) + ((p2 &&& (2147483647 : Int32)) % (5 : Int32)))), .val (.int (p3 &&& (3 : Int32))), .val .null, .unset, .unset, .unset] [(.ref b5)])) _
          refine XS.astore X6.here hx rfl (hb hby at_88) rfl rfl (l' := #[.val (.int p1), .val (.int p2), .val (.int p3), .val (.int (1 : Int32)), .val (.ref w_YEAR), .val (.int ((1 : Int32) + ((p2 &&& (2147483647 : Int32)) % (5 : Int32)))), .val (.int (p3 &&& (3 : Int32))), .val .null, .val (.ref b5), .unset, .unset]) rfl ?_
          show Steps p.tables e below (T6.setTop (mkF m 90 #[.val (.int p1), .val (.int p2), .val (.int p3), .val (.int (1 : Int32)), .val (.ref w_YEAR), .val (.int ((1 : Int32) + ((p2 &&& (2147483647 : Int32)) % (5 : Int32)))), .val (.int (p3 &&& (3 : Int32))), .val .null, .val (.ref b5), .unset, .unset] [])) _
          refine XS.aload X6.here hx rfl (hb hby at_90) rfl rfl ?_
          show Steps p.tables e below (T6.setTop (mkF m 92 #[.val (.int p1), .val (.int p2), .val (.int p3), .val (.int (1 : Int32)), .val (.ref w_YEAR), .val (.int ((1 : Int32) + ((p2 &&& (2147483647 : Int32)) % (5 : Int32)))), .val (.int (p3 &&& (3 : Int32))), .val .null, .val (.ref b5), .unset, .unset] [(.ref b5)])) _
          refine XS.aload X6.here hx rfl (hb hby at_92) rfl rfl ?_
          show Steps p.tables e below (T6.setTop (mkF m 94 #[.val (.int p1), .val (.int p2), .val (.int p3), .val (.int (1 : Int32)), .val (.ref w_YEAR), .val (.int ((1 : Int32) + ((p2 &&& (2147483647 : Int32)) % (5 : Int32)))), .val (.int (p3 &&& (3 : Int32))), .val .null, .val (.ref b5), .unset, .unset] [.null, (.ref b5)])) _
          refine st7.trans ?_
          show Steps p.tables e below (T7.setTop (mkF m 97 #[.val (.int p1), .val (.int p2), .val (.int p3), .val (.int (1 : Int32)), .val (.ref w_YEAR), .val (.int ((1 : Int32) + ((p2 &&& (2147483647 : Int32)) % (5 : Int32)))), .val (.int (p3 &&& (3 : Int32))), .val .null, .val (.ref b5), .unset, .unset] [.null])) _
          refine XS.astore X7.here hx rfl (hb hby at_97) rfl rfl (l' := #[.val (.int p1), .val (.int p2), .val (.int p3), .val (.int (1 : Int32)), .val (.ref w_YEAR), .val (.int ((1 : Int32) + ((p2 &&& (2147483647 : Int32)) % (5 : Int32)))), .val (.int (p3 &&& (3 : Int32))), .val .null, .val (.ref b5), .val .null, .unset]) rfl ?_
          show Steps p.tables e below (T7.setTop (mkF m 99 #[.val (.int p1), .val (.int p2), .val (.int p3), .val (.int (1 : Int32)), .val (.ref w_YEAR), .val (.int ((1 : Int32) + ((p2 &&& (2147483647 : Int32)) % (5 : Int32)))), .val (.int (p3 &&& (3 : Int32))), .val .null, .val (.ref b5), .val .null, .unset] [])) _
          refine XS.iload X7.here hx rfl (hb hby at_99) rfl ?_
          show Steps p.tables e below (T7.setTop (mkF m 101 #[.val (.int p1), .val (.int p2), .val (.int p3), .val (.int (1 : Int32)), .val (.ref w_YEAR), .val (.int ((1 : Int32) + ((p2 &&& (2147483647 : Int32)) % (5 : Int32)))), .val (.int (p3 &&& (3 : Int32))), .val .null, .val (.ref b5), .val .null, .unset] [(.int (p3 &&& (3 : Int32)))])) _
          refine XS.ifYes X7.here hx rfl (pc0 := 101) (pc' := 108) rfl (hb hby at_101) rfl ((if0 _ _).trans (feq hd1).2) (by decide) (by decide) ?_
          show Steps p.tables e below (T7.setTop (mkF m 108 #[.val (.int p1), .val (.int p2), .val (.int p3), .val (.int (1 : Int32)), .val (.ref w_YEAR), .val (.int ((1 : Int32) + ((p2 &&& (2147483647 : Int32)) % (5 : Int32)))), .val (.int (p3 &&& (3 : Int32))), .val .null, .val (.ref b5), .val .null, .unset] [])) _
          refine XS.iload X7.here hx rfl (hb hby at_108) rfl ?_
          show Steps p.tables e below (T7.setTop (mkF m 110 #[.val (.int p1), .val (.int p2), .val (.int p3), .val (.int (1 : Int32)), .val (.ref w_YEAR), .val (.int ((1 : Int32) + ((p2 &&& (2147483647 : Int32)) % (5 : Int32)))), .val (.int (p3 &&& (3 : Int32))), .val .null, .val (.ref b5), .val .null, .unset] [(.int (p3 &&& (3 : Int32)))])) _
          refine XS.iconst X7.here hx rfl (hb hby at_110) ?_
          show Steps p.tables e below (T7.setTop (mkF m 111 #[.val (.int p1), .val (.int p2), .val (.int p3), .val (.int (1 : Int32)), .val (.ref w_YEAR), .val (.int ((1 : Int32) + ((p2 &&& (2147483647 : Int32)) % (5 : Int32)))), .val (.int (p3 &&& (3 : Int32))), .val .null, .val (.ref b5), .val .null, .unset] [(.int (1 : Int32)), (.int (p3 &&& (3 : Int32)))])) _
          refine XS.icmpYes X7.here hx rfl (pc0 := 111) (pc' := 122) rfl (hb hby at_111) rfl (feq hd2).2 (by decide) (by decide) ?_
          show Steps p.tables e below (T7.setTop (mkF m 122 #[.val (.int p1), .val (.int p2), .val (.int p3), .val (.int (1 : Int32)), .val (.ref w_YEAR), .val (.int ((1 : Int32) + ((p2 &&& (2147483647 : Int32)) % (5 : Int32)))), .val (.int (p3 &&& (3 : Int32))), .val .null, .val (.ref b5), .val .null, .unset] [])) _
          refine XS.iconst X7.here hx rfl (hb hby at_122) ?_
          show Steps p.tables e below (T7.setTop (mkF m 123 #[.val (.int p1), .val (.int p2), .val (.int p3), .val (.int (1 : Int32)), .val (.ref w_YEAR), .val (.int ((1 : Int32) + ((p2 &&& (2147483647 : Int32)) % (5 : Int32)))), .val (.int (p3 &&& (3 : Int32))), .val .null, .val (.ref b5), .val .null, .unset] [(.int (0 : Int32))])) _
          refine XS.istore X7.here hx rfl (hb hby at_123) rfl (l' := #[.val (.int p1), .val (.int p2), .val (.int p3), .val (.int (1 : Int32)), .val (.ref w_YEAR), .val (.int ((1 : Int32) + ((p2 &&& (2147483647 : Int32)) % (5 : Int32)))), .val (.int (p3 &&& (3 : Int32))), .val .null, .val (.ref b5), .val .null, .val (.int (0 : Int32))]) rfl ?_
          show Steps p.tables e below (T7.setTop (mkF m 125 #[.val (.int p1), .val (.int p2), .val (.int p3), .val (.int (1 : Int32)), .val (.ref w_YEAR), .val (.int ((1 : Int32) + ((p2 &&& (2147483647 : Int32)) % (5 : Int32)))), .val (.int (p3 &&& (3 : Int32))), .val .null, .val (.ref b5), .val .null, .val (.int (0 : Int32))] [])) _
          refine XS.iload X7.here hx rfl (hb hby at_125) rfl ?_
          show Steps p.tables e below (T7.setTop (mkF m 127 #[.val (.int p1), .val (.int p2), .val (.int p3), .val (.int (1 : Int32)), .val (.ref w_YEAR), .val (.int ((1 : Int32) + ((p2 &&& (2147483647 : Int32)) % (5 : Int32)))), .val (.int (p3 &&& (3 : Int32))), .val .null, .val (.ref b5), .val .null, .val (.int (0 : Int32))] [(.int (0 : Int32))])) _
          refine XS.ifYes X7.here hx rfl (pc0 := 127) (pc' := 151) rfl (hb hby at_127) rfl ((if0 _ _).trans (teq (by decide : (0 : Int32) = (0 : Int32))).1) (by decide) (by decide) ?_
          show Steps p.tables e below (T7.setTop (mkF m 151 #[.val (.int p1), .val (.int p2), .val (.int p3), .val (.int (1 : Int32)), .val (.ref w_YEAR), .val (.int ((1 : Int32) + ((p2 &&& (2147483647 : Int32)) % (5 : Int32)))), .val (.int (p3 &&& (3 : Int32))), .val .null, .val (.ref b5), .val .null, .val (.int (0 : Int32))] [])) _
          refine XS.aload X7.here hx rfl (hb hby at_151) rfl rfl ?_
          show Steps p.tables e below (T7.setTop (mkF m 153 #[.val (.int p1), .val (.int p2), .val (.int p3), .val (.int (1 : Int32)), .val (.ref w_YEAR), .val (.int ((1 : Int32) + ((p2 &&& (2147483647 : Int32)) % (5 : Int32)))), .val (.int (p3 &&& (3 : Int32))), .val .null, .val (.ref b5), .val .null, .val (.int (0 : Int32))] [.null])) _
          refine XS.ifnonnullNo X7.here hx rfl (hb hby at_153) rfl ?_
          show Steps p.tables e below (T7.setTop (mkF m 156 #[.val (.int p1), .val (.int p2), .val (.int p3), .val (.int (1 : Int32)), .val (.ref w_YEAR), .val (.int ((1 : Int32) + ((p2 &&& (2147483647 : Int32)) % (5 : Int32)))), .val (.int (p3 &&& (3 : Int32))), .val .null, .val (.ref b5), .val .null, .val (.int (0 : Int32))] [])) _
          refine XS.iconst X7.here hx rfl (hb hby at_156) ?_
          show Steps p.tables e below (T7.setTop (mkF m 157 #[.val (.int p1), .val (.int p2), .val (.int p3), .val (.int (1 : Int32)), .val (.ref w_YEAR), .val (.int ((1 : Int32) + ((p2 &&& (2147483647 : Int32)) % (5 : Int32)))), .val (.int (p3 &&& (3 : Int32))), .val .null, .val (.ref b5), .val .null, .val (.int (0 : Int32))] [(.int (1 : Int32))])) _
          refine XS.goto X7.here hx rfl (pc0 := 157) (pc' := 161) rfl (hb hby at_157) (by decide) (by decide) ?_
          show Steps p.tables e below (T7.setTop (mkF m 161 #[.val (.int p1), .val (.int p2), .val (.int p3), .val (.int (1 : Int32)), .val (.ref w_YEAR), .val (.int ((1 : Int32) + ((p2 &&& (2147483647 : Int32)) % (5 : Int32)))), .val (.int (p3 &&& (3 : Int32))), .val .null, .val (.ref b5), .val .null, .val (.int (0 : Int32))] [(.int (1 : Int32))])) _
          exact retN X7 hx (t := .boolean) Bd.returns (by simp) (hb hby at_161) hr
        · exact ⟨rfl, N7⟩
theorem rm0_all (l : Launch) (Z : State) (a0 : Array Value) (hw : ∀ d ∈ tables_1, d.before a0 Z = true) (ws : List Jvm.Cond) (w_MONTH : Addr) (w_YEAR : Addr) (w_cache : Addr) (cl_w_cache : Cell) (p1 : Int32) (p2 : Int32) (p3 : Int32) (h0 : Heap) (n0 : Nat) (Z0 : n0 ≤ h0.size) (O0 : Old Z n0 h0) (HW : World Z w_MONTH w_YEAR w_cache cl_w_cache) :
    MetFree l x (head1 (Jvm.Cond.code x code maxLocals ret :: ws) room_1) (fun a U => a = #[(.int p1), (.int p2), (.int p3)] ∧ Z.Warmed39 U.vm ∧ U.heap = h0) (fun _ _ _ _ _ => True) (fun _ U o U' => ∃ v L, o = .returned v ∧ Q0 h0 n0 v U'.heap L ∧ FrameEnd U o U' L room_1.cells room_1.slots) := by
  exact rm0_a l Z a0 hw ws w_MONTH w_YEAR w_cache cl_w_cache p1 p2 p3 h0 n0 Z0 O0 HW
set_option maxRecDepth 65536 in
set_option maxHeartbeats 40000000 in
theorem comes_1 {Post : Tables → Env → Array Value → State → Outcome → State → Prop} (hpost : ∀ tb e args s v u, (limb_1_1.after args s (.returned v) u = true ∧ limb_1_2.after args s (.returned v) u = true ∧ True) → FrameEnd s (.returned v) u (Jvm.fieldLocs frame_1_writes args s ++ Jvm.arrayLocs frame_1_arrays args s ++ Jvm.staticLocs frame_1_statics s) 16 128 → Post tb e args s (.returned v) u) :
    ArmFor flags0 classFile x code maxLocals ret World_1 tables_1 room_1 Calls_1 rest_1 Pre_1 Post := by
  intro l hfl _ _ p e ha hc hk s m args below hf hA hF happ hP
  obtain ⟨hcalls, hrest, hpre⟩ := hP
  obtain ⟨-, -, -, hnamed, -, -, -, hat⟩ := (Spec.applies_iff hf).mp happ
  obtain ⟨hg, hn⟩ := and_e (Cond.before_iff.mp (show (Jvm.Cond.and given_1 narrow_1).before args s = true from hpre))
  obtain ⟨hg1a, hg1b⟩ := and_e hg
  obtain ⟨hg2a, hg2b⟩ := and_e hg1b
  obtain ⟨hg3a, hg3b⟩ := and_e hg2b
  obtain ⟨w0, w1, w2, rfl⟩ : ∃ w0 w1 w2 : Value, args = #[w0, w1, w2] := by
    have hs : args.size = 3 := by simpa [Cond.value, given_1] using hg1a
    obtain ⟨L⟩ := args
    match L, hs with
    | [w0, w1, w2], _ => exact ⟨w0, w1, w2, rfl⟩
  have hw := fun d (hd : d ∈ tables_1) => atoms_spec (ws := Jvm.Cond.code x code maxLocals ret :: tables_1) hat d (List.mem_cons_of_mem _ hd)
  have hfit : Fit s := fun {y c} hc i hi => by
    obtain ⟨ha, rfl⟩ := Array.getElem?_eq_some_iff.mp hc
    have q := List.all_eq_true.mp ((Array.all_eq_true_iff_forall_mem.mp hF) _ (Array.getElem_mem ha)) i (List.mem_range.mpr hi)
    simpa [Array.getElem?_eq_getElem hi] using q
  obtain ⟨i0, ei0⟩ := is_v hg2a
  obtain rfl : w0 = (.int i0) := Option.some.inj ei0
  obtain ⟨i1, ei1⟩ := is_v hg3a
  obtain rfl : w1 = (.int i1) := Option.some.inj ei1
  obtain ⟨i2, ei2⟩ := is_v hg3b
  obtain rfl : w2 = (.int i2) := Option.some.inj ei2
  obtain ⟨hsets, hown0⟩ := atoms_of _ (rest_1_c_eq ▸ (show rest_1_c.before _ s = true from hrest))
  obtain ⟨hn1a, hn1b⟩ := and_e hn
  obtain ⟨hn2a, hn2b⟩ := and_e hn1b
  obtain ⟨hn3a, hn3b⟩ := and_e hn2b
  obtain ⟨hn4a, hn4b⟩ := and_e hn3b
  obtain ⟨hn5a, hn5b⟩ := and_e hn4b
  obtain ⟨w_MONTH, ev_w_MONTH⟩ := exa_v hn1a
  have S_w_MONTH := Sta.start ev_w_MONTH (Or.inr ⟨(hw _ (List.mem_of_getElem? (i := 1) rfl)), (hw _ (List.mem_of_getElem? (i := 2) rfl))⟩)
  have E_w_MONTH := Exa.start ev_w_MONTH hn1a
  obtain ⟨w_YEAR, ev_w_YEAR⟩ := exa_v hn3a
  have S_w_YEAR := Sta.start ev_w_YEAR (Or.inr ⟨(hw _ (List.mem_of_getElem? (i := 1) rfl)), (hw _ (List.mem_of_getElem? (i := 30) rfl))⟩)
  have E_w_YEAR := Exa.start ev_w_YEAR hn3a
  have F_most_w_MONTH := own_fld (k := (11 : Int32)) hn2a ev_w_MONTH
  have F_most_w_YEAR := own_fld (k := (5 : Int32)) hn4a ev_w_YEAR
  have F_ordinal_w_MONTH := own_fld (k := (0 : Int32)) hn5a ev_w_MONTH
  have F_ordinal_w_YEAR := own_fld (k := (1 : Int32)) hn5b ev_w_YEAR
  have ne_w_MONTH_w_YEAR : ¬ (w_MONTH = w_YEAR) := own_ne F_most_w_MONTH F_most_w_YEAR (by decide)
  have ev_high := own_staI (Cond.before_iff.mp (hsets _ (List.mem_of_getElem? (i := 3) rfl)))
  have S_high := Sta.start ev_high (Or.inl (hsets _ (List.mem_of_getElem? (i := 1) rfl)))
  have hs4 := Cond.before_iff.mp (hsets _ (List.mem_of_getElem? (i := 4) rfl))
  obtain ⟨w_cache, ev_w_cache⟩ := arr_v hs4
  have S_w_cache := Sta.start ev_w_cache (Or.inr ⟨(hw _ (List.mem_of_getElem? (i := 36) rfl)), (hsets _ (List.mem_of_getElem? (i := 2) rfl))⟩)
  obtain ⟨cl_w_cache, Ar_w_cache⟩ := Arr.start ev_w_cache hs4
  have hs6 := Cond.before_iff.mp (hsets _ (List.mem_of_getElem? (i := 6) rfl))
  have Sz_w_cache := own_len (n := (256 : Int32)) hs6 ev_w_cache Ar_w_cache
  have AL_w_cache : (∀ j : Int32, (¬ j < 0 ∧ j < 256) → ∃ b : Addr, ¬ (j < 0 ∨ cl_w_cache.slots.size ≤ j.toNatClampNeg) ∧ cl_w_cache.slots[j.toNatClampNeg]? = some (.ref b) ∧ Exa s s.heap b "java/lang/Integer" ∧ Fld s s.heap b "java/lang/Integer" "value" "I" (.int (j - 128))) := fun j hj => by
    obtain ⟨b, q1, q2, q3, q4, q5⟩ := own_allE (Cond.before_iff.mp (hsets _ (List.mem_of_getElem? (i := 7) rfl))) ev_w_cache Ar_w_cache (own_small hs6 ev_w_cache Ar_w_cache) Sz_w_cache j hj
    refine ⟨b, q1, q2, q3, own_fldG q5 q4 ?_⟩
    show some (Value.int (j.toNatClampNeg.toInt32 - 128)) = _
    rw [(back32 hj.1).1]
  have HW : World s w_MONTH w_YEAR w_cache cl_w_cache := ⟨S_w_MONTH, E_w_MONTH, S_w_YEAR, E_w_YEAR, F_most_w_MONTH, F_most_w_YEAR, F_ordinal_w_MONTH, F_ordinal_w_YEAR, ne_w_MONTH_w_YEAR, S_high, S_w_cache, Ar_w_cache, Sz_w_cache, AL_w_cache, trivial⟩
  obtain ⟨n, o, h1, h2, h3, _, L, rfl, ⟨rfl, N⟩, hq⟩ := rm0_all l s _ hw tables_1 w_MONTH w_YEAR w_cache cl_w_cache i0 i1 i2 s.heap s.heap.size (Nat.le_refl _) (Old.start s) HW p e ha hc hk s m _ below hf ((Spec.applies_iff_loose hf).mp happ).1 ⟨rfl, State.Warmed39.refl s, rfl⟩ trivial
  exact ⟨n, _, h1, h2, h3, hpost _ _ _ _ _ _ ⟨Cond.after_iff.mpr rfl, Cond.after_iff.mpr (eq_i res_at (Term.int_eval (1)) rfl), trivial⟩ ⟨hq.1, hq.2.1, (hq.2.2.sift fun y hy => Or.inr (N y hy)).mono (by decide) (by decide)⟩⟩
theorem main_1_1 : Claimed_1_1 := comes_1 fun _ _ _ _ _ _ h hF => ⟨h.1, hF⟩
theorem main_1_2 : Claimed_1_2 := comes_1 fun _ _ _ _ _ _ h hF => ⟨h.2.1, hF⟩
end Jvm.Pilot.@@N@@
namespace Jvm.Pilot.@@N@@
open Jvm Jvm.ClassFile Sem Op Lib Jvm.Free Jvm.Stand Jvm.Pilot.@@N@@.Jvm.D
/-! MADE BY PROGRAM (witnessworld.py) out of the Statement's table words and the real class files: 19 classes; the members and pool entries that the words name. The judged class is class 1, her method 1. -/
namespace start1
open Jvm.ClassFile
def u (s : String) : CpInfo := .utf8 (stringToUtf16 s)
/-- a pool by its gaps: so many unusable entries, then the entry; so many at the end -/
def gap : Nat → List CpInfo → List CpInfo
  | 0, r => r
  | n + 1, r => .unusable :: gap n r
def poolList (es : List (Nat × CpInfo)) (last : Nat) : List CpInfo := es.foldr (fun e r => gap e.1 (e.2 :: r)) (gap last [])
def pool (es : List (Nat × CpInfo)) (last : Nat) : Array CpInfo := ⟨poolList es last⟩
def fileOf (pool : Array CpInfo) (this : Nat) (attrs : Array Attribute := #[]) (ms : Array MethodInfo := #[]) (fl : Nat := 33) (sup : Nat := 0) (ifs : Array Nat := #[]) (fds : Array FieldInfo := #[]) : ClassFile where
  minorVersion := 0
  majorVersion := 65
  constantPool := pool
  accessFlags := fl
  thisClass := this
  superClass := sup
  interfaces := ifs
  fields := fds
  methods := ms
  attributes := attrs
def plain (name : String) (sup : Option ClassId) : Class where
  name := name
  kind := .ordinary
  loader := none
  accessFlags := 33
  super := sup
  interfaces := #[]
  cf := none
  fields := #[]
  methods := #[]
  instanceTypes := #[]
  staticTypes := #[]
  resolved := #[]
  callSites := []
  init := .initialized
  statics := none
  mirror := none

def pool0 : Array CpInfo := pool [(5, u "<init>"), (0, u "()V"), (1, .class_ 10), (1, u "java/lang/Object")] 113

def k0c0 : Code := { maxStack := 0, maxLocals := 1, code := object_method_1_code, exceptionTable := #[], attributes := #[] }
def k0m0 : Method := { name := "<init>", desc := "()V", sig := { parameters := [], returnType := none }, accessFlags := 1, code := some k0c0 }
/-- java/lang/Object -/
def k0 : Class := { plain "java/lang/Object" none with
  accessFlags := 33
  interfaces := #[]
  cf := some (fileOf pool0 8 #[] #[{ accessFlags := 1, nameIndex := 5, descriptorIndex := 6, attributes := #[] }] 33 0 #[] #[])
  fields := #[]
  methods := #[k0m0]
  instanceTypes := #[]
  staticTypes := #[]
  resolved := Array.replicate 124 none
  statics := none }

def pool1 : Array CpInfo := pool [(2, .class_ 4), (1, u "java/lang/Object"), (0, u "<init>"), (0, u "()V"), (0, .fieldref 8 9), (0, .class_ 10), (0, .nameAndType 11 12), (0, u "com/example/metered_billing/meteredbilling/plan/Term$Unit"), (0, u "YEAR"), (0, u "Lcom/example/metered_billing/meteredbilling/plan/Term$Unit;"), (0, .fieldref 8 14), (0, .nameAndType 15 12), (0, u "MONTH"), (0, .integer 2147483647), (0, .class_ 18), (0, u "com/example/metered_billing/meteredbilling/plan/Term"), (0, .methodref 17 20), (0, .nameAndType 5 21), (0, u "(ILcom/example/metered_billing/meteredbilling/plan/Term$Unit;)V"), (0, .methodref 17 23), (0, .nameAndType 24 25), (0, u "lengthIn"), (0, u "(Lcom/example/metered_billing/meteredbilling/plan/Term$Unit;)Ljava/lang/Integer;"), (0, .methodref 27 28), (0, .class_ 29), (0, .nameAndType 30 31), (0, u "java/lang/Integer"), (0, u "intValue"), (0, u "()I"), (0, .class_ 33), (0, u "com/example/metered_billing/meteredbilling/plan/TermLengthInPinLaw"), (2, u "law"), (0, u "(III)Z")] 5

def k1m0 : Method := { name := "<init>", desc := "()V", sig := { parameters := [], returnType := none }, accessFlags := 1, code := none }
def k1c1 : Code := { maxStack := 4, maxLocals := 11, code := code, exceptionTable := #[], attributes := #[] }
def k1m1 : Method := { name := "law", desc := "(III)Z", sig := { parameters := [.int, .int, .int], returnType := some .boolean }, accessFlags := 9, code := some k1c1 }
/-- com/example/metered_billing/meteredbilling/plan/TermLengthInPinLaw -/
def k1 : Class := { plain "com/example/metered_billing/meteredbilling/plan/TermLengthInPinLaw" (some 0) with
  accessFlags := 49
  interfaces := #[]
  cf := some (fileOf pool1 32 #[] #[{ accessFlags := 1, nameIndex := 5, descriptorIndex := 6, attributes := #[] }, { accessFlags := 9, nameIndex := 36, descriptorIndex := 37, attributes := #[] }] 49 2 #[] #[])
  fields := #[]
  methods := #[k1m0, k1m1]
  instanceTypes := #[]
  staticTypes := #[]
  resolved := Array.replicate 43 none
  statics := none }

def pool2 : Array CpInfo := pool [(1, .class_ 2), (0, u "java/lang/constant/Constable"), (0, .class_ 4), (0, u "java/lang/Object")] 6

/-- java/lang/constant/Constable -/
def k2 : Class := { plain "java/lang/constant/Constable" (some 0) with
  accessFlags := 1537
  interfaces := #[]
  cf := some (fileOf pool2 1 #[] #[] 1537 3 #[] #[])
  fields := #[]
  methods := #[]
  instanceTypes := #[]
  staticTypes := #[]
  resolved := Array.replicate 11 none
  statics := none }

def pool3 : Array CpInfo := pool [(1, .class_ 2), (0, u "java/lang/Comparable"), (0, .class_ 4), (0, u "java/lang/Object")] 7

/-- java/lang/Comparable -/
def k3 : Class := { plain "java/lang/Comparable" (some 0) with
  accessFlags := 1537
  interfaces := #[]
  cf := some (fileOf pool3 1 #[] #[] 1537 3 #[] #[])
  fields := #[]
  methods := #[]
  instanceTypes := #[]
  staticTypes := #[]
  resolved := Array.replicate 12 none
  statics := none }

def pool4 : Array CpInfo := pool [(1, .class_ 2), (0, u "java/io/Serializable"), (0, .class_ 4), (0, u "java/lang/Object")] 2

/-- java/io/Serializable -/
def k4 : Class := { plain "java/io/Serializable" (some 0) with
  accessFlags := 1537
  interfaces := #[]
  cf := some (fileOf pool4 1 #[] #[] 1537 3 #[] #[])
  fields := #[]
  methods := #[]
  instanceTypes := #[]
  staticTypes := #[]
  resolved := Array.replicate 7 none
  statics := none }

def pool5 : Array CpInfo := pool [(2, .class_ 4), (1, u "java/lang/Enum"), (0, u "name"), (0, u "Ljava/lang/String;"), (2, u "ordinal"), (0, u "I"), (1, .class_ 14), (1, u "java/lang/Object"), (4, u "hash"), (86, .class_ 108), (1, u "java/lang/Enum$EnumDesc"), (2, .class_ 112), (0, u "java/lang/constant/Constable"), (0, .class_ 114), (0, u "java/lang/Comparable"), (0, .class_ 116), (0, u "java/io/Serializable")] 87

/-- java/lang/Enum -/
def k5 : Class := { plain "java/lang/Enum" (some 0) with
  accessFlags := 1057
  interfaces := #[2, 3, 4]
  cf := some (fileOf pool5 2 #[.nestMembers #[106]] #[] 1057 12 #[111, 113, 115] #[{ accessFlags := 18, nameIndex := 5, descriptorIndex := 6, attributes := #[] }, { accessFlags := 18, nameIndex := 9, descriptorIndex := 10, attributes := #[] }, { accessFlags := 2, nameIndex := 19, descriptorIndex := 10, attributes := #[] }])
  fields := #[{ name := "name", type := (.object "java/lang/String"), accessFlags := 18, slot := 0, constantValue := 0 }, { name := "ordinal", type := .int, accessFlags := 18, slot := 1, constantValue := 0 }, { name := "hash", type := .int, accessFlags := 2, slot := 2, constantValue := 0 }]
  methods := #[]
  instanceTypes := #[(.object "java/lang/String"), .int, .int]
  staticTypes := #[]
  resolved := Array.replicate 204 none
  statics := none }

def pool6 : Array CpInfo := pool [(1, .class_ 2), (0, u "com/example/metered_billing/meteredbilling/plan/Term$Unit"), (2, u "MONTH"), (0, u "Lcom/example/metered_billing/meteredbilling/plan/Term$Unit;"), (2, u "YEAR"), (2, u "$VALUES"), (0, u "[Lcom/example/metered_billing/meteredbilling/plan/Term$Unit;"), (6, .class_ 22), (1, u "java/lang/Enum"), (8, u "field"), (0, u "Ljava/lang/String;"), (2, u "priceUnit"), (0, u "Lcom/example/metered_billing/meteredbilling/rating/PriceUnit;"), (2, u "most"), (0, u "I"), (35, .class_ 77), (0, u "com/example/metered_billing/meteredbilling/plan/Term")] 2

/-- com/example/metered_billing/meteredbilling/plan/Term$Unit -/
def k6 : Class := { plain "com/example/metered_billing/meteredbilling/plan/Term$Unit" (some 5) with
  accessFlags := 16433
  interfaces := #[]
  cf := some (fileOf pool6 1 #[.nestHost 76] #[] 16433 20 #[] #[{ accessFlags := 16409, nameIndex := 5, descriptorIndex := 6, attributes := #[] }, { accessFlags := 16409, nameIndex := 9, descriptorIndex := 6, attributes := #[] }, { accessFlags := 18, nameIndex := 31, descriptorIndex := 32, attributes := #[] }, { accessFlags := 18, nameIndex := 35, descriptorIndex := 36, attributes := #[] }, { accessFlags := 18, nameIndex := 39, descriptorIndex := 40, attributes := #[] }, { accessFlags := 4122, nameIndex := 12, descriptorIndex := 13, attributes := #[] }])
  fields := #[{ name := "MONTH", type := (.object "com/example/metered_billing/meteredbilling/plan/Term$Unit"), accessFlags := 16409, slot := 0, constantValue := 0 }, { name := "YEAR", type := (.object "com/example/metered_billing/meteredbilling/plan/Term$Unit"), accessFlags := 16409, slot := 1, constantValue := 0 }, { name := "field", type := (.object "java/lang/String"), accessFlags := 18, slot := 3, constantValue := 0 }, { name := "priceUnit", type := (.object "com/example/metered_billing/meteredbilling/rating/PriceUnit"), accessFlags := 18, slot := 4, constantValue := 0 }, { name := "most", type := .int, accessFlags := 18, slot := 5, constantValue := 0 }, { name := "$VALUES", type := (.array (.object "com/example/metered_billing/meteredbilling/plan/Term$Unit")), accessFlags := 4122, slot := 2, constantValue := 0 }]
  methods := #[]
  instanceTypes := #[(.object "java/lang/String"), .int, .int, (.object "java/lang/String"), (.object "com/example/metered_billing/meteredbilling/rating/PriceUnit"), .int]
  staticTypes := #[(.object "com/example/metered_billing/meteredbilling/plan/Term$Unit"), (.object "com/example/metered_billing/meteredbilling/plan/Term$Unit"), (.array (.object "com/example/metered_billing/meteredbilling/plan/Term$Unit"))]
  resolved := Array.replicate 80 none
  statics := some 0 }

def pool7 : Array CpInfo := pool [(1, .methodref 2 3), (0, .class_ 4), (0, .nameAndType 5 6), (0, u "java/lang/Object"), (0, u "<init>"), (0, u "()V"), (0, .class_ 8), (0, u "java/lang/Record")] 13

def k7c0 : Code := { maxStack := 1, maxLocals := 1, code := jdk_30_method_1_code, exceptionTable := #[], attributes := #[] }
def k7m0 : Method := { name := "<init>", desc := "()V", sig := { parameters := [], returnType := none }, accessFlags := 4, code := some k7c0 }
/-- java/lang/Record -/
def k7 : Class := { plain "java/lang/Record" (some 0) with
  accessFlags := 1057
  interfaces := #[]
  cf := some (fileOf pool7 7 #[] #[{ accessFlags := 4, nameIndex := 5, descriptorIndex := 6, attributes := #[] }] 1057 2 #[] #[])
  fields := #[]
  methods := #[k7m0]
  instanceTypes := #[]
  staticTypes := #[]
  resolved := Array.replicate 22 none
  statics := none }

def pool8 : Array CpInfo := pool [(1, .methodref 2 3), (0, .class_ 4), (0, .nameAndType 5 6), (0, u "java/lang/Record"), (0, u "<init>"), (0, u "()V"), (0, .fieldref 8 9), (0, .class_ 10), (0, .nameAndType 11 12), (0, u "com/example/metered_billing/meteredbilling/plan/Term$Unit"), (0, u "most"), (0, u "I"), (13, .fieldref 27 28), (0, .class_ 29), (0, .nameAndType 30 12), (0, u "com/example/metered_billing/meteredbilling/plan/Term"), (0, u "length"), (0, .fieldref 27 32), (0, .nameAndType 33 34), (0, u "unit"), (0, u "Lcom/example/metered_billing/meteredbilling/plan/Term$Unit;"), (3, .class_ 40), (1, u "java/lang/Integer"), (7, u "(ILcom/example/metered_billing/meteredbilling/plan/Term$Unit;)V"), (41, .methodref 38 91), (0, .nameAndType 92 93), (0, u "valueOf"), (0, u "(I)Ljava/lang/Integer;"), (25, u "lengthIn"), (0, u "(Lcom/example/metered_billing/meteredbilling/plan/Term$Unit;)Ljava/lang/Integer;")] 57

def k8c0 : Code := { maxStack := 4, maxLocals := 3, code := prog_43_method_1_code, exceptionTable := #[], attributes := #[] }
def k8m0 : Method := { name := "<init>", desc := "(ILcom/example/metered_billing/meteredbilling/plan/Term$Unit;)V", sig := { parameters := [.int, (.object "com/example/metered_billing/meteredbilling/plan/Term$Unit")], returnType := none }, accessFlags := 1, code := some k8c0 }
def k8c1 : Code := { maxStack := 2, maxLocals := 2, code := prog_43_method_6_code, exceptionTable := #[], attributes := #[] }
def k8m1 : Method := { name := "lengthIn", desc := "(Lcom/example/metered_billing/meteredbilling/plan/Term$Unit;)Ljava/lang/Integer;", sig := { parameters := [(.object "com/example/metered_billing/meteredbilling/plan/Term$Unit")], returnType := some (.object "java/lang/Integer") }, accessFlags := 1, code := some k8c1 }
/-- com/example/metered_billing/meteredbilling/plan/Term -/
def k8 : Class := { plain "com/example/metered_billing/meteredbilling/plan/Term" (some 7) with
  accessFlags := 49
  interfaces := #[]
  cf := some (fileOf pool8 27 #[.nestMembers #[8]] #[{ accessFlags := 1, nameIndex := 5, descriptorIndex := 48, attributes := #[] }, { accessFlags := 1, nameIndex := 119, descriptorIndex := 120, attributes := #[] }] 49 2 #[] #[{ accessFlags := 18, nameIndex := 30, descriptorIndex := 12, attributes := #[] }, { accessFlags := 18, nameIndex := 33, descriptorIndex := 34, attributes := #[] }])
  fields := #[{ name := "length", type := .int, accessFlags := 18, slot := 0, constantValue := 0 }, { name := "unit", type := (.object "com/example/metered_billing/meteredbilling/plan/Term$Unit"), accessFlags := 18, slot := 1, constantValue := 0 }]
  methods := #[k8m0, k8m1]
  instanceTypes := #[.int, (.object "com/example/metered_billing/meteredbilling/plan/Term$Unit")]
  staticTypes := #[]
  resolved := (Array.replicate 178 none).setIfInBounds 7 (some (.field 6 4))
  statics := none }

def pool9 : Array CpInfo := pool [(2, .class_ 4), (1, u "java/lang/Object"), (0, u "<init>"), (0, u "()V"), (1, .class_ 10), (1, u "java/lang/Number"), (2, .class_ 14), (0, u "java/io/Serializable"), (0, u "serialVersionUID"), (0, u "J")] 20

def k9m0 : Method := { name := "<init>", desc := "()V", sig := { parameters := [], returnType := none }, accessFlags := 1, code := none }
/-- java/lang/Number -/
def k9 : Class := { plain "java/lang/Number" (some 0) with
  accessFlags := 1057
  interfaces := #[4]
  cf := some (fileOf pool9 8 #[] #[{ accessFlags := 1, nameIndex := 5, descriptorIndex := 6, attributes := #[] }] 1057 2 #[13] #[{ accessFlags := 26, nameIndex := 15, descriptorIndex := 16, attributes := #[] }])
  fields := #[{ name := "serialVersionUID", type := .long, accessFlags := 26, slot := 0, constantValue := 0 }]
  methods := #[k9m0]
  instanceTypes := #[]
  staticTypes := #[.long]
  resolved := Array.replicate 37 none
  statics := none }

def pool10 : Array CpInfo := pool [(1, .class_ 2), (0, u "java/lang/constant/ConstantDesc"), (0, .class_ 4), (0, u "java/lang/Object")] 32

/-- java/lang/constant/ConstantDesc -/
def k10 : Class := { plain "java/lang/constant/ConstantDesc" (some 0) with
  accessFlags := 1537
  interfaces := #[]
  cf := some (fileOf pool10 1 #[] #[] 1537 3 #[] #[])
  fields := #[]
  methods := #[]
  instanceTypes := #[]
  staticTypes := #[]
  resolved := Array.replicate 37 none
  statics := none }

def pool11 : Array CpInfo := pool [(1, .class_ 2), (0, u "java/lang/Integer"), (16, u "digits"), (0, u "[C"), (64, u "DigitOnes"), (0, u "[B"), (2, u "DigitTens"), (31, u "()I"), (65, u "valueOf"), (0, u "(I)Ljava/lang/Integer;"), (0, .class_ 190), (0, u "java/lang/Integer$IntegerCache"), (0, .fieldref 189 192), (0, .nameAndType 193 194), (0, u "high"), (0, u "I"), (0, .fieldref 189 196), (0, .nameAndType 197 198), (0, u "cache"), (0, u "[Ljava/lang/Integer;"), (4, .class_ 204), (0, u "java/lang/Number"), (0, .fieldref 1 206), (0, .nameAndType 207 194), (0, u "value"), (5, u "intValue"), (88, u "TYPE"), (0, u "Ljava/lang/Class;"), (0, .class_ 305), (0, u "java/lang/Comparable"), (0, .class_ 307), (0, u "java/lang/constant/Constable"), (0, .class_ 309), (0, u "java/lang/constant/ConstantDesc"), (0, u "MIN_VALUE"), (1, u "MAX_VALUE"), (3, u "SIZE"), (1, u "BYTES"), (1, u "serialVersionUID"), (0, u "J")] 131

def k11c0 : Code := { maxStack := 3, maxLocals := 1, code := jdk_33_method_22_code, exceptionTable := #[], attributes := #[] }
def k11m0 : Method := { name := "valueOf", desc := "(I)Ljava/lang/Integer;", sig := { parameters := [.int], returnType := some (.object "java/lang/Integer") }, accessFlags := 9, code := some k11c0 }
def k11c1 : Code := { maxStack := 1, maxLocals := 1, code := jdk_33_method_27_code, exceptionTable := #[], attributes := #[] }
def k11m1 : Method := { name := "intValue", desc := "()I", sig := { parameters := [], returnType := some .int }, accessFlags := 1, code := some k11c1 }
/-- java/lang/Integer -/
def k11 : Class := { plain "java/lang/Integer" (some 9) with
  accessFlags := 49
  interfaces := #[3, 2, 10]
  cf := some (fileOf pool11 1 #[.nestMembers #[189]] #[{ accessFlags := 9, nameIndex := 187, descriptorIndex := 188, attributes := #[] }, { accessFlags := 1, nameIndex := 213, descriptorIndex := 121, attributes := #[] }] 49 203 #[304, 306, 308] #[{ accessFlags := 25, nameIndex := 310, descriptorIndex := 194, attributes := #[] }, { accessFlags := 25, nameIndex := 312, descriptorIndex := 194, attributes := #[] }, { accessFlags := 25, nameIndex := 302, descriptorIndex := 303, attributes := #[] }, { accessFlags := 24, nameIndex := 19, descriptorIndex := 20, attributes := #[] }, { accessFlags := 24, nameIndex := 89, descriptorIndex := 86, attributes := #[] }, { accessFlags := 24, nameIndex := 85, descriptorIndex := 86, attributes := #[] }, { accessFlags := 18, nameIndex := 207, descriptorIndex := 194, attributes := #[] }, { accessFlags := 25, nameIndex := 316, descriptorIndex := 194, attributes := #[] }, { accessFlags := 25, nameIndex := 318, descriptorIndex := 194, attributes := #[] }, { accessFlags := 26, nameIndex := 320, descriptorIndex := 321, attributes := #[] }])
  fields := #[{ name := "MIN_VALUE", type := .int, accessFlags := 25, slot := 0, constantValue := 0 }, { name := "MAX_VALUE", type := .int, accessFlags := 25, slot := 1, constantValue := 0 }, { name := "TYPE", type := (.object "java/lang/Class"), accessFlags := 25, slot := 2, constantValue := 0 }, { name := "digits", type := (.array .char), accessFlags := 24, slot := 3, constantValue := 0 }, { name := "DigitTens", type := (.array .byte), accessFlags := 24, slot := 4, constantValue := 0 }, { name := "DigitOnes", type := (.array .byte), accessFlags := 24, slot := 5, constantValue := 0 }, { name := "value", type := .int, accessFlags := 18, slot := 0, constantValue := 0 }, { name := "SIZE", type := .int, accessFlags := 25, slot := 6, constantValue := 0 }, { name := "BYTES", type := .int, accessFlags := 25, slot := 7, constantValue := 0 }, { name := "serialVersionUID", type := .long, accessFlags := 26, slot := 8, constantValue := 0 }]
  methods := #[k11m0, k11m1]
  instanceTypes := #[.int]
  staticTypes := #[.int, .int, (.object "java/lang/Class"), (.array .char), (.array .byte), (.array .byte), .int, .int, .long]
  resolved := Array.replicate 453 none
  statics := none }

def pool12 : Array CpInfo := pool [(2, .class_ 4), (1, u "java/lang/Object"), (0, u "<init>"), (0, u "()V"), (0, .class_ 8), (0, u "java/lang/Integer"), (7, .class_ 18), (1, u "java/lang/Integer$IntegerCache"), (0, u "$assertionsDisabled"), (0, u "Z"), (26, u "high"), (0, u "I"), (8, u "archivedCache"), (0, u "[Ljava/lang/Integer;"), (12, u "cache"), (0, u "low")] 27

def k12m0 : Method := { name := "<init>", desc := "()V", sig := { parameters := [], returnType := none }, accessFlags := 2, code := none }
/-- java/lang/Integer$IntegerCache -/
def k12 : Class := { plain "java/lang/Integer$IntegerCache" (some 0) with
  accessFlags := 48
  interfaces := #[]
  cf := some (fileOf pool12 16 #[.nestHost 7] #[{ accessFlags := 2, nameIndex := 5, descriptorIndex := 6, attributes := #[] }] 48 2 #[] #[{ accessFlags := 24, nameIndex := 72, descriptorIndex := 48, attributes := #[] }, { accessFlags := 24, nameIndex := 47, descriptorIndex := 48, attributes := #[] }, { accessFlags := 24, nameIndex := 71, descriptorIndex := 58, attributes := #[] }, { accessFlags := 8, nameIndex := 57, descriptorIndex := 58, attributes := #[] }, { accessFlags := 4120, nameIndex := 19, descriptorIndex := 20, attributes := #[] }])
  fields := #[{ name := "low", type := .int, accessFlags := 24, slot := 0, constantValue := 0 }, { name := "high", type := .int, accessFlags := 24, slot := 1, constantValue := 0 }, { name := "cache", type := (.array (.object "java/lang/Integer")), accessFlags := 24, slot := 2, constantValue := 0 }, { name := "archivedCache", type := (.array (.object "java/lang/Integer")), accessFlags := 8, slot := 3, constantValue := 0 }, { name := "$assertionsDisabled", type := .boolean, accessFlags := 4120, slot := 4, constantValue := 0 }]
  methods := #[k12m0]
  instanceTypes := #[]
  staticTypes := #[.int, .int, (.array (.object "java/lang/Integer")), (.array (.object "java/lang/Integer")), .boolean]
  resolved := Array.replicate 100 none
  statics := some 1 }

def pool13 : Array CpInfo := pool [(1, u "java/lang/Cloneable"), (0, .class_ 1), (0, u "java/lang/Object"), (0, .class_ 3)] 3

/-- java/lang/Cloneable -/
def k13 : Class := { plain "java/lang/Cloneable" (some 0) with
  accessFlags := 1537
  interfaces := #[]
  cf := some (fileOf pool13 2 #[] #[] 1537 4 #[] #[])
  fields := #[]
  methods := #[]
  instanceTypes := #[]
  staticTypes := #[]
  resolved := Array.replicate 8 none
  statics := none }

/-- the primitive byte -/
def k14 : Class := { plain "byte" none with kind := .primitive 'B', accessFlags := 0x411 }
/-- [B -/
def k15 : Class := { plain "[B" (some 0) with kind := .array 14 .byte, interfaces := #[13, 4], accessFlags := 1041 }

/-- the primitive int -/
def k16 : Class := { plain "int" none with kind := .primitive 'I', accessFlags := 0x411 }
/-- [I -/
def k17 : Class := { plain "[I" (some 0) with kind := .array 16 .int, interfaces := #[13, 4], accessFlags := 1041 }

/-- [Ljava/lang/Integer; -/
def k18 : Class := { plain "[Ljava/lang/Integer;" (some 0) with kind := .array 11 (.object "java/lang/Integer"), interfaces := #[13, 4], accessFlags := 1041 }

def heap : Heap := #[{ cls := 6, slots := #[.ref 3, .ref 4, .null], vm := .statics 6 },
  { cls := 12, slots := #[.int 0, .int 127, .ref 2, .null, .int 0], vm := .statics 12 },
  { cls := 18, slots := #[.ref 5, .ref 6, .ref 7, .ref 8, .ref 9, .ref 10, .ref 11, .ref 12, .ref 13, .ref 14, .ref 15, .ref 16, .ref 17, .ref 18, .ref 19, .ref 20, .ref 21, .ref 22, .ref 23, .ref 24, .ref 25, .ref 26, .ref 27, .ref 28, .ref 29, .ref 30, .ref 31, .ref 32, .ref 33, .ref 34, .ref 35, .ref 36, .ref 37, .ref 38, .ref 39, .ref 40, .ref 41, .ref 42, .ref 43, .ref 44, .ref 45, .ref 46, .ref 47, .ref 48, .ref 49, .ref 50, .ref 51, .ref 52, .ref 53, .ref 54, .ref 55, .ref 56, .ref 57, .ref 58, .ref 59, .ref 60, .ref 61, .ref 62, .ref 63, .ref 64, .ref 65, .ref 66, .ref 67, .ref 68, .ref 69, .ref 70, .ref 71, .ref 72, .ref 73, .ref 74, .ref 75, .ref 76, .ref 77, .ref 78, .ref 79, .ref 80, .ref 81, .ref 82, .ref 83, .ref 84, .ref 85, .ref 86, .ref 87, .ref 88, .ref 89, .ref 90, .ref 91, .ref 92, .ref 93, .ref 94, .ref 95, .ref 96, .ref 97, .ref 98, .ref 99, .ref 100, .ref 101, .ref 102, .ref 103, .ref 104, .ref 105, .ref 106, .ref 107, .ref 108, .ref 109, .ref 110, .ref 111, .ref 112, .ref 113, .ref 114, .ref 115, .ref 116, .ref 117, .ref 118, .ref 119, .ref 120, .ref 121, .ref 122, .ref 123, .ref 124, .ref 125, .ref 126, .ref 127, .ref 128, .ref 129, .ref 130, .ref 131, .ref 132, .ref 133, .ref 134, .ref 135, .ref 136, .ref 137, .ref 138, .ref 139, .ref 140, .ref 141, .ref 142, .ref 143, .ref 144, .ref 145, .ref 146, .ref 147, .ref 148, .ref 149, .ref 150, .ref 151, .ref 152, .ref 153, .ref 154, .ref 155, .ref 156, .ref 157, .ref 158, .ref 159, .ref 160, .ref 161, .ref 162, .ref 163, .ref 164, .ref 165, .ref 166, .ref 167, .ref 168, .ref 169, .ref 170, .ref 171, .ref 172, .ref 173, .ref 174, .ref 175, .ref 176, .ref 177, .ref 178, .ref 179, .ref 180, .ref 181, .ref 182, .ref 183, .ref 184, .ref 185, .ref 186, .ref 187, .ref 188, .ref 189, .ref 190, .ref 191, .ref 192, .ref 193, .ref 194, .ref 195, .ref 196, .ref 197, .ref 198, .ref 199, .ref 200, .ref 201, .ref 202, .ref 203, .ref 204, .ref 205, .ref 206, .ref 207, .ref 208, .ref 209, .ref 210, .ref 211, .ref 212, .ref 213, .ref 214, .ref 215, .ref 216, .ref 217, .ref 218, .ref 219, .ref 220, .ref 221, .ref 222, .ref 223, .ref 224, .ref 225, .ref 226, .ref 227, .ref 228, .ref 229, .ref 230, .ref 231, .ref 232, .ref 233, .ref 234, .ref 235, .ref 236, .ref 237, .ref 238, .ref 239, .ref 240, .ref 241, .ref 242, .ref 243, .ref 244, .ref 245, .ref 246, .ref 247, .ref 248, .ref 249, .ref 250, .ref 251, .ref 252, .ref 253, .ref 254, .ref 255, .ref 256, .ref 257, .ref 258, .ref 259, .ref 260], vm := .none },
  { cls := 6, slots := #[.null, .int 0, .int 0, .null, .null, .int 11], vm := .none },
  { cls := 6, slots := #[.null, .int 1, .int 0, .null, .null, .int 5], vm := .none },
  { cls := 11, slots := #[.int (-128)], vm := .none },
  { cls := 11, slots := #[.int (-127)], vm := .none },
  { cls := 11, slots := #[.int (-126)], vm := .none },
  { cls := 11, slots := #[.int (-125)], vm := .none },
  { cls := 11, slots := #[.int (-124)], vm := .none },
  { cls := 11, slots := #[.int (-123)], vm := .none },
  { cls := 11, slots := #[.int (-122)], vm := .none },
  { cls := 11, slots := #[.int (-121)], vm := .none },
  { cls := 11, slots := #[.int (-120)], vm := .none },
  { cls := 11, slots := #[.int (-119)], vm := .none },
  { cls := 11, slots := #[.int (-118)], vm := .none },
  { cls := 11, slots := #[.int (-117)], vm := .none },
  { cls := 11, slots := #[.int (-116)], vm := .none },
  { cls := 11, slots := #[.int (-115)], vm := .none },
  { cls := 11, slots := #[.int (-114)], vm := .none },
  { cls := 11, slots := #[.int (-113)], vm := .none },
  { cls := 11, slots := #[.int (-112)], vm := .none },
  { cls := 11, slots := #[.int (-111)], vm := .none },
  { cls := 11, slots := #[.int (-110)], vm := .none },
  { cls := 11, slots := #[.int (-109)], vm := .none },
  { cls := 11, slots := #[.int (-108)], vm := .none },
  { cls := 11, slots := #[.int (-107)], vm := .none },
  { cls := 11, slots := #[.int (-106)], vm := .none },
  { cls := 11, slots := #[.int (-105)], vm := .none },
  { cls := 11, slots := #[.int (-104)], vm := .none },
  { cls := 11, slots := #[.int (-103)], vm := .none },
  { cls := 11, slots := #[.int (-102)], vm := .none },
  { cls := 11, slots := #[.int (-101)], vm := .none },
  { cls := 11, slots := #[.int (-100)], vm := .none },
  { cls := 11, slots := #[.int (-99)], vm := .none },
  { cls := 11, slots := #[.int (-98)], vm := .none },
  { cls := 11, slots := #[.int (-97)], vm := .none },
  { cls := 11, slots := #[.int (-96)], vm := .none },
  { cls := 11, slots := #[.int (-95)], vm := .none },
  { cls := 11, slots := #[.int (-94)], vm := .none },
  { cls := 11, slots := #[.int (-93)], vm := .none },
  { cls := 11, slots := #[.int (-92)], vm := .none },
  { cls := 11, slots := #[.int (-91)], vm := .none },
  { cls := 11, slots := #[.int (-90)], vm := .none },
  { cls := 11, slots := #[.int (-89)], vm := .none },
  { cls := 11, slots := #[.int (-88)], vm := .none },
  { cls := 11, slots := #[.int (-87)], vm := .none },
  { cls := 11, slots := #[.int (-86)], vm := .none },
  { cls := 11, slots := #[.int (-85)], vm := .none },
  { cls := 11, slots := #[.int (-84)], vm := .none },
  { cls := 11, slots := #[.int (-83)], vm := .none },
  { cls := 11, slots := #[.int (-82)], vm := .none },
  { cls := 11, slots := #[.int (-81)], vm := .none },
  { cls := 11, slots := #[.int (-80)], vm := .none },
  { cls := 11, slots := #[.int (-79)], vm := .none },
  { cls := 11, slots := #[.int (-78)], vm := .none },
  { cls := 11, slots := #[.int (-77)], vm := .none },
  { cls := 11, slots := #[.int (-76)], vm := .none },
  { cls := 11, slots := #[.int (-75)], vm := .none },
  { cls := 11, slots := #[.int (-74)], vm := .none },
  { cls := 11, slots := #[.int (-73)], vm := .none },
  { cls := 11, slots := #[.int (-72)], vm := .none },
  { cls := 11, slots := #[.int (-71)], vm := .none },
  { cls := 11, slots := #[.int (-70)], vm := .none },
  { cls := 11, slots := #[.int (-69)], vm := .none },
  { cls := 11, slots := #[.int (-68)], vm := .none },
  { cls := 11, slots := #[.int (-67)], vm := .none },
  { cls := 11, slots := #[.int (-66)], vm := .none },
  { cls := 11, slots := #[.int (-65)], vm := .none },
  { cls := 11, slots := #[.int (-64)], vm := .none },
  { cls := 11, slots := #[.int (-63)], vm := .none },
  { cls := 11, slots := #[.int (-62)], vm := .none },
  { cls := 11, slots := #[.int (-61)], vm := .none },
  { cls := 11, slots := #[.int (-60)], vm := .none },
  { cls := 11, slots := #[.int (-59)], vm := .none },
  { cls := 11, slots := #[.int (-58)], vm := .none },
  { cls := 11, slots := #[.int (-57)], vm := .none },
  { cls := 11, slots := #[.int (-56)], vm := .none },
  { cls := 11, slots := #[.int (-55)], vm := .none },
  { cls := 11, slots := #[.int (-54)], vm := .none },
  { cls := 11, slots := #[.int (-53)], vm := .none },
  { cls := 11, slots := #[.int (-52)], vm := .none },
  { cls := 11, slots := #[.int (-51)], vm := .none },
  { cls := 11, slots := #[.int (-50)], vm := .none },
  { cls := 11, slots := #[.int (-49)], vm := .none },
  { cls := 11, slots := #[.int (-48)], vm := .none },
  { cls := 11, slots := #[.int (-47)], vm := .none },
  { cls := 11, slots := #[.int (-46)], vm := .none },
  { cls := 11, slots := #[.int (-45)], vm := .none },
  { cls := 11, slots := #[.int (-44)], vm := .none },
  { cls := 11, slots := #[.int (-43)], vm := .none },
  { cls := 11, slots := #[.int (-42)], vm := .none },
  { cls := 11, slots := #[.int (-41)], vm := .none },
  { cls := 11, slots := #[.int (-40)], vm := .none },
  { cls := 11, slots := #[.int (-39)], vm := .none },
  { cls := 11, slots := #[.int (-38)], vm := .none },
  { cls := 11, slots := #[.int (-37)], vm := .none },
  { cls := 11, slots := #[.int (-36)], vm := .none },
  { cls := 11, slots := #[.int (-35)], vm := .none },
  { cls := 11, slots := #[.int (-34)], vm := .none },
  { cls := 11, slots := #[.int (-33)], vm := .none },
  { cls := 11, slots := #[.int (-32)], vm := .none },
  { cls := 11, slots := #[.int (-31)], vm := .none },
  { cls := 11, slots := #[.int (-30)], vm := .none },
  { cls := 11, slots := #[.int (-29)], vm := .none },
  { cls := 11, slots := #[.int (-28)], vm := .none },
  { cls := 11, slots := #[.int (-27)], vm := .none },
  { cls := 11, slots := #[.int (-26)], vm := .none },
  { cls := 11, slots := #[.int (-25)], vm := .none },
  { cls := 11, slots := #[.int (-24)], vm := .none },
  { cls := 11, slots := #[.int (-23)], vm := .none },
  { cls := 11, slots := #[.int (-22)], vm := .none },
  { cls := 11, slots := #[.int (-21)], vm := .none },
  { cls := 11, slots := #[.int (-20)], vm := .none },
  { cls := 11, slots := #[.int (-19)], vm := .none },
  { cls := 11, slots := #[.int (-18)], vm := .none },
  { cls := 11, slots := #[.int (-17)], vm := .none },
  { cls := 11, slots := #[.int (-16)], vm := .none },
  { cls := 11, slots := #[.int (-15)], vm := .none },
  { cls := 11, slots := #[.int (-14)], vm := .none },
  { cls := 11, slots := #[.int (-13)], vm := .none },
  { cls := 11, slots := #[.int (-12)], vm := .none },
  { cls := 11, slots := #[.int (-11)], vm := .none },
  { cls := 11, slots := #[.int (-10)], vm := .none },
  { cls := 11, slots := #[.int (-9)], vm := .none },
  { cls := 11, slots := #[.int (-8)], vm := .none },
  { cls := 11, slots := #[.int (-7)], vm := .none },
  { cls := 11, slots := #[.int (-6)], vm := .none },
  { cls := 11, slots := #[.int (-5)], vm := .none },
  { cls := 11, slots := #[.int (-4)], vm := .none },
  { cls := 11, slots := #[.int (-3)], vm := .none },
  { cls := 11, slots := #[.int (-2)], vm := .none },
  { cls := 11, slots := #[.int (-1)], vm := .none },
  { cls := 11, slots := #[.int 0], vm := .none },
  { cls := 11, slots := #[.int 1], vm := .none },
  { cls := 11, slots := #[.int 2], vm := .none },
  { cls := 11, slots := #[.int 3], vm := .none },
  { cls := 11, slots := #[.int 4], vm := .none },
  { cls := 11, slots := #[.int 5], vm := .none },
  { cls := 11, slots := #[.int 6], vm := .none },
  { cls := 11, slots := #[.int 7], vm := .none },
  { cls := 11, slots := #[.int 8], vm := .none },
  { cls := 11, slots := #[.int 9], vm := .none },
  { cls := 11, slots := #[.int 10], vm := .none },
  { cls := 11, slots := #[.int 11], vm := .none },
  { cls := 11, slots := #[.int 12], vm := .none },
  { cls := 11, slots := #[.int 13], vm := .none },
  { cls := 11, slots := #[.int 14], vm := .none },
  { cls := 11, slots := #[.int 15], vm := .none },
  { cls := 11, slots := #[.int 16], vm := .none },
  { cls := 11, slots := #[.int 17], vm := .none },
  { cls := 11, slots := #[.int 18], vm := .none },
  { cls := 11, slots := #[.int 19], vm := .none },
  { cls := 11, slots := #[.int 20], vm := .none },
  { cls := 11, slots := #[.int 21], vm := .none },
  { cls := 11, slots := #[.int 22], vm := .none },
  { cls := 11, slots := #[.int 23], vm := .none },
  { cls := 11, slots := #[.int 24], vm := .none },
  { cls := 11, slots := #[.int 25], vm := .none },
  { cls := 11, slots := #[.int 26], vm := .none },
  { cls := 11, slots := #[.int 27], vm := .none },
  { cls := 11, slots := #[.int 28], vm := .none },
  { cls := 11, slots := #[.int 29], vm := .none },
  { cls := 11, slots := #[.int 30], vm := .none },
  { cls := 11, slots := #[.int 31], vm := .none },
  { cls := 11, slots := #[.int 32], vm := .none },
  { cls := 11, slots := #[.int 33], vm := .none },
  { cls := 11, slots := #[.int 34], vm := .none },
  { cls := 11, slots := #[.int 35], vm := .none },
  { cls := 11, slots := #[.int 36], vm := .none },
  { cls := 11, slots := #[.int 37], vm := .none },
  { cls := 11, slots := #[.int 38], vm := .none },
  { cls := 11, slots := #[.int 39], vm := .none },
  { cls := 11, slots := #[.int 40], vm := .none },
  { cls := 11, slots := #[.int 41], vm := .none },
  { cls := 11, slots := #[.int 42], vm := .none },
  { cls := 11, slots := #[.int 43], vm := .none },
  { cls := 11, slots := #[.int 44], vm := .none },
  { cls := 11, slots := #[.int 45], vm := .none },
  { cls := 11, slots := #[.int 46], vm := .none },
  { cls := 11, slots := #[.int 47], vm := .none },
  { cls := 11, slots := #[.int 48], vm := .none },
  { cls := 11, slots := #[.int 49], vm := .none },
  { cls := 11, slots := #[.int 50], vm := .none },
  { cls := 11, slots := #[.int 51], vm := .none },
  { cls := 11, slots := #[.int 52], vm := .none },
  { cls := 11, slots := #[.int 53], vm := .none },
  { cls := 11, slots := #[.int 54], vm := .none },
  { cls := 11, slots := #[.int 55], vm := .none },
  { cls := 11, slots := #[.int 56], vm := .none },
  { cls := 11, slots := #[.int 57], vm := .none },
  { cls := 11, slots := #[.int 58], vm := .none },
  { cls := 11, slots := #[.int 59], vm := .none },
  { cls := 11, slots := #[.int 60], vm := .none },
  { cls := 11, slots := #[.int 61], vm := .none },
  { cls := 11, slots := #[.int 62], vm := .none },
  { cls := 11, slots := #[.int 63], vm := .none },
  { cls := 11, slots := #[.int 64], vm := .none },
  { cls := 11, slots := #[.int 65], vm := .none },
  { cls := 11, slots := #[.int 66], vm := .none },
  { cls := 11, slots := #[.int 67], vm := .none },
  { cls := 11, slots := #[.int 68], vm := .none },
  { cls := 11, slots := #[.int 69], vm := .none },
  { cls := 11, slots := #[.int 70], vm := .none },
  { cls := 11, slots := #[.int 71], vm := .none },
  { cls := 11, slots := #[.int 72], vm := .none },
  { cls := 11, slots := #[.int 73], vm := .none },
  { cls := 11, slots := #[.int 74], vm := .none },
  { cls := 11, slots := #[.int 75], vm := .none },
  { cls := 11, slots := #[.int 76], vm := .none },
  { cls := 11, slots := #[.int 77], vm := .none },
  { cls := 11, slots := #[.int 78], vm := .none },
  { cls := 11, slots := #[.int 79], vm := .none },
  { cls := 11, slots := #[.int 80], vm := .none },
  { cls := 11, slots := #[.int 81], vm := .none },
  { cls := 11, slots := #[.int 82], vm := .none },
  { cls := 11, slots := #[.int 83], vm := .none },
  { cls := 11, slots := #[.int 84], vm := .none },
  { cls := 11, slots := #[.int 85], vm := .none },
  { cls := 11, slots := #[.int 86], vm := .none },
  { cls := 11, slots := #[.int 87], vm := .none },
  { cls := 11, slots := #[.int 88], vm := .none },
  { cls := 11, slots := #[.int 89], vm := .none },
  { cls := 11, slots := #[.int 90], vm := .none },
  { cls := 11, slots := #[.int 91], vm := .none },
  { cls := 11, slots := #[.int 92], vm := .none },
  { cls := 11, slots := #[.int 93], vm := .none },
  { cls := 11, slots := #[.int 94], vm := .none },
  { cls := 11, slots := #[.int 95], vm := .none },
  { cls := 11, slots := #[.int 96], vm := .none },
  { cls := 11, slots := #[.int 97], vm := .none },
  { cls := 11, slots := #[.int 98], vm := .none },
  { cls := 11, slots := #[.int 99], vm := .none },
  { cls := 11, slots := #[.int 100], vm := .none },
  { cls := 11, slots := #[.int 101], vm := .none },
  { cls := 11, slots := #[.int 102], vm := .none },
  { cls := 11, slots := #[.int 103], vm := .none },
  { cls := 11, slots := #[.int 104], vm := .none },
  { cls := 11, slots := #[.int 105], vm := .none },
  { cls := 11, slots := #[.int 106], vm := .none },
  { cls := 11, slots := #[.int 107], vm := .none },
  { cls := 11, slots := #[.int 108], vm := .none },
  { cls := 11, slots := #[.int 109], vm := .none },
  { cls := 11, slots := #[.int 110], vm := .none },
  { cls := 11, slots := #[.int 111], vm := .none },
  { cls := 11, slots := #[.int 112], vm := .none },
  { cls := 11, slots := #[.int 113], vm := .none },
  { cls := 11, slots := #[.int 114], vm := .none },
  { cls := 11, slots := #[.int 115], vm := .none },
  { cls := 11, slots := #[.int 116], vm := .none },
  { cls := 11, slots := #[.int 117], vm := .none },
  { cls := 11, slots := #[.int 118], vm := .none },
  { cls := 11, slots := #[.int 119], vm := .none },
  { cls := 11, slots := #[.int 120], vm := .none },
  { cls := 11, slots := #[.int 121], vm := .none },
  { cls := 11, slots := #[.int 122], vm := .none },
  { cls := 11, slots := #[.int 123], vm := .none },
  { cls := 11, slots := #[.int 124], vm := .none },
  { cls := 11, slots := #[.int 125], vm := .none },
  { cls := 11, slots := #[.int 126], vm := .none },
  { cls := 11, slots := #[.int 127], vm := .none }]
def classes : Array Class := #[k0, k1, k2, k3, k4, k5, k6, k7, k8, k9, k10, k11, k12, k13, k14, k15, k16, k17, k18]
def interned : List (Array UInt16 × Addr) := []
def slotsUsed : Nat := 532
def theMethod : MethodId := ⟨1, 1⟩
def args0 : Array Value := #[.int 5, .int 3, .int 1]
def aboutOver (below : List Frame) : State where
  vm := { classes := classes, interned := interned.toArray }
  heap := heap
  slotsUsed := slotsUsed
  threads := #[{ frames := .invoking theMethod args0 :: below }]
def below0 : List Frame := [.native { method := ⟨0, 0⟩, args := #[] }]
def about1 : State := aboutOver below0
def p0 : Program := .bare "" "" ""
def e0 : Env := launch0.env 0 0 0
theorem w_frames : about1.frames = Frame.invoking theMethod args0 :: below0 := rfl
set_option maxRecDepth 65536 in
theorem w_args : argsFit about1.vm theMethod args0 = true := by decide +kernel
set_option maxRecDepth 65536 in
theorem w_heap : heapFits about1 = true := by decide +kernel
set_option maxRecDepth 65536 in
theorem w_runnable : about1.curStatus? = some .runnable := by decide +kernel
set_option maxRecDepth 65536 in
theorem w_alone : about1.alone = true := by decide +kernel
set_option maxRecDepth 65536 in
theorem w_named : about1.methodNamed? x = some theMethod := by decide +kernel
set_option maxRecDepth 65536 in
theorem w_hears : about1.hears theMethod below0 = true := by decide +kernel
set_option maxRecDepth 65536 in
theorem w_ripe : about1.ripe theMethod args0 below0 = true := by decide +kernel
theorem w_running : about1.status = .running := rfl
set_option maxRecDepth 65536 in
theorem w_room : about1.hasRoom e0.platform room_1 = true :=
  launch0.hasRoom_least _ room_1 (by decide +kernel) (by decide +kernel) (by decide +kernel) (by decide +kernel) (by decide +kernel) (by decide +kernel)
theorem allAtoms_all (ts : List Jvm.Cond) (a : Array Jvm.Value) (st : Jvm.State) : (allAtoms ts).before a st = ts.all (fun c => c.before a st) := by
  induction ts with
  | nil => rfl
  | cons c t ih =>
    show (Jvm.Cond.and c (allAtoms t)).before a st = _
    rw [Jvm.Cond.before_and, ih, List.all_cons]
def words1 : List Jvm.Cond := Jvm.Cond.code x code maxLocals ret :: tables_1
/-- a 'code' word, met by the world's own term for the bytes: nothing is compared byte by byte -/
theorem code_word {y : MethodName} {bytes : ByteArray} {mx : Nat} {rt : Option FieldType} {a : Array Value} {s : State} {m : MethodId} {meth : Method} {c : Code} (h1 : s.methodNamed? y = some m) (h2 : s.vm.method? m = some meth) (h3 : meth.code = some c) (h4 : c.code = bytes)
    (h5 : (c.maxLocals == mx && c.exceptionTable.isEmpty && decide (c.maxStack ≤ mostOperands) && decide (meth.sig.returnType = rt) && !meth.locks && decide (parseMethodDescriptor y.desc = some meth.sig)) = true) : (Jvm.Cond.code y bytes mx rt).before a s = true := by
  simp only [Bool.and_eq_true, beq_iff_eq, Bool.not_eq_true', decide_eq_true_eq] at h5
  obtain ⟨⟨⟨⟨⟨g1, g2⟩, g3⟩, g4⟩, g5⟩, g6⟩ := h5
  simp [Cond.before, Cond.holds, Cond.value, h1, h2, h3, h4, g1, g2, g3, g4, g5, g6]
def isCode : Jvm.Cond → Bool
  | .code _ _ _ _ => true
  | _ => false
theorem all_split {L : List Jvm.Cond} {P : Jvm.Cond → Bool} (h1 : L.all (fun c => isCode c || P c) = true) (h2 : ∀ c ∈ L.filter isCode, P c = true) : L.all P = true := by
  refine List.all_eq_true.mpr fun c hc => ?_
  have h := List.all_eq_true.mp h1 c hc
  rcases Bool.eq_false_or_eq_true (isCode c) with hi | hi
  · exact h2 c (List.mem_filter.mpr ⟨hc, hi⟩)
  · simpa [hi] using h
set_option maxRecDepth 65536 in
theorem w_c0 : (Jvm.Cond.code x code maxLocals ret).before args0 about1 = true := code_word (m := ⟨1, 1⟩) (meth := k1m1) (c := k1c1) (by decide +kernel) rfl rfl rfl (by decide +kernel)
set_option maxRecDepth 65536 in
theorem w_c1 : (Jvm.Cond.code ({ cls := "com/example/metered_billing/meteredbilling/plan/Term", name := "<init>", desc := "(ILcom/example/metered_billing/meteredbilling/plan/Term$Unit;)V" } : Jvm.MethodName) prog_43_method_1_code (3 : Nat) (Option.none : Option Jvm.ClassFile.FieldType)).before args0 about1 = true := code_word (m := ⟨8, 0⟩) (meth := k8m0) (c := k8c0) (by decide +kernel) rfl rfl rfl (by decide +kernel)
set_option maxRecDepth 65536 in
theorem w_c2 : (Jvm.Cond.code ({ cls := "java/lang/Record", name := "<init>", desc := "()V" } : Jvm.MethodName) jdk_30_method_1_code (1 : Nat) (Option.none : Option Jvm.ClassFile.FieldType)).before args0 about1 = true := code_word (m := ⟨7, 0⟩) (meth := k7m0) (c := k7c0) (by decide +kernel) rfl rfl rfl (by decide +kernel)
set_option maxRecDepth 65536 in
theorem w_c3 : (Jvm.Cond.code ({ cls := "java/lang/Object", name := "<init>", desc := "()V" } : Jvm.MethodName) object_method_1_code (1 : Nat) (Option.none : Option Jvm.ClassFile.FieldType)).before args0 about1 = true := code_word (m := ⟨0, 0⟩) (meth := k0m0) (c := k0c0) (by decide +kernel) rfl rfl rfl (by decide +kernel)
set_option maxRecDepth 65536 in
theorem w_c4 : (Jvm.Cond.code ({ cls := "com/example/metered_billing/meteredbilling/plan/Term", name := "lengthIn", desc := "(Lcom/example/metered_billing/meteredbilling/plan/Term$Unit;)Ljava/lang/Integer;" } : Jvm.MethodName) prog_43_method_6_code (2 : Nat) (Option.some (Jvm.ClassFile.FieldType.object "java/lang/Integer"))).before args0 about1 = true := code_word (m := ⟨8, 1⟩) (meth := k8m1) (c := k8c1) (by decide +kernel) rfl rfl rfl (by decide +kernel)
set_option maxRecDepth 65536 in
theorem w_c5 : (Jvm.Cond.code ({ cls := "java/lang/Integer", name := "valueOf", desc := "(I)Ljava/lang/Integer;" } : Jvm.MethodName) jdk_33_method_22_code (1 : Nat) (Option.some (Jvm.ClassFile.FieldType.object "java/lang/Integer"))).before args0 about1 = true := code_word (m := ⟨11, 0⟩) (meth := k11m0) (c := k11c0) (by decide +kernel) rfl rfl rfl (by decide +kernel)
set_option maxRecDepth 65536 in
theorem w_c6 : (Jvm.Cond.code ({ cls := "java/lang/Integer", name := "intValue", desc := "()I" } : Jvm.MethodName) jdk_33_method_27_code (1 : Nat) (Option.some Jvm.ClassFile.FieldType.int)).before args0 about1 = true := code_word (m := ⟨11, 1⟩) (meth := k11m1) (c := k11c1) (by decide +kernel) rfl rfl rfl (by decide +kernel)
def codes1 : List Jvm.Cond := [Jvm.Cond.code x code maxLocals ret, Jvm.Cond.code ({ cls := "com/example/metered_billing/meteredbilling/plan/Term", name := "<init>", desc := "(ILcom/example/metered_billing/meteredbilling/plan/Term$Unit;)V" } : Jvm.MethodName) prog_43_method_1_code (3 : Nat) (Option.none : Option Jvm.ClassFile.FieldType), Jvm.Cond.code ({ cls := "java/lang/Record", name := "<init>", desc := "()V" } : Jvm.MethodName) jdk_30_method_1_code (1 : Nat) (Option.none : Option Jvm.ClassFile.FieldType), Jvm.Cond.code ({ cls := "java/lang/Object", name := "<init>", desc := "()V" } : Jvm.MethodName) object_method_1_code (1 : Nat) (Option.none : Option Jvm.ClassFile.FieldType), Jvm.Cond.code ({ cls := "com/example/metered_billing/meteredbilling/plan/Term", name := "lengthIn", desc := "(Lcom/example/metered_billing/meteredbilling/plan/Term$Unit;)Ljava/lang/Integer;" } : Jvm.MethodName) prog_43_method_6_code (2 : Nat) (Option.some (Jvm.ClassFile.FieldType.object "java/lang/Integer")), Jvm.Cond.code ({ cls := "java/lang/Integer", name := "valueOf", desc := "(I)Ljava/lang/Integer;" } : Jvm.MethodName) jdk_33_method_22_code (1 : Nat) (Option.some (Jvm.ClassFile.FieldType.object "java/lang/Integer")), Jvm.Cond.code ({ cls := "java/lang/Integer", name := "intValue", desc := "()I" } : Jvm.MethodName) jdk_33_method_27_code (1 : Nat) (Option.some Jvm.ClassFile.FieldType.int)]
set_option maxRecDepth 65536 in
theorem codes_eq : words1.filter isCode = codes1 := rfl
theorem w_codes : ∀ c ∈ words1.filter isCode, c.before args0 about1 = true := by
  rw [codes_eq]
  intro c hc
  simp only [codes1, List.mem_cons, List.not_mem_nil, or_false] at hc
  rcases hc with rfl | rfl | rfl | rfl | rfl | rfl | rfl
  · exact w_c0
  · exact w_c1
  · exact w_c2
  · exact w_c3
  · exact w_c4
  · exact w_c5
  · exact w_c6
set_option maxRecDepth 65536 in
theorem w_t1 : (words1.take 24).all (fun c => isCode c || c.before args0 about1) = true := by decide +kernel
set_option maxRecDepth 65536 in
theorem w_t2 : (words1.drop 24).all (fun c => isCode c || c.before args0 about1) = true := by decide +kernel
theorem w_tables : (allAtoms (Jvm.Cond.code x code maxLocals ret :: tables_1)).before args0 about1 = true := by
  rw [allAtoms_all]
  show words1.all (fun c => c.before args0 about1) = true
  refine all_split ?_ w_codes
  rw [← List.take_append_drop 24 words1, List.all_append, w_t1, w_t2]
  rfl
set_option maxRecDepth 65536 in
theorem w_rest : rest_1_c.before args0 about1 = true := by decide +kernel
set_option maxRecDepth 65536 in
theorem w_case : (Jvm.Cond.and given_1 narrow_1).before args0 about1 = true := by decide +kernel
theorem w_applies : (headSpec (Jvm.Cond.code x code maxLocals ret :: tables_1) room_1).applies x e0.platform about1 = true :=
  (Spec.applies_iff w_frames).mpr ⟨w_running, w_runnable, w_alone, w_named, w_hears, w_ripe, w_room, w_tables⟩
theorem atStart : AtStart classFile x code maxLocals ret World_1 tables_1 room_1 Calls_1 rest_1 Pre_1 launch0 p0 e0 about1 theMethod args0 below0 :=
  ⟨lists_1, trivial, launch0.admits_env _ _ _, launch0.least_env, fairChoices_fair.cas, fairChoices_fair.clock, w_frames, w_args, w_heap, w_applies, trivial, w_rest, w_case⟩
end start1
theorem witness_1 : WitnessClaimed_1 := ⟨start1.p0, start1.e0, start1.about1, start1.theMethod, start1.args0, start1.below0, start1.atStart⟩
end Jvm.Pilot.@@N@@
