import JvmDerived
import JvmDerived.Pilot.@@N@@Statement
import JvmDerived.Pilot.@@N@@Code
set_option linter.unusedVariables false
set_option linter.unusedSimpArgs false
@@BLOCK:NumsL.lean.txt@@
namespace Jvm.RoadKit
open Sem ClassFile Op Lib Jvm.Stand Jvm.Free Jvm.LawKit
section New
variable {p : Program} {l : Launch} {e : Env} {R : Room} {s : State} {m : MethodId} {args : Array Value} {below : List Frame} {meth : Method} {c : Code} {T : State} {locs : List Loc} {cells slots : Nat}
theorem retI (X : Stand p l e R s m args below meth c T locs cells slots) (hx : p.tables.exec = Jvm.exec) {pc : Nat} {Ls : Array Slot} {z : Int32} {rest : List Value} (hret : meth.sig.returnType = some .int) (hd : decode c.code pc = .ok (.ireturn, 1)) {fs : List Frame}
    (hl : ∀ (f : JFrame) (acts : List Action), f.method = m → f.locked = none → f.entered = [] → (doReturn e (T.setTop f) acts (some (.int z))).1 = T.setFrames fs) : Steps p.tables e below (T.setTop (mkF m pc Ls (.int z :: rest))) (T.setFrames fs) := by
  have hm' : T.vm.method? m = some meth := X.method'
  have hn : narrow .int (.int z) = .int z := rfl
  show Steps p.tables e below (T.setTop { method := m, pc := pc, locals := Ls, stack := _ :: rest, locked := none }) _
  jvm_step X.here [X.here.top, hx, hd, hm', hret, hn]
  first | (intro acts; rw [hl _ acts rfl rfl rfl]) | rw [hl _ _ rfl rfl rfl]
  exact Steps.refl _
end New
end Jvm.RoadKit
namespace Jvm.Pilot.@@N@@
open Jvm Jvm.ClassFile Sem Op Lib Jvm.Free Jvm.Stand Jvm.LawKit Jvm.RoadKit Bundle Jvm.Pilot.@@N@@.Jvm.D
theorem own_ext {h h' h'' : Heap} (A : Ext h h') (B : Ext h' h'') : Ext h h'' := ⟨Nat.le_trans A.1 B.1, fun a c q => B.2 a c (A.2 a c q)⟩
theorem own_fld {args : Array Value} {s : State} {t : Term} {C n d : String} {w : Addr} {k : Int32} (h : (Jvm.Cond.eq (.field t C n d) (.int k)).value args s none s [] = some true) (ev : t.eval args s none [] s = some (.ref w)) : Fld s s.heap w C n d (.int k) := by
  apply Fld.start
  have e := fld_at (C := C) (n := n) (dd := d) ev
  obtain ⟨x, y, e1, e2, k1, k2⟩ := cmp_v (Or.inl h)
  cases (show y = .int k from (Option.some.inj (e2.symm.trans rfl)))
  obtain ⟨z, rfl⟩ := k2
  have q := gotT (Cond.eq_ints e1 e2) h
  rw [← e, e1, q]
theorem own_fldR {args : Array Value} {s : State} {t u : Term} {C n d : String} {w b : Addr} (h : (Jvm.Cond.eq (.field t C n d) u).value args s none s [] = some true) (ev : t.eval args s none [] s = some (.ref w)) (eu : u.eval args s none [] s = some (.ref b)) : Fld s s.heap w C n d (.ref b) := by
  apply Fld.start
  have e := fld_at (C := C) (n := n) (dd := d) ev
  obtain ⟨x, y, e1, e2, k1, k2⟩ := cmp_v (Or.inl h)
  cases e2.symm.trans eu
  have q := gotT (eq_R e1 eu k2.2 rfl) h
  rw [← e, e1, q]
theorem own_ne {Z : State} {h : Heap} {a b : Addr} {C n d : String} {i j : Int32} (F : Fld Z h a C n d (.int i)) (G : Fld Z h b C n d (.int j)) (hn : ¬ (i = j)) : ¬ (a = b) := fun e => by
  subst e
  obtain ⟨c1, f1, k1, i1, g1, p1, p2, -, -, -, -, p7⟩ := F
  obtain ⟨c2, f2, k2, i2, g2, q1, q2, -, -, -, -, q7⟩ := G
  cases p1.symm.trans q1
  cases p2.symm.trans q2
  exact hn (Value.int.inj (Option.some.inj (p7.symm.trans q7)))
theorem own_n0 {Z : State} {n0 : Nat} {h : Heap} (O : Old Z n0 h) : n0 ≤ h.size := O.1 ▸ O.2.1
theorem own_inj {x y : Int32} (h : x.toInt = y.toInt) : x = y := Int32.toInt_inj.mp h
theorem own_rem5 (x : Int32) : ((x &&& (2147483647 : Int32)) % (5 : Int32)) = (0 : Int32) ∨ ((x &&& (2147483647 : Int32)) % (5 : Int32)) = (1 : Int32) ∨ ((x &&& (2147483647 : Int32)) % (5 : Int32)) = (2 : Int32) ∨ ((x &&& (2147483647 : Int32)) % (5 : Int32)) = (3 : Int32) ∨ ((x &&& (2147483647 : Int32)) % (5 : Int32)) = (4 : Int32) := by
  have e := Jvm.Kit.i32_mask x (2147483647 : Int32) (k := 31) (by decide) (by decide)
  have e2 := Jvm.Kit.i32_rem_nonneg (x := x &&& (2147483647 : Int32)) (y := (5 : Int32)) (by omega)
  have e3 : (5 : Int32).toInt = 5 := by decide
  rw [e3] at e2
  have h : ((x &&& (2147483647 : Int32)) % (5 : Int32)).toInt = 0 ∨ ((x &&& (2147483647 : Int32)) % (5 : Int32)).toInt = 1 ∨ ((x &&& (2147483647 : Int32)) % (5 : Int32)).toInt = 2 ∨ ((x &&& (2147483647 : Int32)) % (5 : Int32)).toInt = 3 ∨ ((x &&& (2147483647 : Int32)) % (5 : Int32)).toInt = 4 := by omega
  rcases h with h | h | h | h | h
  · exact Or.inl (own_inj (h.trans (by decide)))
  · exact Or.inr (Or.inl (own_inj (h.trans (by decide))))
  · exact Or.inr (Or.inr (Or.inl (own_inj (h.trans (by decide)))))
  · exact Or.inr (Or.inr (Or.inr (Or.inl (own_inj (h.trans (by decide))))))
  · exact Or.inr (Or.inr (Or.inr (Or.inr (own_inj (h.trans (by decide))))))
theorem own_rem11 (x : Int32) : ((x &&& (2147483647 : Int32)) % (11 : Int32)) = (0 : Int32) ∨ ((x &&& (2147483647 : Int32)) % (11 : Int32)) = (1 : Int32) ∨ ((x &&& (2147483647 : Int32)) % (11 : Int32)) = (2 : Int32) ∨ ((x &&& (2147483647 : Int32)) % (11 : Int32)) = (3 : Int32) ∨ ((x &&& (2147483647 : Int32)) % (11 : Int32)) = (4 : Int32) ∨ ((x &&& (2147483647 : Int32)) % (11 : Int32)) = (5 : Int32) ∨ ((x &&& (2147483647 : Int32)) % (11 : Int32)) = (6 : Int32) ∨ ((x &&& (2147483647 : Int32)) % (11 : Int32)) = (7 : Int32) ∨ ((x &&& (2147483647 : Int32)) % (11 : Int32)) = (8 : Int32) ∨ ((x &&& (2147483647 : Int32)) % (11 : Int32)) = (9 : Int32) ∨ ((x &&& (2147483647 : Int32)) % (11 : Int32)) = (10 : Int32) := by
  have e := Jvm.Kit.i32_mask x (2147483647 : Int32) (k := 31) (by decide) (by decide)
  have e2 := Jvm.Kit.i32_rem_nonneg (x := x &&& (2147483647 : Int32)) (y := (11 : Int32)) (by omega)
  have e3 : (11 : Int32).toInt = 11 := by decide
  rw [e3] at e2
  have h : ((x &&& (2147483647 : Int32)) % (11 : Int32)).toInt = 0 ∨ ((x &&& (2147483647 : Int32)) % (11 : Int32)).toInt = 1 ∨ ((x &&& (2147483647 : Int32)) % (11 : Int32)).toInt = 2 ∨ ((x &&& (2147483647 : Int32)) % (11 : Int32)).toInt = 3 ∨ ((x &&& (2147483647 : Int32)) % (11 : Int32)).toInt = 4 ∨ ((x &&& (2147483647 : Int32)) % (11 : Int32)).toInt = 5 ∨ ((x &&& (2147483647 : Int32)) % (11 : Int32)).toInt = 6 ∨ ((x &&& (2147483647 : Int32)) % (11 : Int32)).toInt = 7 ∨ ((x &&& (2147483647 : Int32)) % (11 : Int32)).toInt = 8 ∨ ((x &&& (2147483647 : Int32)) % (11 : Int32)).toInt = 9 ∨ ((x &&& (2147483647 : Int32)) % (11 : Int32)).toInt = 10 := by omega
  rcases h with h | h | h | h | h | h | h | h | h | h | h
  · exact Or.inl (own_inj (h.trans (by decide)))
  · exact Or.inr (Or.inl (own_inj (h.trans (by decide))))
  · exact Or.inr (Or.inr (Or.inl (own_inj (h.trans (by decide)))))
  · exact Or.inr (Or.inr (Or.inr (Or.inl (own_inj (h.trans (by decide))))))
  · exact Or.inr (Or.inr (Or.inr (Or.inr (Or.inl (own_inj (h.trans (by decide)))))))
  · exact Or.inr (Or.inr (Or.inr (Or.inr (Or.inr (Or.inl (own_inj (h.trans (by decide))))))))
  · exact Or.inr (Or.inr (Or.inr (Or.inr (Or.inr (Or.inr (Or.inl (own_inj (h.trans (by decide)))))))))
  · exact Or.inr (Or.inr (Or.inr (Or.inr (Or.inr (Or.inr (Or.inr (Or.inl (own_inj (h.trans (by decide))))))))))
  · exact Or.inr (Or.inr (Or.inr (Or.inr (Or.inr (Or.inr (Or.inr (Or.inr (Or.inl (own_inj (h.trans (by decide)))))))))))
  · exact Or.inr (Or.inr (Or.inr (Or.inr (Or.inr (Or.inr (Or.inr (Or.inr (Or.inr (Or.inl (own_inj (h.trans (by decide))))))))))))
  · exact Or.inr (Or.inr (Or.inr (Or.inr (Or.inr (Or.inr (Or.inr (Or.inr (Or.inr (Or.inr (own_inj (h.trans (by decide))))))))))))
theorem own_lo5 (x : Int32) : ¬ (((1 : Int32) + ((x &&& (2147483647 : Int32)) % (5 : Int32))) < (1 : Int32)) := by
  rcases own_rem5 x with h | h | h | h | h <;> rw [h] <;> decide
theorem own_hi5 (x : Int32) : ¬ ((5 : Int32) < ((1 : Int32) + ((x &&& (2147483647 : Int32)) % (5 : Int32)))) := by
  rcases own_rem5 x with h | h | h | h | h <;> rw [h] <;> decide
theorem own_lq5 (x : Int32) : ¬ (((1 : Int32) + ((x &&& (2147483647 : Int32)) % (5 : Int32))) < (-128 : Int32)) := by
  rcases own_rem5 x with h | h | h | h | h <;> rw [h] <;> decide
theorem own_hq5 (x : Int32) : ¬ ((127 : Int32) < ((1 : Int32) + ((x &&& (2147483647 : Int32)) % (5 : Int32)))) := by
  rcases own_rem5 x with h | h | h | h | h <;> rw [h] <;> decide
theorem own_lo11 (x : Int32) : ¬ (((1 : Int32) + ((x &&& (2147483647 : Int32)) % (11 : Int32))) < (1 : Int32)) := by
  rcases own_rem11 x with h | h | h | h | h | h | h | h | h | h | h <;> rw [h] <;> decide
theorem own_hi11 (x : Int32) : ¬ ((11 : Int32) < ((1 : Int32) + ((x &&& (2147483647 : Int32)) % (11 : Int32)))) := by
  rcases own_rem11 x with h | h | h | h | h | h | h | h | h | h | h <;> rw [h] <;> decide
theorem own_lq11 (x : Int32) : ¬ (((1 : Int32) + ((x &&& (2147483647 : Int32)) % (11 : Int32))) < (-128 : Int32)) := by
  rcases own_rem11 x with h | h | h | h | h | h | h | h | h | h | h <;> rw [h] <;> decide
theorem own_hq11 (x : Int32) : ¬ ((127 : Int32) < ((1 : Int32) + ((x &&& (2147483647 : Int32)) % (11 : Int32)))) := by
  rcases own_rem11 x with h | h | h | h | h | h | h | h | h | h | h <;> rw [h] <;> decide
def World (Z : State) (w_YEAR : Addr) (w_USER_YEAR : Addr) (w_MONTH : Addr) (w_USER_MONTH : Addr) : Prop := Sta Z Z.heap "com/example/metered_billing/meteredbilling/plan/Term$Unit" "YEAR" "Lcom/example/metered_billing/meteredbilling/plan/Term$Unit;" (.ref w_YEAR) ∧ Exa Z Z.heap w_YEAR "com/example/metered_billing/meteredbilling/plan/Term$Unit" ∧ Sta Z Z.heap "com/example/metered_billing/meteredbilling/rating/PriceUnit" "USER_YEAR" "Lcom/example/metered_billing/meteredbilling/rating/PriceUnit;" (.ref w_USER_YEAR) ∧ Exa Z Z.heap w_USER_YEAR "com/example/metered_billing/meteredbilling/rating/PriceUnit" ∧ Sta Z Z.heap "com/example/metered_billing/meteredbilling/plan/Term$Unit" "MONTH" "Lcom/example/metered_billing/meteredbilling/plan/Term$Unit;" (.ref w_MONTH) ∧ Exa Z Z.heap w_MONTH "com/example/metered_billing/meteredbilling/plan/Term$Unit" ∧ Sta Z Z.heap "com/example/metered_billing/meteredbilling/rating/PriceUnit" "USER_MONTH" "Lcom/example/metered_billing/meteredbilling/rating/PriceUnit;" (.ref w_USER_MONTH) ∧ Exa Z Z.heap w_USER_MONTH "com/example/metered_billing/meteredbilling/rating/PriceUnit" ∧ Fld Z Z.heap w_YEAR "com/example/metered_billing/meteredbilling/plan/Term$Unit" "most" "I" (.int (5 : Int32)) ∧ Fld Z Z.heap w_YEAR "com/example/metered_billing/meteredbilling/plan/Term$Unit" "priceUnit" "Lcom/example/metered_billing/meteredbilling/rating/PriceUnit;" (.ref w_USER_YEAR) ∧ Fld Z Z.heap w_USER_YEAR "com/example/metered_billing/meteredbilling/rating/PriceUnit" "userMonths" "I" (.int (12 : Int32)) ∧ Fld Z Z.heap w_MONTH "com/example/metered_billing/meteredbilling/plan/Term$Unit" "most" "I" (.int (11 : Int32)) ∧ Fld Z Z.heap w_MONTH "com/example/metered_billing/meteredbilling/plan/Term$Unit" "priceUnit" "Lcom/example/metered_billing/meteredbilling/rating/PriceUnit;" (.ref w_USER_MONTH) ∧ Fld Z Z.heap w_USER_MONTH "com/example/metered_billing/meteredbilling/rating/PriceUnit" "userMonths" "I" (.int (1 : Int32)) ∧ ¬ (w_YEAR = w_MONTH) ∧ ¬ (w_USER_YEAR = w_USER_MONTH) ∧ True
theorem d1_0 : decode prog_43_method_1_code 0 = .ok (.aload_n 0, 1) := by decide +kernel
theorem d2_0 : decode jdk_30_method_1_code 0 = .ok (.aload_n 0, 1) := by decide +kernel
theorem d2_1 : decode jdk_30_method_1_code 1 = .ok (.invokespecial 1, 3) := by decide +kernel
theorem d2_4 : decode jdk_30_method_1_code 4 = .ok (.return_, 1) := by decide +kernel
theorem ef5 (m : MethodId) (x0 : Addr) : entryFrame m #[(.ref x0)] 1 = mkF m 0 #[.val (.ref x0)] [] := by first | (simp [entryFrame, mkF, argsToLocals, Value.category]; done) | rfl
theorem pn6 : plainName "java/lang/Record" = true := by first | (simp [plainName, overriddenIn]; done) | decide +kernel
def Q2_0 (Z : State) (w_YEAR : Addr) (w_USER_YEAR : Addr) (w_MONTH : Addr) (w_USER_MONTH : Addr) (ob0 : Addr) (h0 : Heap) (n0 : Nat) (v : Option Value) (h : Heap) (L : List Loc) : Prop := v = none ∧ Fr n0 L ∧ h = h0
set_option maxRecDepth 65536 in
set_option maxHeartbeats 40000000 in
theorem rm2_0 (l : Launch) (Z : State) (a0 : Array Value) (hw : ∀ d ∈ tables_1, d.before a0 Z = true) (ws : List Jvm.Cond) (w_YEAR : Addr) (w_USER_YEAR : Addr) (w_MONTH : Addr) (w_USER_MONTH : Addr) (ob0 : Addr) (h0 : Heap) (n0 : Nat) (Z0 : n0 ≤ h0.size) (O0 : Old Z n0 h0) (HW : World Z w_YEAR w_USER_YEAR w_MONTH w_USER_MONTH) (PE_ob0 : Exa Z h0 ob0 "com/example/metered_billing/meteredbilling/plan/Term") (PF_ob0_length : Fld Z h0 ob0 "com/example/metered_billing/meteredbilling/plan/Term" "length" "I" (.int (0 : Int32))) (PF_ob0_unit : Fld Z h0 ob0 "com/example/metered_billing/meteredbilling/plan/Term" "unit" "Lcom/example/metered_billing/meteredbilling/plan/Term$Unit;" .null) :
    MetFree l (⟨"java/lang/Record", "<init>", "()V"⟩ : MethodName) (head1 (Jvm.Cond.code (⟨"java/lang/Record", "<init>", "()V"⟩ : MethodName) jdk_30_method_1_code 1 none :: ws) ({ frames := 1, cells := 0, slots := 0, locals := 12 } : Room)) (fun a U => a = #[(.ref ob0)] ∧ Z.Warmed39 U.vm ∧ U.heap = h0) (fun _ _ _ _ _ => True) (fun _ U o U' => ∃ v L, o = .returned v ∧ Q2_0 Z w_YEAR w_USER_YEAR w_MONTH w_USER_MONTH ob0 h0 n0 v U'.heap L ∧ FrameEnd U o U' L ({ frames := 1, cells := 0, slots := 0, locals := 12 } : Room).cells ({ frames := 1, cells := 0, slots := 0, locals := 12 } : Room).slots) := by
  refine MetFree.of_bodySF (plainFor_of_name pn6) hisR ?_
  intro p e s m args below meth c s₁ Bd hml0 hP hK
  obtain ⟨rfl, hZ, hh⟩ := hP
  have hx := Bd.exec
  have hby := Bd.bytes
  have hml : c.maxLocals = 1 := hml0
  have hown : s.vm.findClass "java/lang/Record" = some m.cls := findClass_of_methodNamed Bd.named
  have hnm := (name_of_methodNamed Bd.named Bd.method).1
  have X0 : Stand p l e ({ frames := 1, cells := 0, slots := 0, locals := 12 } : Room) s m #[(.ref ob0)] below meth c s₁ [] 0 0 := Stand.of_body Bd
  have e0 : s₁.heap = h0 := by rw [← hh, Bd.state]; rfl
  have N0 := Fr.nil n0
  have pre0 : ∀ t, Steps p.tables e below (s₁.setTop (mkF m 0 #[.val (.ref ob0)] [])) t → Steps p.tables e below (s₁.setTop (entryFrame m #[(.ref ob0)] 1)) t := fun t k => castTop (ef5 m ob0) k
  obtain ⟨S_w_YEAR, E_w_YEAR, S_w_USER_YEAR, E_w_USER_YEAR, S_w_MONTH, E_w_MONTH, S_w_USER_MONTH, E_w_USER_MONTH, F_most_w_YEAR, F_priceUnit_w_YEAR, F_userMonths_w_USER_YEAR, F_most_w_MONTH, F_priceUnit_w_MONTH, F_userMonths_w_USER_MONTH, ne_w_YEAR_w_MONTH, ne_w_USER_YEAR_w_USER_MONTH, -⟩ := id HW
  obtain ⟨T1, X1, e1, st1⟩ := initO X0 hx hZ hown (hw _ (List.mem_of_getElem? (i := 15) rfl)) (hw _ (List.mem_of_getElem? (i := 16) rfl)) (hw _ (List.mem_of_getElem? (i := 17) rfl)) e0 (g := (mkF m 1 #[.val (.ref ob0)] [(.ref ob0)])) rfl (by rw [hml]; rfl) rfl (hb hby d2_1) (by decide) (W := 0) (by show 2 * 0 + _ ≤ _; exact Nat.le_of_eq rfl) (by decide)
  obtain ⟨fs, hr, hrun, hended, hW, hsame⟩ := X1.leave (v := none) (fun _ => rfl)
  refine ⟨_, _, pre0 _ ?_, hrun, hended, _, _, rfl, ?_, ⟨_, rfl⟩, hW, hsame.mono (by decide) (by decide)⟩
  · show Steps p.tables e below (s₁.setTop (mkF m 0 #[.val (.ref ob0)] [])) _
    refine XS.aloadN X0.here hx rfl (hb hby d2_0) rfl rfl ?_
    show Steps p.tables e below (s₁.setTop (mkF m 1 #[.val (.ref ob0)] [(.ref ob0)])) _
    refine st1 _ ?_
    show Steps p.tables e below (T1.setTop (mkF m 4 #[.val (.ref ob0)] [])) _
    exact X1.returnOut hx Bd.returns (hb hby d2_4) hr
  · exact ⟨rfl, N0, e1⟩
theorem pd7 : parseMethodDescriptor "()V" = some ⟨[], none⟩ := by decide +kernel
theorem d1_1 : decode prog_43_method_1_code 1 = .ok (.invokespecial 1, 3) := by decide +kernel
theorem d1_4 : decode prog_43_method_1_code 4 = .ok (.iload_n 1, 1) := by decide +kernel
theorem d1_5 : decode prog_43_method_1_code 5 = .ok (.iconst 1, 1) := by decide +kernel
theorem d1_6 : decode prog_43_method_1_code 6 = .ok (.if_icmp .lt 11, 3) := by decide +kernel
theorem d1_9 : decode prog_43_method_1_code 9 = .ok (.iload_n 1, 1) := by decide +kernel
theorem d1_10 : decode prog_43_method_1_code 10 = .ok (.aload_n 2, 1) := by decide +kernel
theorem own_getFR {p : Program} {l : Launch} {e : Env} {R : Room} {s : State} {m : MethodId} {args : Array Value} {below : List Frame} {meth : Method} {c : Code} {T : State} {locs : List Loc} {cells slots : Nat} {Z : State} {a0 : Array Value} {h : Heap} (X : Stand p l e R s m args below meth c T locs cells slots) (hx : p.tables.exec = Jvm.exec) (hZ : Z.Warmed39 s.vm) {own O n d : String} {index : Nat} (hown : s.vm.findClass own = some m.cls) (w : (Jvm.Cond.fieldRef own index O n d).before a0 Z = true)
    (eT : T.heap = h) {a : Addr} {v : Value} (F : Fld Z h a O n d v) {g : JFrame} (hg : g.method = m) {rest : List Value} (hs : g.stack = .ref a :: rest) (hd : decode c.code g.pc = .ok (.getfield index, 3)) : ∀ target, Steps p.tables e below (T.setTop { g with pc := g.pc + 3, stack := v :: rest }) target → Steps p.tables e below (T.setTop g) target := by
  intro target hrest
  obtain ⟨cell, cf, k, i, f, h1, h2, h3, h4, -, -, h7⟩ := F
  have hW : Z.Warmed39 T.vm := wtrans hZ X.warmed
  have w' := Cond.fieldRef_warmed39 hW w
  have hown' : (Z.setVm T.vm).vm.findClass own = some m.cls := by
    rw [show (Z.setVm T.vm).vm = T.vm from rfl, X.warmed.alike.findClass]; exact hown
  obtain ⟨c', k', i', f', e1, hr⟩ := Cond.fieldRef_spec hown' w'
  obtain ⟨k2, e2, -⟩ := State.fieldFound?_setVm (s := Z) hW.alike h2
  cases e2.symm.trans e1
  subst hg
  jvm_step X.here [hx, hd, getfield.wp_ready (e := e) (s := T) (f := g) X.here.top hr h3 hs (by rw [eT]; exact h1) h4 h7]
  exact hrest
theorem d1_11 : decode prog_43_method_1_code 11 = .ok (.getfield 7, 3) := by decide +kernel
theorem d1_14 : decode prog_43_method_1_code 14 = .ok (.if_icmp .le 24, 3) := by decide +kernel
theorem d1_38 : decode prog_43_method_1_code 38 = .ok (.aload_n 0, 1) := by decide +kernel
theorem d1_39 : decode prog_43_method_1_code 39 = .ok (.iload_n 1, 1) := by decide +kernel
theorem d1_40 : decode prog_43_method_1_code 40 = .ok (.putfield 26, 3) := by decide +kernel
theorem d1_43 : decode prog_43_method_1_code 43 = .ok (.aload_n 0, 1) := by decide +kernel
theorem d1_44 : decode prog_43_method_1_code 44 = .ok (.aload_n 2, 1) := by decide +kernel
theorem d1_45 : decode prog_43_method_1_code 45 = .ok (.putfield 31, 3) := by decide +kernel
theorem d1_48 : decode prog_43_method_1_code 48 = .ok (.return_, 1) := by decide +kernel
theorem ef25 (m : MethodId) (x0 : Addr) (x1 : Int32) (x2 : Addr) : entryFrame m #[(.ref x0), (.int x1), (.ref x2)] 3 = mkF m 0 #[.val (.ref x0), .val (.int x1), .val (.ref x2)] [] := by first | (simp [entryFrame, mkF, argsToLocals, Value.category]; done) | rfl
theorem pn26 : plainName "com/example/metered_billing/meteredbilling/plan/Term" = true := by first | (simp [plainName, overriddenIn]; done) | decide +kernel
def Q1_1 (Z : State) (w_YEAR : Addr) (w_USER_YEAR : Addr) (w_MONTH : Addr) (w_USER_MONTH : Addr) (ob0 : Addr) (q0 : Int32) (h0 : Heap) (n0 : Nat) (v : Option Value) (h : Heap) (L : List Loc) : Prop := v = none ∧ Fr n0 L ∧ Keep h0 h [ob0] ∧ Old Z n0 h ∧ Exa Z h ob0 "com/example/metered_billing/meteredbilling/plan/Term" ∧ Fld Z h ob0 "com/example/metered_billing/meteredbilling/plan/Term" "length" "I" (.int q0) ∧ Fld Z h ob0 "com/example/metered_billing/meteredbilling/plan/Term" "unit" "Lcom/example/metered_billing/meteredbilling/plan/Term$Unit;" (.ref w_MONTH) ∧ True
set_option maxRecDepth 65536 in
set_option maxHeartbeats 40000000 in
theorem rm1_1 (l : Launch) (Z : State) (a0 : Array Value) (hw : ∀ d ∈ tables_1, d.before a0 Z = true) (ws : List Jvm.Cond) (w_YEAR : Addr) (w_USER_YEAR : Addr) (w_MONTH : Addr) (w_USER_MONTH : Addr) (ob0 : Addr) (q0 : Int32) (h0 : Heap) (n0 : Nat) (Z0 : n0 ≤ h0.size) (O0 : Old Z n0 h0) (HW : World Z w_YEAR w_USER_YEAR w_MONTH w_USER_MONTH) (PE_ob0 : Exa Z h0 ob0 "com/example/metered_billing/meteredbilling/plan/Term") (PF_ob0_length : Fld Z h0 ob0 "com/example/metered_billing/meteredbilling/plan/Term" "length" "I" (.int (0 : Int32))) (PF_ob0_unit : Fld Z h0 ob0 "com/example/metered_billing/meteredbilling/plan/Term" "unit" "Lcom/example/metered_billing/meteredbilling/plan/Term$Unit;" .null) (g_ob0 : n0 ≤ ob0) (hd0 : ¬ (q0 < (1 : Int32))) (hd1 : ¬ ((11 : Int32) < q0)) :
    MetFree l (⟨"com/example/metered_billing/meteredbilling/plan/Term", "<init>", "(ILcom/example/metered_billing/meteredbilling/plan/Term$Unit;)V"⟩ : MethodName) (head1 (Jvm.Cond.code (⟨"com/example/metered_billing/meteredbilling/plan/Term", "<init>", "(ILcom/example/metered_billing/meteredbilling/plan/Term$Unit;)V"⟩ : MethodName) prog_43_method_1_code 3 none :: ws) ({ frames := 2, cells := 0, slots := 0, locals := 24 } : Room)) (fun a U => a = #[(.ref ob0), (.int q0), (.ref w_MONTH)] ∧ Z.Warmed39 U.vm ∧ U.heap = h0) (fun _ _ _ _ _ => True) (fun _ U o U' => ∃ v L, o = .returned v ∧ Q1_1 Z w_YEAR w_USER_YEAR w_MONTH w_USER_MONTH ob0 q0 h0 n0 v U'.heap L ∧ FrameEnd U o U' L ({ frames := 2, cells := 0, slots := 0, locals := 24 } : Room).cells ({ frames := 2, cells := 0, slots := 0, locals := 24 } : Room).slots) := by
  refine MetFree.of_bodySF (plainFor_of_name pn26) hisR ?_
  intro p e s m args below meth c s₁ Bd hml0 hP hK
  obtain ⟨rfl, hZ, hh⟩ := hP
  have hx := Bd.exec
  have hby := Bd.bytes
  have hml : c.maxLocals = 3 := hml0
  have hown : s.vm.findClass "com/example/metered_billing/meteredbilling/plan/Term" = some m.cls := findClass_of_methodNamed Bd.named
  have hnm := (name_of_methodNamed Bd.named Bd.method).1
  have X0 : Stand p l e ({ frames := 2, cells := 0, slots := 0, locals := 24 } : Room) s m #[(.ref ob0), (.int q0), (.ref w_MONTH)] below meth c s₁ [] 0 0 := Stand.of_body Bd
  have e0 : s₁.heap = h0 := by rw [← hh, Bd.state]; rfl
  have N0 := Fr.nil n0
  have pre0 : ∀ t, Steps p.tables e below (s₁.setTop (mkF m 0 #[.val (.ref ob0), .val (.int q0), .val (.ref w_MONTH)] [])) t → Steps p.tables e below (s₁.setTop (entryFrame m #[(.ref ob0), (.int q0), (.ref w_MONTH)] 3)) t := fun t k => castTop (ef25 m ob0 q0 w_MONTH) k
  obtain ⟨S_w_YEAR, E_w_YEAR, S_w_USER_YEAR, E_w_USER_YEAR, S_w_MONTH, E_w_MONTH, S_w_USER_MONTH, E_w_USER_MONTH, F_most_w_YEAR, F_priceUnit_w_YEAR, F_userMonths_w_USER_YEAR, F_most_w_MONTH, F_priceUnit_w_MONTH, F_userMonths_w_USER_MONTH, ne_w_YEAR_w_MONTH, ne_w_USER_YEAR_w_USER_MONTH, -⟩ := id HW
  obtain ⟨_, _, ⟨T1, L1, k1, n1⟩, -, X1, ⟨Lc1, hQ1, l1, y1, z1⟩, st1⟩ := X0.specialBack hx (y := (⟨"java/lang/Record", "<init>", "()V"⟩ : MethodName)) rfl hown (mvT hZ (hw _ (List.mem_of_getElem? (i := 10) rfl))) (mvT hZ (hw _ (List.mem_of_getElem? (i := 11) rfl))) (mvT hZ (hw _ (List.mem_of_getElem? (i := 14) rfl))) (by decide) (backOf (W := 0) (rm2_0 l Z a0 hw [] w_YEAR w_USER_YEAR w_MONTH w_USER_MONTH ob0 h0 n0 (own_n0 O0) O0 HW PE_ob0 PF_ob0_length PF_ob0_unit) hZ (hw _ (List.mem_of_getElem? (i := 14) rfl)) (hw _ (List.mem_of_getElem? (i := 13) rfl)) (by decide) (by decide)) (g := (mkF m 1 #[.val (.ref ob0), .val (.int q0), .val (.ref w_MONTH)] [(.ref ob0)])) rfl (by rw [hml]; rfl) (Steps.refl _) (a := ob0) (argsL := []) (rest := []) (lenOf pd7 rfl) rfl (by show 2 * 0 + _ ≤ _; exact Nat.le_of_eq rfl) (hb hby d1_1) (fun _ _ => ⟨rfl, e0, (by decide : 0 + 0 ≤ _), (by decide : 0 + 0 ≤ _)⟩)
  dsimp only [Pt.U, Pt.locs, Pt.cells, Pt.slots] at X1 l1 y1 z1 st1 hQ1
  subst l1 y1 z1
  obtain ⟨rfl, N1q, e1⟩ := hQ1
  have N1 := Fr.app N0 N1q
  obtain ⟨T2, h2, X2, e2, W2, st2⟩ := putF X1 hx hZ hown (host := "") (Or.inl (hw _ (List.mem_of_getElem? (i := 20) rfl))) Via.refl e1 PF_ob0_length PE_ob0 (Or.inr ⟨(hw _ (List.mem_of_getElem? (i := 21) rfl)), rfl, hnm⟩) (hw _ (List.mem_of_getElem? (i := 5) rfl)) (ty := .int) (by decide) rfl rfl (g := (mkF m 40 #[.val (.ref ob0), .val (.int q0), .val (.ref w_MONTH)] [(.int q0), (.ref ob0)])) rfl rfl (hb hby d1_40)
  have Fw2 := PF_ob0_length.same W2
  have N2 := Fr.snoc X2 N1 g_ob0
  have O2 := O0.wr W2 g_ob0
  have KK2 : Keep h0 h2 [ob0] := (Keep.refl h0 [ob0]).wr W2 (Or.inl (List.mem_of_getElem? (i := 0) rfl))
  obtain ⟨T3, h3, X3, e3, W3, st3⟩ := putF X2 hx hZ hown (host := "") (Or.inl (hw _ (List.mem_of_getElem? (i := 22) rfl))) Via.refl e2 (PF_ob0_unit.other W2 (Or.inr (slot_ne (Or.inr (hw _ (List.mem_of_getElem? (i := 23) rfl))) (Or.inr (hw _ (List.mem_of_getElem? (i := 21) rfl))) (by decide) (t := (.object "com/example/metered_billing/meteredbilling/plan/Term$Unit")) (t' := .int) (by decide) (by decide)))) (PE_ob0.wr W2) (Or.inr ⟨(hw _ (List.mem_of_getElem? (i := 23) rfl)), rfl, hnm⟩) (hw _ (List.mem_of_getElem? (i := 5) rfl)) (ty := (.object "com/example/metered_billing/meteredbilling/plan/Term$Unit")) (by decide) rfl rfl (g := (mkF m 45 #[.val (.ref ob0), .val (.int q0), .val (.ref w_MONTH)] [(.ref w_MONTH), (.ref ob0)])) rfl rfl (hb hby d1_45)
  have Fw3 := (PF_ob0_unit.other W2 (Or.inr (slot_ne (Or.inr (hw _ (List.mem_of_getElem? (i := 23) rfl))) (Or.inr (hw _ (List.mem_of_getElem? (i := 21) rfl))) (by decide) (t := (.object "com/example/metered_billing/meteredbilling/plan/Term$Unit")) (t' := .int) (by decide) (by decide)))).same W3
  have N3 := Fr.snoc X3 N2 g_ob0
  have O3 := O2.wr W3 g_ob0
  have KK3 : Keep h0 h3 [ob0] := KK2.wr W3 (Or.inl (List.mem_of_getElem? (i := 0) rfl))
  obtain ⟨fs, hr, hrun, hended, hW, hsame⟩ := X3.leave (v := none) (fun _ => rfl)
  refine ⟨_, _, pre0 _ ?_, hrun, hended, _, _, rfl, ?_, ⟨_, rfl⟩, hW, hsame.mono (by decide) (by decide)⟩
  · show Steps p.tables e below (s₁.setTop (mkF m 0 #[.val (.ref ob0), .val (.int q0), .val (.ref w_MONTH)] [])) _
    refine XS.aloadN X0.here hx rfl (hb hby d1_0) rfl rfl ?_
    show Steps p.tables e below (s₁.setTop (mkF m 1 #[.val (.ref ob0), .val (.int q0), .val (.ref w_MONTH)] [(.ref ob0)])) _
    refine st1.trans ?_
    show Steps p.tables e below (T1.setTop (mkF m 4 #[.val (.ref ob0), .val (.int q0), .val (.ref w_MONTH)] [])) _
    refine XS.iloadN X1.here hx rfl (hb hby d1_4) rfl ?_
    show Steps p.tables e below (T1.setTop (mkF m 5 #[.val (.ref ob0), .val (.int q0), .val (.ref w_MONTH)] [(.int q0)])) _
    refine XS.iconst X1.here hx rfl (hb hby d1_5) ?_
    show Steps p.tables e below (T1.setTop (mkF m 6 #[.val (.ref ob0), .val (.int q0), .val (.ref w_MONTH)] [(.int (1 : Int32)), (.int q0)])) _
    refine XS.icmpNo X1.here hx rfl (hb hby d1_6) rfl (flt hd0).1 ?_
    show Steps p.tables e below (T1.setTop (mkF m 9 #[.val (.ref ob0), .val (.int q0), .val (.ref w_MONTH)] [])) _
    refine XS.iloadN X1.here hx rfl (hb hby d1_9) rfl ?_
    show Steps p.tables e below (T1.setTop (mkF m 10 #[.val (.ref ob0), .val (.int q0), .val (.ref w_MONTH)] [(.int q0)])) _
    refine XS.aloadN X1.here hx rfl (hb hby d1_10) rfl rfl ?_
    show Steps p.tables e below (T1.setTop (mkF m 11 #[.val (.ref ob0), .val (.int q0), .val (.ref w_MONTH)] [(.ref w_MONTH), (.int q0)])) _
    refine own_getFR X1 hx hZ hown (hw _ (List.mem_of_getElem? (i := 18) rfl)) e1 (F_most_w_MONTH.ext O0.2) (g := (mkF m 11 #[.val (.ref ob0), .val (.int q0), .val (.ref w_MONTH)] [(.ref w_MONTH), (.int q0)])) rfl rfl (hb hby d1_11) _ ?_
    show Steps p.tables e below (T1.setTop (mkF m 14 #[.val (.ref ob0), .val (.int q0), .val (.ref w_MONTH)] [(.int (11 : Int32)), (.int q0)])) _
    refine XS.icmpYes X1.here hx rfl (pc0 := 14) (pc' := 38) rfl (hb hby d1_14) rfl (flt hd1).2.2.2 (by decide) (by decide) ?_
    show Steps p.tables e below (T1.setTop (mkF m 38 #[.val (.ref ob0), .val (.int q0), .val (.ref w_MONTH)] [])) _
    refine XS.aloadN X1.here hx rfl (hb hby d1_38) rfl rfl ?_
    show Steps p.tables e below (T1.setTop (mkF m 39 #[.val (.ref ob0), .val (.int q0), .val (.ref w_MONTH)] [(.ref ob0)])) _
    refine XS.iloadN X1.here hx rfl (hb hby d1_39) rfl ?_
    show Steps p.tables e below (T1.setTop (mkF m 40 #[.val (.ref ob0), .val (.int q0), .val (.ref w_MONTH)] [(.int q0), (.ref ob0)])) _
    refine st2 _ ?_
    show Steps p.tables e below (T2.setTop (mkF m 43 #[.val (.ref ob0), .val (.int q0), .val (.ref w_MONTH)] [])) _
    refine XS.aloadN X2.here hx rfl (hb hby d1_43) rfl rfl ?_
    show Steps p.tables e below (T2.setTop (mkF m 44 #[.val (.ref ob0), .val (.int q0), .val (.ref w_MONTH)] [(.ref ob0)])) _
    refine XS.aloadN X2.here hx rfl (hb hby d1_44) rfl rfl ?_
    show Steps p.tables e below (T2.setTop (mkF m 45 #[.val (.ref ob0), .val (.int q0), .val (.ref w_MONTH)] [(.ref w_MONTH), (.ref ob0)])) _
    refine st3 _ ?_
    show Steps p.tables e below (T3.setTop (mkF m 48 #[.val (.ref ob0), .val (.int q0), .val (.ref w_MONTH)] [])) _
    exact X3.returnOut hx Bd.returns (hb hby d1_48) hr
  · have eH : (T3.setFrames fs).heap = h3 := e3; rw [eH]; exact ⟨rfl, N3, KK3, O3, ((PE_ob0.wr W2).wr W3), (Fw2.other W3 (Or.inr (slot_ne (Or.inr (hw _ (List.mem_of_getElem? (i := 21) rfl))) (Or.inr (hw _ (List.mem_of_getElem? (i := 23) rfl))) (by decide) (t := .int) (t' := (.object "com/example/metered_billing/meteredbilling/plan/Term$Unit")) (by decide) (by decide)))), Fw3, trivial⟩
theorem pd27 : parseMethodDescriptor "(ILcom/example/metered_billing/meteredbilling/plan/Term$Unit;)V" = some ⟨[.int, (.object "com/example/metered_billing/meteredbilling/plan/Term$Unit")], none⟩ := by decide +kernel
theorem d4_0 : decode prog_43_method_5_code 0 = .ok (.aload_n 0, 1) := by decide +kernel
theorem d4_1 : decode prog_43_method_5_code 1 = .ok (.getfield 26, 3) := by decide +kernel
theorem d4_4 : decode prog_43_method_5_code 4 = .ok (.aload_n 0, 1) := by decide +kernel
theorem d4_5 : decode prog_43_method_5_code 5 = .ok (.getfield 31, 3) := by decide +kernel
theorem d4_8 : decode prog_43_method_5_code 8 = .ok (.getfield 81, 3) := by decide +kernel
theorem d5_0 : decode prog_49_method_9_code 0 = .ok (.aload_n 0, 1) := by decide +kernel
theorem d5_1 : decode prog_49_method_9_code 1 = .ok (.getfield 64, 3) := by decide +kernel
theorem d5_4 : decode prog_49_method_9_code 4 = .ok (.ireturn, 1) := by decide +kernel
theorem ef37 (m : MethodId) (x0 : Addr) : entryFrame m #[(.ref x0)] 1 = mkF m 0 #[.val (.ref x0)] [] := by first | (simp [entryFrame, mkF, argsToLocals, Value.category]; done) | rfl
theorem pn38 : plainName "com/example/metered_billing/meteredbilling/rating/PriceUnit" = true := by first | (simp [plainName, overriddenIn]; done) | decide +kernel
def Q5_2 (Z : State) (w_YEAR : Addr) (w_USER_YEAR : Addr) (w_MONTH : Addr) (w_USER_MONTH : Addr) (h0 : Heap) (n0 : Nat) (v : Option Value) (h : Heap) (L : List Loc) : Prop := v = some (.int (1 : Int32)) ∧ Fr n0 L ∧ h = h0
set_option maxRecDepth 65536 in
set_option maxHeartbeats 40000000 in
theorem rm5_2 (l : Launch) (Z : State) (a0 : Array Value) (hw : ∀ d ∈ tables_1, d.before a0 Z = true) (ws : List Jvm.Cond) (w_YEAR : Addr) (w_USER_YEAR : Addr) (w_MONTH : Addr) (w_USER_MONTH : Addr) (h0 : Heap) (n0 : Nat) (Z0 : n0 ≤ h0.size) (O0 : Old Z n0 h0) (HW : World Z w_YEAR w_USER_YEAR w_MONTH w_USER_MONTH) :
    MetFree l (⟨"com/example/metered_billing/meteredbilling/rating/PriceUnit", "userMonths", "()I"⟩ : MethodName) (head1 (Jvm.Cond.code (⟨"com/example/metered_billing/meteredbilling/rating/PriceUnit", "userMonths", "()I"⟩ : MethodName) prog_49_method_9_code 1 (some .int) :: ws) ({ frames := 0, cells := 0, slots := 0, locals := 0 } : Room)) (fun a U => a = #[(.ref w_USER_MONTH)] ∧ Z.Warmed39 U.vm ∧ U.heap = h0) (fun _ _ _ _ _ => True) (fun _ U o U' => ∃ v L, o = .returned v ∧ Q5_2 Z w_YEAR w_USER_YEAR w_MONTH w_USER_MONTH h0 n0 v U'.heap L ∧ FrameEnd U o U' L ({ frames := 0, cells := 0, slots := 0, locals := 0 } : Room).cells ({ frames := 0, cells := 0, slots := 0, locals := 0 } : Room).slots) := by
  refine MetFree.of_bodySF (plainFor_of_name pn38) hisR ?_
  intro p e s m args below meth c s₁ Bd hml0 hP hK
  obtain ⟨rfl, hZ, hh⟩ := hP
  have hx := Bd.exec
  have hby := Bd.bytes
  have hml : c.maxLocals = 1 := hml0
  have hown : s.vm.findClass "com/example/metered_billing/meteredbilling/rating/PriceUnit" = some m.cls := findClass_of_methodNamed Bd.named
  have hnm := (name_of_methodNamed Bd.named Bd.method).1
  have X0 : Stand p l e ({ frames := 0, cells := 0, slots := 0, locals := 0 } : Room) s m #[(.ref w_USER_MONTH)] below meth c s₁ [] 0 0 := Stand.of_body Bd
  have e0 : s₁.heap = h0 := by rw [← hh, Bd.state]; rfl
  have N0 := Fr.nil n0
  have pre0 : ∀ t, Steps p.tables e below (s₁.setTop (mkF m 0 #[.val (.ref w_USER_MONTH)] [])) t → Steps p.tables e below (s₁.setTop (entryFrame m #[(.ref w_USER_MONTH)] 1)) t := fun t k => castTop (ef37 m w_USER_MONTH) k
  obtain ⟨S_w_YEAR, E_w_YEAR, S_w_USER_YEAR, E_w_USER_YEAR, S_w_MONTH, E_w_MONTH, S_w_USER_MONTH, E_w_USER_MONTH, F_most_w_YEAR, F_priceUnit_w_YEAR, F_userMonths_w_USER_YEAR, F_most_w_MONTH, F_priceUnit_w_MONTH, F_userMonths_w_USER_MONTH, ne_w_YEAR_w_MONTH, ne_w_USER_YEAR_w_USER_MONTH, -⟩ := id HW
  obtain ⟨T1, X1, e1, st1⟩ := getF X0 hx hZ hown (host := "") (Or.inl (hw _ (List.mem_of_getElem? (i := 38) rfl))) Via.refl e0 (F_userMonths_w_USER_MONTH.ext O0.2) (g := (mkF m 1 #[.val (.ref w_USER_MONTH)] [(.ref w_USER_MONTH)])) rfl rfl (hb hby d5_1)
  obtain ⟨fs, hr, hrun, hended, hW, hsame⟩ := X1.leave (v := some (.int (1 : Int32))) (fun h => by rw [Bd.returns] at h; cases h)
  refine ⟨_, _, pre0 _ ?_, hrun, hended, _, _, rfl, ?_, ⟨_, rfl⟩, hW, hsame.mono (by decide) (by decide)⟩
  · show Steps p.tables e below (s₁.setTop (mkF m 0 #[.val (.ref w_USER_MONTH)] [])) _
    refine XS.aloadN X0.here hx rfl (hb hby d5_0) rfl rfl ?_
    show Steps p.tables e below (s₁.setTop (mkF m 1 #[.val (.ref w_USER_MONTH)] [(.ref w_USER_MONTH)])) _
    refine st1 _ ?_
    show Steps p.tables e below (T1.setTop (mkF m 4 #[.val (.ref w_USER_MONTH)] [(.int (1 : Int32))])) _
    exact Jvm.RoadKit.retI X1 hx Bd.returns (hb hby d5_4) hr
  · exact ⟨rfl, N0, e1⟩
theorem pd39 : parseMethodDescriptor "()I" = some ⟨[], some .int⟩ := by decide +kernel
theorem d4_11 : decode prog_43_method_5_code 11 = .ok (.invokevirtual 85, 3) := by decide +kernel
theorem d4_14 : decode prog_43_method_5_code 14 = .ok (.imul, 1) := by decide +kernel
theorem d4_15 : decode prog_43_method_5_code 15 = .ok (.ireturn, 1) := by decide +kernel
theorem ef44 (m : MethodId) (x0 : Addr) : entryFrame m #[(.ref x0)] 1 = mkF m 0 #[.val (.ref x0)] [] := by first | (simp [entryFrame, mkF, argsToLocals, Value.category]; done) | rfl
def Q4_3 (Z : State) (w_YEAR : Addr) (w_USER_YEAR : Addr) (w_MONTH : Addr) (w_USER_MONTH : Addr) (ob0 : Addr) (q0 : Int32) (h0 : Heap) (n0 : Nat) (v : Option Value) (h : Heap) (L : List Loc) : Prop := v = some (.int (q0 * (1 : Int32))) ∧ Fr n0 L ∧ h = h0
set_option maxRecDepth 65536 in
set_option maxHeartbeats 40000000 in
theorem rm4_3 (l : Launch) (Z : State) (a0 : Array Value) (hw : ∀ d ∈ tables_1, d.before a0 Z = true) (ws : List Jvm.Cond) (w_YEAR : Addr) (w_USER_YEAR : Addr) (w_MONTH : Addr) (w_USER_MONTH : Addr) (ob0 : Addr) (q0 : Int32) (h0 : Heap) (n0 : Nat) (Z0 : n0 ≤ h0.size) (O0 : Old Z n0 h0) (HW : World Z w_YEAR w_USER_YEAR w_MONTH w_USER_MONTH) (PE_ob0 : Exa Z h0 ob0 "com/example/metered_billing/meteredbilling/plan/Term") (PF_ob0_length : Fld Z h0 ob0 "com/example/metered_billing/meteredbilling/plan/Term" "length" "I" (.int q0)) (PF_ob0_unit : Fld Z h0 ob0 "com/example/metered_billing/meteredbilling/plan/Term" "unit" "Lcom/example/metered_billing/meteredbilling/plan/Term$Unit;" (.ref w_MONTH)) :
    MetFree l (⟨"com/example/metered_billing/meteredbilling/plan/Term", "months", "()I"⟩ : MethodName) (head1 (Jvm.Cond.code (⟨"com/example/metered_billing/meteredbilling/plan/Term", "months", "()I"⟩ : MethodName) prog_43_method_5_code 1 (some .int) :: ws) ({ frames := 1, cells := 0, slots := 0, locals := 13 } : Room)) (fun a U => a = #[(.ref ob0)] ∧ Z.Warmed39 U.vm ∧ U.heap = h0) (fun _ _ _ _ _ => True) (fun _ U o U' => ∃ v L, o = .returned v ∧ Q4_3 Z w_YEAR w_USER_YEAR w_MONTH w_USER_MONTH ob0 q0 h0 n0 v U'.heap L ∧ FrameEnd U o U' L ({ frames := 1, cells := 0, slots := 0, locals := 13 } : Room).cells ({ frames := 1, cells := 0, slots := 0, locals := 13 } : Room).slots) := by
  refine MetFree.of_bodySF (plainFor_of_name pn26) hisR ?_
  intro p e s m args below meth c s₁ Bd hml0 hP hK
  obtain ⟨rfl, hZ, hh⟩ := hP
  have hx := Bd.exec
  have hby := Bd.bytes
  have hml : c.maxLocals = 1 := hml0
  have hown : s.vm.findClass "com/example/metered_billing/meteredbilling/plan/Term" = some m.cls := findClass_of_methodNamed Bd.named
  have hnm := (name_of_methodNamed Bd.named Bd.method).1
  have X0 : Stand p l e ({ frames := 1, cells := 0, slots := 0, locals := 13 } : Room) s m #[(.ref ob0)] below meth c s₁ [] 0 0 := Stand.of_body Bd
  have e0 : s₁.heap = h0 := by rw [← hh, Bd.state]; rfl
  have N0 := Fr.nil n0
  have pre0 : ∀ t, Steps p.tables e below (s₁.setTop (mkF m 0 #[.val (.ref ob0)] [])) t → Steps p.tables e below (s₁.setTop (entryFrame m #[(.ref ob0)] 1)) t := fun t k => castTop (ef44 m ob0) k
  obtain ⟨S_w_YEAR, E_w_YEAR, S_w_USER_YEAR, E_w_USER_YEAR, S_w_MONTH, E_w_MONTH, S_w_USER_MONTH, E_w_USER_MONTH, F_most_w_YEAR, F_priceUnit_w_YEAR, F_userMonths_w_USER_YEAR, F_most_w_MONTH, F_priceUnit_w_MONTH, F_userMonths_w_USER_MONTH, ne_w_YEAR_w_MONTH, ne_w_USER_YEAR_w_USER_MONTH, -⟩ := id HW
  obtain ⟨T1, X1, e1, st1⟩ := getF X0 hx hZ hown (host := "") (Or.inl (hw _ (List.mem_of_getElem? (i := 20) rfl))) Via.refl e0 PF_ob0_length (g := (mkF m 1 #[.val (.ref ob0)] [(.ref ob0)])) rfl rfl (hb hby d4_1)
  obtain ⟨T2, X2, e2, st2⟩ := getF X1 hx hZ hown (host := "") (Or.inl (hw _ (List.mem_of_getElem? (i := 22) rfl))) Via.refl e1 PF_ob0_unit (g := (mkF m 5 #[.val (.ref ob0)] [(.ref ob0), (.int q0)])) rfl rfl (hb hby d4_5)
  obtain ⟨cq3, kq3, q3a, q3b, q3c⟩ := isOf hZ e2 (E_w_USER_MONTH.ext O0.2)
  obtain ⟨_, _, ⟨T3, L3, k3, n3⟩, -, X3, ⟨Lc3, hQ3, l3, y3, z3⟩, st3⟩ := X2.virtualBack hx (y := (⟨"com/example/metered_billing/meteredbilling/rating/PriceUnit", "userMonths", "()I"⟩ : MethodName)) (z := (⟨"com/example/metered_billing/meteredbilling/rating/PriceUnit", "userMonths", "()I"⟩ : MethodName)) hown (mvT hZ (hw _ (List.mem_of_getElem? (i := 33) rfl))) (mvT hZ (hw _ (List.mem_of_getElem? (i := 34) rfl))) (notFace_of_selects (args := #[]) (mvT hZ (hw _ (List.mem_of_getElem? (i := 36) rfl)))) (mvT hZ (hw _ (List.mem_of_getElem? (i := 36) rfl))) (mvT hZ (hw _ (List.mem_of_getElem? (i := 35) rfl))) (by decide) (backOf (W := 1) (rm5_2 l Z a0 hw [] w_YEAR w_USER_YEAR w_MONTH w_USER_MONTH h0 n0 (own_n0 O0) O0 HW) hZ (hw _ (List.mem_of_getElem? (i := 37) rfl)) (hw _ (List.mem_of_getElem? (i := 31) rfl)) (by decide) (by decide)) q3a q3c (g := (mkF m 11 #[.val (.ref ob0)] [(.ref w_USER_MONTH), (.int q0)])) rfl (by rw [hml]; rfl) (Steps.refl _) (argsL := []) (rest := [(.int q0)]) (lenOf pd39 rfl) rfl (by show 2 * 0 + _ ≤ _; exact Nat.le_of_eq rfl) (hb hby d4_11) (fun _ _ => ⟨rfl, e2, (by decide : 0 + 0 ≤ _), (by decide : 0 + 0 ≤ _)⟩)
  dsimp only [Pt.U, Pt.locs, Pt.cells, Pt.slots] at X3 l3 y3 z3 st3 hQ3
  subst l3 y3 z3
  obtain ⟨rfl, N3q, e3⟩ := hQ3
  have N3 := Fr.app N0 N3q
  obtain ⟨fs, hr, hrun, hended, hW, hsame⟩ := X3.leave (v := some (.int (q0 * (1 : Int32)))) (fun h => by rw [Bd.returns] at h; cases h)
  refine ⟨_, _, pre0 _ ?_, hrun, hended, _, _, rfl, ?_, ⟨_, rfl⟩, hW, hsame.mono (by decide) (by decide)⟩
  · show Steps p.tables e below (s₁.setTop (mkF m 0 #[.val (.ref ob0)] [])) _
    refine XS.aloadN X0.here hx rfl (hb hby d4_0) rfl rfl ?_
    show Steps p.tables e below (s₁.setTop (mkF m 1 #[.val (.ref ob0)] [(.ref ob0)])) _
    refine st1 _ ?_
    show Steps p.tables e below (T1.setTop (mkF m 4 #[.val (.ref ob0)] [(.int q0)])) _
    refine XS.aloadN X1.here hx rfl (hb hby d4_4) rfl rfl ?_
    show Steps p.tables e below (T1.setTop (mkF m 5 #[.val (.ref ob0)] [(.ref ob0), (.int q0)])) _
    refine st2 _ ?_
    show Steps p.tables e below (T2.setTop (mkF m 8 #[.val (.ref ob0)] [(.ref w_MONTH), (.int q0)])) _
    refine own_getFR X2 hx hZ hown (hw _ (List.mem_of_getElem? (i := 29) rfl)) e2 (F_priceUnit_w_MONTH.ext O0.2) (g := (mkF m 8 #[.val (.ref ob0)] [(.ref w_MONTH), (.int q0)])) rfl rfl (hb hby d4_8) _ ?_
    show Steps p.tables e below (T2.setTop (mkF m 11 #[.val (.ref ob0)] [(.ref w_USER_MONTH), (.int q0)])) _
    refine st3.trans ?_
    show Steps p.tables e below (T3.setTop (mkF m 14 #[.val (.ref ob0)] [(.int (1 : Int32)), (.int q0)])) _
    refine XS.imul X3.here hx rfl (hb hby d4_14) rfl ?_
    show Steps p.tables e below (T3.setTop (mkF m 15 #[.val (.ref ob0)] [(.int (q0 * (1 : Int32)))])) _
    exact Jvm.RoadKit.retI X3 hx Bd.returns (hb hby d4_15) hr
  · exact ⟨rfl, N3, e3⟩
def Q1_4 (Z : State) (w_YEAR : Addr) (w_USER_YEAR : Addr) (w_MONTH : Addr) (w_USER_MONTH : Addr) (ob0 : Addr) (q0 : Int32) (h0 : Heap) (n0 : Nat) (v : Option Value) (h : Heap) (L : List Loc) : Prop := v = none ∧ Fr n0 L ∧ Keep h0 h [ob0] ∧ Old Z n0 h ∧ Exa Z h ob0 "com/example/metered_billing/meteredbilling/plan/Term" ∧ Fld Z h ob0 "com/example/metered_billing/meteredbilling/plan/Term" "length" "I" (.int q0) ∧ Fld Z h ob0 "com/example/metered_billing/meteredbilling/plan/Term" "unit" "Lcom/example/metered_billing/meteredbilling/plan/Term$Unit;" (.ref w_YEAR) ∧ True
set_option maxRecDepth 65536 in
set_option maxHeartbeats 40000000 in
theorem rm1_4 (l : Launch) (Z : State) (a0 : Array Value) (hw : ∀ d ∈ tables_1, d.before a0 Z = true) (ws : List Jvm.Cond) (w_YEAR : Addr) (w_USER_YEAR : Addr) (w_MONTH : Addr) (w_USER_MONTH : Addr) (ob0 : Addr) (q0 : Int32) (h0 : Heap) (n0 : Nat) (Z0 : n0 ≤ h0.size) (O0 : Old Z n0 h0) (HW : World Z w_YEAR w_USER_YEAR w_MONTH w_USER_MONTH) (PE_ob0 : Exa Z h0 ob0 "com/example/metered_billing/meteredbilling/plan/Term") (PF_ob0_length : Fld Z h0 ob0 "com/example/metered_billing/meteredbilling/plan/Term" "length" "I" (.int (0 : Int32))) (PF_ob0_unit : Fld Z h0 ob0 "com/example/metered_billing/meteredbilling/plan/Term" "unit" "Lcom/example/metered_billing/meteredbilling/plan/Term$Unit;" .null) (g_ob0 : n0 ≤ ob0) (hd0 : ¬ (q0 < (1 : Int32))) (hd1 : ¬ ((5 : Int32) < q0)) :
    MetFree l (⟨"com/example/metered_billing/meteredbilling/plan/Term", "<init>", "(ILcom/example/metered_billing/meteredbilling/plan/Term$Unit;)V"⟩ : MethodName) (head1 (Jvm.Cond.code (⟨"com/example/metered_billing/meteredbilling/plan/Term", "<init>", "(ILcom/example/metered_billing/meteredbilling/plan/Term$Unit;)V"⟩ : MethodName) prog_43_method_1_code 3 none :: ws) ({ frames := 2, cells := 0, slots := 0, locals := 24 } : Room)) (fun a U => a = #[(.ref ob0), (.int q0), (.ref w_YEAR)] ∧ Z.Warmed39 U.vm ∧ U.heap = h0) (fun _ _ _ _ _ => True) (fun _ U o U' => ∃ v L, o = .returned v ∧ Q1_4 Z w_YEAR w_USER_YEAR w_MONTH w_USER_MONTH ob0 q0 h0 n0 v U'.heap L ∧ FrameEnd U o U' L ({ frames := 2, cells := 0, slots := 0, locals := 24 } : Room).cells ({ frames := 2, cells := 0, slots := 0, locals := 24 } : Room).slots) := by
  refine MetFree.of_bodySF (plainFor_of_name pn26) hisR ?_
  intro p e s m args below meth c s₁ Bd hml0 hP hK
  obtain ⟨rfl, hZ, hh⟩ := hP
  have hx := Bd.exec
  have hby := Bd.bytes
  have hml : c.maxLocals = 3 := hml0
  have hown : s.vm.findClass "com/example/metered_billing/meteredbilling/plan/Term" = some m.cls := findClass_of_methodNamed Bd.named
  have hnm := (name_of_methodNamed Bd.named Bd.method).1
  have X0 : Stand p l e ({ frames := 2, cells := 0, slots := 0, locals := 24 } : Room) s m #[(.ref ob0), (.int q0), (.ref w_YEAR)] below meth c s₁ [] 0 0 := Stand.of_body Bd
  have e0 : s₁.heap = h0 := by rw [← hh, Bd.state]; rfl
  have N0 := Fr.nil n0
  have pre0 : ∀ t, Steps p.tables e below (s₁.setTop (mkF m 0 #[.val (.ref ob0), .val (.int q0), .val (.ref w_YEAR)] [])) t → Steps p.tables e below (s₁.setTop (entryFrame m #[(.ref ob0), (.int q0), (.ref w_YEAR)] 3)) t := fun t k => castTop (ef25 m ob0 q0 w_YEAR) k
  obtain ⟨S_w_YEAR, E_w_YEAR, S_w_USER_YEAR, E_w_USER_YEAR, S_w_MONTH, E_w_MONTH, S_w_USER_MONTH, E_w_USER_MONTH, F_most_w_YEAR, F_priceUnit_w_YEAR, F_userMonths_w_USER_YEAR, F_most_w_MONTH, F_priceUnit_w_MONTH, F_userMonths_w_USER_MONTH, ne_w_YEAR_w_MONTH, ne_w_USER_YEAR_w_USER_MONTH, -⟩ := id HW
  obtain ⟨_, _, ⟨T1, L1, k1, n1⟩, -, X1, ⟨Lc1, hQ1, l1, y1, z1⟩, st1⟩ := X0.specialBack hx (y := (⟨"java/lang/Record", "<init>", "()V"⟩ : MethodName)) rfl hown (mvT hZ (hw _ (List.mem_of_getElem? (i := 10) rfl))) (mvT hZ (hw _ (List.mem_of_getElem? (i := 11) rfl))) (mvT hZ (hw _ (List.mem_of_getElem? (i := 14) rfl))) (by decide) (backOf (W := 0) (rm2_0 l Z a0 hw [] w_YEAR w_USER_YEAR w_MONTH w_USER_MONTH ob0 h0 n0 (own_n0 O0) O0 HW PE_ob0 PF_ob0_length PF_ob0_unit) hZ (hw _ (List.mem_of_getElem? (i := 14) rfl)) (hw _ (List.mem_of_getElem? (i := 13) rfl)) (by decide) (by decide)) (g := (mkF m 1 #[.val (.ref ob0), .val (.int q0), .val (.ref w_YEAR)] [(.ref ob0)])) rfl (by rw [hml]; rfl) (Steps.refl _) (a := ob0) (argsL := []) (rest := []) (lenOf pd7 rfl) rfl (by show 2 * 0 + _ ≤ _; exact Nat.le_of_eq rfl) (hb hby d1_1) (fun _ _ => ⟨rfl, e0, (by decide : 0 + 0 ≤ _), (by decide : 0 + 0 ≤ _)⟩)
  dsimp only [Pt.U, Pt.locs, Pt.cells, Pt.slots] at X1 l1 y1 z1 st1 hQ1
  subst l1 y1 z1
  obtain ⟨rfl, N1q, e1⟩ := hQ1
  have N1 := Fr.app N0 N1q
  obtain ⟨T2, h2, X2, e2, W2, st2⟩ := putF X1 hx hZ hown (host := "") (Or.inl (hw _ (List.mem_of_getElem? (i := 20) rfl))) Via.refl e1 PF_ob0_length PE_ob0 (Or.inr ⟨(hw _ (List.mem_of_getElem? (i := 21) rfl)), rfl, hnm⟩) (hw _ (List.mem_of_getElem? (i := 5) rfl)) (ty := .int) (by decide) rfl rfl (g := (mkF m 40 #[.val (.ref ob0), .val (.int q0), .val (.ref w_YEAR)] [(.int q0), (.ref ob0)])) rfl rfl (hb hby d1_40)
  have Fw2 := PF_ob0_length.same W2
  have N2 := Fr.snoc X2 N1 g_ob0
  have O2 := O0.wr W2 g_ob0
  have KK2 : Keep h0 h2 [ob0] := (Keep.refl h0 [ob0]).wr W2 (Or.inl (List.mem_of_getElem? (i := 0) rfl))
  obtain ⟨T3, h3, X3, e3, W3, st3⟩ := putF X2 hx hZ hown (host := "") (Or.inl (hw _ (List.mem_of_getElem? (i := 22) rfl))) Via.refl e2 (PF_ob0_unit.other W2 (Or.inr (slot_ne (Or.inr (hw _ (List.mem_of_getElem? (i := 23) rfl))) (Or.inr (hw _ (List.mem_of_getElem? (i := 21) rfl))) (by decide) (t := (.object "com/example/metered_billing/meteredbilling/plan/Term$Unit")) (t' := .int) (by decide) (by decide)))) (PE_ob0.wr W2) (Or.inr ⟨(hw _ (List.mem_of_getElem? (i := 23) rfl)), rfl, hnm⟩) (hw _ (List.mem_of_getElem? (i := 5) rfl)) (ty := (.object "com/example/metered_billing/meteredbilling/plan/Term$Unit")) (by decide) rfl rfl (g := (mkF m 45 #[.val (.ref ob0), .val (.int q0), .val (.ref w_YEAR)] [(.ref w_YEAR), (.ref ob0)])) rfl rfl (hb hby d1_45)
  have Fw3 := (PF_ob0_unit.other W2 (Or.inr (slot_ne (Or.inr (hw _ (List.mem_of_getElem? (i := 23) rfl))) (Or.inr (hw _ (List.mem_of_getElem? (i := 21) rfl))) (by decide) (t := (.object "com/example/metered_billing/meteredbilling/plan/Term$Unit")) (t' := .int) (by decide) (by decide)))).same W3
  have N3 := Fr.snoc X3 N2 g_ob0
  have O3 := O2.wr W3 g_ob0
  have KK3 : Keep h0 h3 [ob0] := KK2.wr W3 (Or.inl (List.mem_of_getElem? (i := 0) rfl))
  obtain ⟨fs, hr, hrun, hended, hW, hsame⟩ := X3.leave (v := none) (fun _ => rfl)
  refine ⟨_, _, pre0 _ ?_, hrun, hended, _, _, rfl, ?_, ⟨_, rfl⟩, hW, hsame.mono (by decide) (by decide)⟩
  · show Steps p.tables e below (s₁.setTop (mkF m 0 #[.val (.ref ob0), .val (.int q0), .val (.ref w_YEAR)] [])) _
    refine XS.aloadN X0.here hx rfl (hb hby d1_0) rfl rfl ?_
    show Steps p.tables e below (s₁.setTop (mkF m 1 #[.val (.ref ob0), .val (.int q0), .val (.ref w_YEAR)] [(.ref ob0)])) _
    refine st1.trans ?_
    show Steps p.tables e below (T1.setTop (mkF m 4 #[.val (.ref ob0), .val (.int q0), .val (.ref w_YEAR)] [])) _
    refine XS.iloadN X1.here hx rfl (hb hby d1_4) rfl ?_
    show Steps p.tables e below (T1.setTop (mkF m 5 #[.val (.ref ob0), .val (.int q0), .val (.ref w_YEAR)] [(.int q0)])) _
    refine XS.iconst X1.here hx rfl (hb hby d1_5) ?_
    show Steps p.tables e below (T1.setTop (mkF m 6 #[.val (.ref ob0), .val (.int q0), .val (.ref w_YEAR)] [(.int (1 : Int32)), (.int q0)])) _
    refine XS.icmpNo X1.here hx rfl (hb hby d1_6) rfl (flt hd0).1 ?_
    show Steps p.tables e below (T1.setTop (mkF m 9 #[.val (.ref ob0), .val (.int q0), .val (.ref w_YEAR)] [])) _
    refine XS.iloadN X1.here hx rfl (hb hby d1_9) rfl ?_
    show Steps p.tables e below (T1.setTop (mkF m 10 #[.val (.ref ob0), .val (.int q0), .val (.ref w_YEAR)] [(.int q0)])) _
    refine XS.aloadN X1.here hx rfl (hb hby d1_10) rfl rfl ?_
    show Steps p.tables e below (T1.setTop (mkF m 11 #[.val (.ref ob0), .val (.int q0), .val (.ref w_YEAR)] [(.ref w_YEAR), (.int q0)])) _
    refine own_getFR X1 hx hZ hown (hw _ (List.mem_of_getElem? (i := 18) rfl)) e1 (F_most_w_YEAR.ext O0.2) (g := (mkF m 11 #[.val (.ref ob0), .val (.int q0), .val (.ref w_YEAR)] [(.ref w_YEAR), (.int q0)])) rfl rfl (hb hby d1_11) _ ?_
    show Steps p.tables e below (T1.setTop (mkF m 14 #[.val (.ref ob0), .val (.int q0), .val (.ref w_YEAR)] [(.int (5 : Int32)), (.int q0)])) _
    refine XS.icmpYes X1.here hx rfl (pc0 := 14) (pc' := 38) rfl (hb hby d1_14) rfl (flt hd1).2.2.2 (by decide) (by decide) ?_
    show Steps p.tables e below (T1.setTop (mkF m 38 #[.val (.ref ob0), .val (.int q0), .val (.ref w_YEAR)] [])) _
    refine XS.aloadN X1.here hx rfl (hb hby d1_38) rfl rfl ?_
    show Steps p.tables e below (T1.setTop (mkF m 39 #[.val (.ref ob0), .val (.int q0), .val (.ref w_YEAR)] [(.ref ob0)])) _
    refine XS.iloadN X1.here hx rfl (hb hby d1_39) rfl ?_
    show Steps p.tables e below (T1.setTop (mkF m 40 #[.val (.ref ob0), .val (.int q0), .val (.ref w_YEAR)] [(.int q0), (.ref ob0)])) _
    refine st2 _ ?_
    show Steps p.tables e below (T2.setTop (mkF m 43 #[.val (.ref ob0), .val (.int q0), .val (.ref w_YEAR)] [])) _
    refine XS.aloadN X2.here hx rfl (hb hby d1_43) rfl rfl ?_
    show Steps p.tables e below (T2.setTop (mkF m 44 #[.val (.ref ob0), .val (.int q0), .val (.ref w_YEAR)] [(.ref ob0)])) _
    refine XS.aloadN X2.here hx rfl (hb hby d1_44) rfl rfl ?_
    show Steps p.tables e below (T2.setTop (mkF m 45 #[.val (.ref ob0), .val (.int q0), .val (.ref w_YEAR)] [(.ref w_YEAR), (.ref ob0)])) _
    refine st3 _ ?_
    show Steps p.tables e below (T3.setTop (mkF m 48 #[.val (.ref ob0), .val (.int q0), .val (.ref w_YEAR)] [])) _
    exact X3.returnOut hx Bd.returns (hb hby d1_48) hr
  · have eH : (T3.setFrames fs).heap = h3 := e3; rw [eH]; exact ⟨rfl, N3, KK3, O3, ((PE_ob0.wr W2).wr W3), (Fw2.other W3 (Or.inr (slot_ne (Or.inr (hw _ (List.mem_of_getElem? (i := 21) rfl))) (Or.inr (hw _ (List.mem_of_getElem? (i := 23) rfl))) (by decide) (t := .int) (t' := (.object "com/example/metered_billing/meteredbilling/plan/Term$Unit")) (by decide) (by decide)))), Fw3, trivial⟩
def Q5_5 (Z : State) (w_YEAR : Addr) (w_USER_YEAR : Addr) (w_MONTH : Addr) (w_USER_MONTH : Addr) (h0 : Heap) (n0 : Nat) (v : Option Value) (h : Heap) (L : List Loc) : Prop := v = some (.int (12 : Int32)) ∧ Fr n0 L ∧ h = h0
set_option maxRecDepth 65536 in
set_option maxHeartbeats 40000000 in
theorem rm5_5 (l : Launch) (Z : State) (a0 : Array Value) (hw : ∀ d ∈ tables_1, d.before a0 Z = true) (ws : List Jvm.Cond) (w_YEAR : Addr) (w_USER_YEAR : Addr) (w_MONTH : Addr) (w_USER_MONTH : Addr) (h0 : Heap) (n0 : Nat) (Z0 : n0 ≤ h0.size) (O0 : Old Z n0 h0) (HW : World Z w_YEAR w_USER_YEAR w_MONTH w_USER_MONTH) :
    MetFree l (⟨"com/example/metered_billing/meteredbilling/rating/PriceUnit", "userMonths", "()I"⟩ : MethodName) (head1 (Jvm.Cond.code (⟨"com/example/metered_billing/meteredbilling/rating/PriceUnit", "userMonths", "()I"⟩ : MethodName) prog_49_method_9_code 1 (some .int) :: ws) ({ frames := 0, cells := 0, slots := 0, locals := 0 } : Room)) (fun a U => a = #[(.ref w_USER_YEAR)] ∧ Z.Warmed39 U.vm ∧ U.heap = h0) (fun _ _ _ _ _ => True) (fun _ U o U' => ∃ v L, o = .returned v ∧ Q5_5 Z w_YEAR w_USER_YEAR w_MONTH w_USER_MONTH h0 n0 v U'.heap L ∧ FrameEnd U o U' L ({ frames := 0, cells := 0, slots := 0, locals := 0 } : Room).cells ({ frames := 0, cells := 0, slots := 0, locals := 0 } : Room).slots) := by
  refine MetFree.of_bodySF (plainFor_of_name pn38) hisR ?_
  intro p e s m args below meth c s₁ Bd hml0 hP hK
  obtain ⟨rfl, hZ, hh⟩ := hP
  have hx := Bd.exec
  have hby := Bd.bytes
  have hml : c.maxLocals = 1 := hml0
  have hown : s.vm.findClass "com/example/metered_billing/meteredbilling/rating/PriceUnit" = some m.cls := findClass_of_methodNamed Bd.named
  have hnm := (name_of_methodNamed Bd.named Bd.method).1
  have X0 : Stand p l e ({ frames := 0, cells := 0, slots := 0, locals := 0 } : Room) s m #[(.ref w_USER_YEAR)] below meth c s₁ [] 0 0 := Stand.of_body Bd
  have e0 : s₁.heap = h0 := by rw [← hh, Bd.state]; rfl
  have N0 := Fr.nil n0
  have pre0 : ∀ t, Steps p.tables e below (s₁.setTop (mkF m 0 #[.val (.ref w_USER_YEAR)] [])) t → Steps p.tables e below (s₁.setTop (entryFrame m #[(.ref w_USER_YEAR)] 1)) t := fun t k => castTop (ef37 m w_USER_YEAR) k
  obtain ⟨S_w_YEAR, E_w_YEAR, S_w_USER_YEAR, E_w_USER_YEAR, S_w_MONTH, E_w_MONTH, S_w_USER_MONTH, E_w_USER_MONTH, F_most_w_YEAR, F_priceUnit_w_YEAR, F_userMonths_w_USER_YEAR, F_most_w_MONTH, F_priceUnit_w_MONTH, F_userMonths_w_USER_MONTH, ne_w_YEAR_w_MONTH, ne_w_USER_YEAR_w_USER_MONTH, -⟩ := id HW
  obtain ⟨T1, X1, e1, st1⟩ := getF X0 hx hZ hown (host := "") (Or.inl (hw _ (List.mem_of_getElem? (i := 38) rfl))) Via.refl e0 (F_userMonths_w_USER_YEAR.ext O0.2) (g := (mkF m 1 #[.val (.ref w_USER_YEAR)] [(.ref w_USER_YEAR)])) rfl rfl (hb hby d5_1)
  obtain ⟨fs, hr, hrun, hended, hW, hsame⟩ := X1.leave (v := some (.int (12 : Int32))) (fun h => by rw [Bd.returns] at h; cases h)
  refine ⟨_, _, pre0 _ ?_, hrun, hended, _, _, rfl, ?_, ⟨_, rfl⟩, hW, hsame.mono (by decide) (by decide)⟩
  · show Steps p.tables e below (s₁.setTop (mkF m 0 #[.val (.ref w_USER_YEAR)] [])) _
    refine XS.aloadN X0.here hx rfl (hb hby d5_0) rfl rfl ?_
    show Steps p.tables e below (s₁.setTop (mkF m 1 #[.val (.ref w_USER_YEAR)] [(.ref w_USER_YEAR)])) _
    refine st1 _ ?_
    show Steps p.tables e below (T1.setTop (mkF m 4 #[.val (.ref w_USER_YEAR)] [(.int (12 : Int32))])) _
    exact Jvm.RoadKit.retI X1 hx Bd.returns (hb hby d5_4) hr
  · exact ⟨rfl, N0, e1⟩
def Q4_6 (Z : State) (w_YEAR : Addr) (w_USER_YEAR : Addr) (w_MONTH : Addr) (w_USER_MONTH : Addr) (ob0 : Addr) (q0 : Int32) (h0 : Heap) (n0 : Nat) (v : Option Value) (h : Heap) (L : List Loc) : Prop := v = some (.int (q0 * (12 : Int32))) ∧ Fr n0 L ∧ h = h0
set_option maxRecDepth 65536 in
set_option maxHeartbeats 40000000 in
theorem rm4_6 (l : Launch) (Z : State) (a0 : Array Value) (hw : ∀ d ∈ tables_1, d.before a0 Z = true) (ws : List Jvm.Cond) (w_YEAR : Addr) (w_USER_YEAR : Addr) (w_MONTH : Addr) (w_USER_MONTH : Addr) (ob0 : Addr) (q0 : Int32) (h0 : Heap) (n0 : Nat) (Z0 : n0 ≤ h0.size) (O0 : Old Z n0 h0) (HW : World Z w_YEAR w_USER_YEAR w_MONTH w_USER_MONTH) (PE_ob0 : Exa Z h0 ob0 "com/example/metered_billing/meteredbilling/plan/Term") (PF_ob0_length : Fld Z h0 ob0 "com/example/metered_billing/meteredbilling/plan/Term" "length" "I" (.int q0)) (PF_ob0_unit : Fld Z h0 ob0 "com/example/metered_billing/meteredbilling/plan/Term" "unit" "Lcom/example/metered_billing/meteredbilling/plan/Term$Unit;" (.ref w_YEAR)) :
    MetFree l (⟨"com/example/metered_billing/meteredbilling/plan/Term", "months", "()I"⟩ : MethodName) (head1 (Jvm.Cond.code (⟨"com/example/metered_billing/meteredbilling/plan/Term", "months", "()I"⟩ : MethodName) prog_43_method_5_code 1 (some .int) :: ws) ({ frames := 1, cells := 0, slots := 0, locals := 13 } : Room)) (fun a U => a = #[(.ref ob0)] ∧ Z.Warmed39 U.vm ∧ U.heap = h0) (fun _ _ _ _ _ => True) (fun _ U o U' => ∃ v L, o = .returned v ∧ Q4_6 Z w_YEAR w_USER_YEAR w_MONTH w_USER_MONTH ob0 q0 h0 n0 v U'.heap L ∧ FrameEnd U o U' L ({ frames := 1, cells := 0, slots := 0, locals := 13 } : Room).cells ({ frames := 1, cells := 0, slots := 0, locals := 13 } : Room).slots) := by
  refine MetFree.of_bodySF (plainFor_of_name pn26) hisR ?_
  intro p e s m args below meth c s₁ Bd hml0 hP hK
  obtain ⟨rfl, hZ, hh⟩ := hP
  have hx := Bd.exec
  have hby := Bd.bytes
  have hml : c.maxLocals = 1 := hml0
  have hown : s.vm.findClass "com/example/metered_billing/meteredbilling/plan/Term" = some m.cls := findClass_of_methodNamed Bd.named
  have hnm := (name_of_methodNamed Bd.named Bd.method).1
  have X0 : Stand p l e ({ frames := 1, cells := 0, slots := 0, locals := 13 } : Room) s m #[(.ref ob0)] below meth c s₁ [] 0 0 := Stand.of_body Bd
  have e0 : s₁.heap = h0 := by rw [← hh, Bd.state]; rfl
  have N0 := Fr.nil n0
  have pre0 : ∀ t, Steps p.tables e below (s₁.setTop (mkF m 0 #[.val (.ref ob0)] [])) t → Steps p.tables e below (s₁.setTop (entryFrame m #[(.ref ob0)] 1)) t := fun t k => castTop (ef44 m ob0) k
  obtain ⟨S_w_YEAR, E_w_YEAR, S_w_USER_YEAR, E_w_USER_YEAR, S_w_MONTH, E_w_MONTH, S_w_USER_MONTH, E_w_USER_MONTH, F_most_w_YEAR, F_priceUnit_w_YEAR, F_userMonths_w_USER_YEAR, F_most_w_MONTH, F_priceUnit_w_MONTH, F_userMonths_w_USER_MONTH, ne_w_YEAR_w_MONTH, ne_w_USER_YEAR_w_USER_MONTH, -⟩ := id HW
  obtain ⟨T1, X1, e1, st1⟩ := getF X0 hx hZ hown (host := "") (Or.inl (hw _ (List.mem_of_getElem? (i := 20) rfl))) Via.refl e0 PF_ob0_length (g := (mkF m 1 #[.val (.ref ob0)] [(.ref ob0)])) rfl rfl (hb hby d4_1)
  obtain ⟨T2, X2, e2, st2⟩ := getF X1 hx hZ hown (host := "") (Or.inl (hw _ (List.mem_of_getElem? (i := 22) rfl))) Via.refl e1 PF_ob0_unit (g := (mkF m 5 #[.val (.ref ob0)] [(.ref ob0), (.int q0)])) rfl rfl (hb hby d4_5)
  obtain ⟨cq3, kq3, q3a, q3b, q3c⟩ := isOf hZ e2 (E_w_USER_YEAR.ext O0.2)
  obtain ⟨_, _, ⟨T3, L3, k3, n3⟩, -, X3, ⟨Lc3, hQ3, l3, y3, z3⟩, st3⟩ := X2.virtualBack hx (y := (⟨"com/example/metered_billing/meteredbilling/rating/PriceUnit", "userMonths", "()I"⟩ : MethodName)) (z := (⟨"com/example/metered_billing/meteredbilling/rating/PriceUnit", "userMonths", "()I"⟩ : MethodName)) hown (mvT hZ (hw _ (List.mem_of_getElem? (i := 33) rfl))) (mvT hZ (hw _ (List.mem_of_getElem? (i := 34) rfl))) (notFace_of_selects (args := #[]) (mvT hZ (hw _ (List.mem_of_getElem? (i := 36) rfl)))) (mvT hZ (hw _ (List.mem_of_getElem? (i := 36) rfl))) (mvT hZ (hw _ (List.mem_of_getElem? (i := 35) rfl))) (by decide) (backOf (W := 1) (rm5_5 l Z a0 hw [] w_YEAR w_USER_YEAR w_MONTH w_USER_MONTH h0 n0 (own_n0 O0) O0 HW) hZ (hw _ (List.mem_of_getElem? (i := 37) rfl)) (hw _ (List.mem_of_getElem? (i := 31) rfl)) (by decide) (by decide)) q3a q3c (g := (mkF m 11 #[.val (.ref ob0)] [(.ref w_USER_YEAR), (.int q0)])) rfl (by rw [hml]; rfl) (Steps.refl _) (argsL := []) (rest := [(.int q0)]) (lenOf pd39 rfl) rfl (by show 2 * 0 + _ ≤ _; exact Nat.le_of_eq rfl) (hb hby d4_11) (fun _ _ => ⟨rfl, e2, (by decide : 0 + 0 ≤ _), (by decide : 0 + 0 ≤ _)⟩)
  dsimp only [Pt.U, Pt.locs, Pt.cells, Pt.slots] at X3 l3 y3 z3 st3 hQ3
  subst l3 y3 z3
  obtain ⟨rfl, N3q, e3⟩ := hQ3
  have N3 := Fr.app N0 N3q
  obtain ⟨fs, hr, hrun, hended, hW, hsame⟩ := X3.leave (v := some (.int (q0 * (12 : Int32)))) (fun h => by rw [Bd.returns] at h; cases h)
  refine ⟨_, _, pre0 _ ?_, hrun, hended, _, _, rfl, ?_, ⟨_, rfl⟩, hW, hsame.mono (by decide) (by decide)⟩
  · show Steps p.tables e below (s₁.setTop (mkF m 0 #[.val (.ref ob0)] [])) _
    refine XS.aloadN X0.here hx rfl (hb hby d4_0) rfl rfl ?_
    show Steps p.tables e below (s₁.setTop (mkF m 1 #[.val (.ref ob0)] [(.ref ob0)])) _
    refine st1 _ ?_
    show Steps p.tables e below (T1.setTop (mkF m 4 #[.val (.ref ob0)] [(.int q0)])) _
    refine XS.aloadN X1.here hx rfl (hb hby d4_4) rfl rfl ?_
    show Steps p.tables e below (T1.setTop (mkF m 5 #[.val (.ref ob0)] [(.ref ob0), (.int q0)])) _
    refine st2 _ ?_
    show Steps p.tables e below (T2.setTop (mkF m 8 #[.val (.ref ob0)] [(.ref w_YEAR), (.int q0)])) _
    refine own_getFR X2 hx hZ hown (hw _ (List.mem_of_getElem? (i := 29) rfl)) e2 (F_priceUnit_w_YEAR.ext O0.2) (g := (mkF m 8 #[.val (.ref ob0)] [(.ref w_YEAR), (.int q0)])) rfl rfl (hb hby d4_8) _ ?_
    show Steps p.tables e below (T2.setTop (mkF m 11 #[.val (.ref ob0)] [(.ref w_USER_YEAR), (.int q0)])) _
    refine st3.trans ?_
    show Steps p.tables e below (T3.setTop (mkF m 14 #[.val (.ref ob0)] [(.int (12 : Int32)), (.int q0)])) _
    refine XS.imul X3.here hx rfl (hb hby d4_14) rfl ?_
    show Steps p.tables e below (T3.setTop (mkF m 15 #[.val (.ref ob0)] [(.int (q0 * (12 : Int32)))])) _
    exact Jvm.RoadKit.retI X3 hx Bd.returns (hb hby d4_15) hr
  · exact ⟨rfl, N3, e3⟩
theorem ef49 (m : MethodId) (x0 : Int32) (x1 : Int32) : entryFrame m #[(.int x0), (.int x1)] maxLocals = mkF m 0 #[.val (.int x0), .val (.int x1), .unset, .unset, .unset, .unset, .unset, .unset, .unset] [] := by first | (simp [entryFrame, mkF, argsToLocals, Value.category, maxLocals]; done) | rfl
theorem pn50 : plainName "com/example/metered_billing/meteredbilling/plan/TermMonthsPinLaw" = true := by first | (simp [plainName, overriddenIn]; done) | decide +kernel
def Q0 (h0 : Heap) (n0 : Nat) (v : Option Value) (h : Heap) (L : List Loc) : Prop := v = some (.int (1 : Int32)) ∧ Fr n0 L
set_option maxRecDepth 65536 in
set_option maxHeartbeats 40000000 in
theorem rm0_a (l : Launch) (Z : State) (a0 : Array Value) (hw : ∀ d ∈ tables_1, d.before a0 Z = true) (ws : List Jvm.Cond) (w_YEAR : Addr) (w_USER_YEAR : Addr) (w_MONTH : Addr) (w_USER_MONTH : Addr) (p1 : Int32) (p2 : Int32) (h0 : Heap) (n0 : Nat) (Z0 : n0 ≤ h0.size) (O0 : Old Z n0 h0) (HW : World Z w_YEAR w_USER_YEAR w_MONTH w_USER_MONTH) :
    MetFree l x (head1 (Jvm.Cond.code x code maxLocals ret :: ws) room_1) (fun a U => a = #[(.int p1), (.int p2)] ∧ Z.Warmed39 U.vm ∧ U.heap = h0) (fun _ _ _ _ _ => True) (fun _ U o U' => ∃ v L, o = .returned v ∧ Q0 h0 n0 v U'.heap L ∧ FrameEnd U o U' L room_1.cells room_1.slots) := by
  refine MetFree.of_bodySF (plainFor_of_name pn50) hisR ?_
  intro p e s m args below meth c s₁ Bd hml0 hP hK
  obtain ⟨rfl, hZ, hh⟩ := hP
  have hx := Bd.exec
  have hby := Bd.bytes
  have hml : c.maxLocals = 9 := hml0
  have hown : s.vm.findClass "com/example/metered_billing/meteredbilling/plan/TermMonthsPinLaw" = some m.cls := findClass_of_methodNamed Bd.named
  have hnm := (name_of_methodNamed Bd.named Bd.method).1
  have X0 : Stand p l e room_1 s m #[(.int p1), (.int p2)] below meth c s₁ [] 0 0 := Stand.of_body Bd
  have e0 : s₁.heap = h0 := by rw [← hh, Bd.state]; rfl
  have N0 := Fr.nil n0
  have pre0 : ∀ t, Steps p.tables e below (s₁.setTop (mkF m 0 #[.val (.int p1), .val (.int p2), .unset, .unset, .unset, .unset, .unset, .unset, .unset] [])) t → Steps p.tables e below (s₁.setTop (entryFrame m #[(.int p1), (.int p2)] maxLocals)) t := fun t k => castTop (ef49 m p1 p2) k
  obtain ⟨S_w_YEAR, E_w_YEAR, S_w_USER_YEAR, E_w_USER_YEAR, S_w_MONTH, E_w_MONTH, S_w_USER_MONTH, E_w_USER_MONTH, F_most_w_YEAR, F_priceUnit_w_YEAR, F_userMonths_w_USER_YEAR, F_most_w_MONTH, F_priceUnit_w_MONTH, F_userMonths_w_USER_MONTH, ne_w_YEAR_w_MONTH, ne_w_USER_YEAR_w_USER_MONTH, -⟩ := id HW
  have c1 : ∀ t, Steps p.tables e below (s₁.setTop (mkF m 3 #[.val (.int p1), .val (.int p2), .unset, .unset, .unset, .unset, .unset, .unset, .unset] [(.int (p2 &&& (1 : Int32)))])) t → Steps p.tables e below (s₁.setTop (entryFrame m #[(.int p1), (.int p2)] maxLocals)) t := fun t kt => pre0 _ (by
    show Steps p.tables e below (s₁.setTop (mkF m 0 #[.val (.int p1), .val (.int p2), .unset, .unset, .unset, .unset, .unset, .unset, .unset] [])) _
    refine XS.iloadN X0.here hx rfl (hb hby at_0) rfl ?_
    show Steps p.tables e below (s₁.setTop (mkF m 1 #[.val (.int p1), .val (.int p2), .unset, .unset, .unset, .unset, .unset, .unset, .unset] [(.int p2)])) _
    refine XS.iconst X0.here hx rfl (hb hby at_1) ?_
    show Steps p.tables e below (s₁.setTop (mkF m 2 #[.val (.int p1), .val (.int p2), .unset, .unset, .unset, .unset, .unset, .unset, .unset] [(.int (1 : Int32)), (.int p2)])) _
    refine XS.iand X0.here hx rfl (hb hby at_2) rfl ?_
    show Steps p.tables e below (s₁.setTop (mkF m 3 #[.val (.int p1), .val (.int p2), .unset, .unset, .unset, .unset, .unset, .unset, .unset] [(.int (p2 &&& (1 : Int32)))])) _
    exact kt)
  by_cases hd0 : (p2 &&& (1 : Int32)) = (0 : Int32)
  · skip
    obtain ⟨T2, X2, e2, st2⟩ := getS2 X0 hx hZ hown (host := "") (Or.inl (hw _ (List.mem_of_getElem? (i := 40) rfl))) Via.refl e0 (S_w_MONTH.ext O0.2) (g := (mkF m 47 #[.val (.int p1), .val (.int p2), .val (.int (0 : Int32)), .val (.int (p1 &&& (2147483647 : Int32))), .val (.int ((1 : Int32) + ((p1 &&& (2147483647 : Int32)) % (11 : Int32)))), .unset, .unset, .unset, .unset] [])) rfl (hb hby at_47)
    obtain ⟨T3, h3, X3, e3, E3, A3, D3, -, st3⟩ := newO X2 hx hZ hown (hw _ (List.mem_of_getElem? (i := 4) rfl)) (hw _ (List.mem_of_getElem? (i := 5) rfl)) (hw _ (List.mem_of_getElem? (i := 6) rfl)) e2 (g := (mkF m 52 #[.val (.int p1), .val (.int p2), .val (.int (0 : Int32)), .val (.int (p1 &&& (2147483647 : Int32))), .val (.int ((1 : Int32) + ((p1 &&& (2147483647 : Int32)) % (11 : Int32)))), .val (.ref w_MONTH), .unset, .unset, .unset] [])) rfl (hb hby at_52) (by decide) (by decide)
    obtain ⟨b3, gg3⟩ : ∃ z, z = h0.size := ⟨_, rfl⟩
    rw [← gg3] at A3 D3 st3
    have bo_b3 : h0.size ≤ b3 := Nat.le_of_eq gg3.symm
    have g_b3 : n0 ≤ b3 := Nat.le_trans (own_n0 O0) bo_b3
    have O3 := O0.ext E3
    have F_length_b3 : Fld Z h3 b3 "com/example/metered_billing/meteredbilling/plan/Term" "length" "I" (.int (0 : Int32)) := D3 (Or.inr (hw _ (List.mem_of_getElem? (i := 21) rfl))) (ty := .int) (by decide)
    have F_unit_b3 : Fld Z h3 b3 "com/example/metered_billing/meteredbilling/plan/Term" "unit" "Lcom/example/metered_billing/meteredbilling/plan/Term$Unit;" .null := D3 (Or.inr (hw _ (List.mem_of_getElem? (i := 23) rfl))) (ty := (.object "com/example/metered_billing/meteredbilling/plan/Term$Unit")) (by decide)
    obtain ⟨_, _, ⟨T4, L4, k4, n4⟩, -, X4, ⟨Lc4, hQ4, l4, y4, z4⟩, st4⟩ := X3.specialBack hx (y := (⟨"com/example/metered_billing/meteredbilling/plan/Term", "<init>", "(ILcom/example/metered_billing/meteredbilling/plan/Term$Unit;)V"⟩ : MethodName)) rfl hown (mvT hZ (hw _ (List.mem_of_getElem? (i := 7) rfl))) (mvT hZ (hw _ (List.mem_of_getElem? (i := 8) rfl))) (mvT hZ (hw _ (List.mem_of_getElem? (i := 9) rfl))) (by decide) (backOf (W := 1) (rm1_1 l Z a0 hw [] w_YEAR w_USER_YEAR w_MONTH w_USER_MONTH b3 ((1 : Int32) + ((p1 &&& (2147483647 : Int32)) % (11 : Int32))) h3 n0 (own_n0 O3) O3 HW A3 F_length_b3 F_unit_b3 g_b3 (own_lo11 p1) (own_hi11 p1)) hZ (hw _ (List.mem_of_getElem? (i := 9) rfl)) (hw _ (List.mem_of_getElem? (i := 6) rfl)) (by decide) (by decide)) (g := (mkF m 60 #[.val (.int p1), .val (.int p2), .val (.int (0 : Int32)), .val (.int (p1 &&& (2147483647 : Int32))), .val (.int ((1 : Int32) + ((p1 &&& (2147483647 : Int32)) % (11 : Int32)))), .val (.ref w_MONTH), .unset, .unset, .unset] [(.ref w_MONTH), (.int ((1 : Int32) + ((p1 &&& (2147483647 : Int32)) % (11 : Int32)))), (.ref b3), (.ref b3)])) rfl (by rw [hml]; rfl) (Steps.refl _) (a := b3) (argsL := [(.int ((1 : Int32) + ((p1 &&& (2147483647 : Int32)) % (11 : Int32)))), (.ref w_MONTH)]) (rest := [(.ref b3)]) (lenOf pd27 rfl) rfl (by show 2 * 0 + _ ≤ _; exact Nat.le_of_eq rfl) (hb hby at_60) (fun _ _ => ⟨rfl, e3, (by decide : 1 + 0 ≤ _), (by decide : 2 + 0 ≤ _)⟩)
    dsimp only [Pt.U, Pt.locs, Pt.cells, Pt.slots] at X4 l4 y4 z4 st4 hQ4
    subst l4 y4 z4
    obtain ⟨rfl, N4q, K4, O4, pf4_0, pf4_1, pf4_2, -⟩ := hQ4
    have N4 := Fr.app N0 N4q
    obtain ⟨cq5, kq5, q5a, q5b, q5c⟩ := isOf hZ rfl pf4_0
    obtain ⟨_, _, ⟨T5, L5, k5, n5⟩, -, X5, ⟨Lc5, hQ5, l5, y5, z5⟩, st5⟩ := X4.virtualBack hx (y := (⟨"com/example/metered_billing/meteredbilling/plan/Term", "months", "()I"⟩ : MethodName)) (z := (⟨"com/example/metered_billing/meteredbilling/plan/Term", "months", "()I"⟩ : MethodName)) hown (mvT hZ (hw _ (List.mem_of_getElem? (i := 24) rfl))) (mvT hZ (hw _ (List.mem_of_getElem? (i := 25) rfl))) (notFace_of_selects (args := #[]) (mvT hZ (hw _ (List.mem_of_getElem? (i := 27) rfl)))) (mvT hZ (hw _ (List.mem_of_getElem? (i := 27) rfl))) (mvT hZ (hw _ (List.mem_of_getElem? (i := 26) rfl))) (by decide) (backOf (W := 0) (rm4_3 l Z a0 hw [] w_YEAR w_USER_YEAR w_MONTH w_USER_MONTH b3 ((1 : Int32) + ((p1 &&& (2147483647 : Int32)) % (11 : Int32))) T4.heap n0 (own_n0 O4) O4 HW pf4_0 pf4_1 pf4_2) hZ (hw _ (List.mem_of_getElem? (i := 28) rfl)) (hw _ (List.mem_of_getElem? (i := 6) rfl)) (by decide) (by decide)) q5a q5c (g := (mkF m 67 #[.val (.int p1), .val (.int p2), .val (.int (0 : Int32)), .val (.int (p1 &&& (2147483647 : Int32))), .val (.int ((1 : Int32) + ((p1 &&& (2147483647 : Int32)) % (11 : Int32)))), .val (.ref w_MONTH), .val (.ref b3), .unset, .unset] [(.ref b3)])) rfl (by rw [hml]; rfl) (Steps.refl _) (argsL := []) (rest := []) (lenOf pd39 rfl) rfl (by show 2 * 0 + _ ≤ _; exact Nat.le_of_eq rfl) (hb hby at_67) (fun _ _ => ⟨rfl, rfl, (by decide : 1 + 0 ≤ _), (by decide : 2 + 0 ≤ _)⟩)
    dsimp only [Pt.U, Pt.locs, Pt.cells, Pt.slots] at X5 l5 y5 z5 st5 hQ5
    subst l5 y5 z5
    obtain ⟨rfl, N5q, e5⟩ := hQ5
    have N5 := Fr.app N4 N5q
    obtain ⟨fs, hr, hrun, hended, hW, hsame⟩ := X5.leave (v := some (.int (1 : Int32))) (fun h => by rw [Bd.returns] at h; cases h)
    refine ⟨_, _, c1 _ ?_, hrun, hended, _, _, rfl, ?_, ⟨_, rfl⟩, hW, hsame.mono (by decide) (by decide)⟩
    · show Steps p.tables e below (s₁.setTop (mkF m 3 #[.val (.int p1), .val (.int p2), .unset, .unset, .unset, .unset, .unset, .unset, .unset] [(.int (p2 &&& (1 : Int32)))])) _
      refine XS.ifYes X0.here hx rfl (pc0 := 3) (pc' := 10) rfl (hb hby at_3) rfl ((if0 _ _).trans (teq hd0).1) (by decide) (by decide) ?_
      show Steps p.tables e below (s₁.setTop (mkF m 10 #[.val (.int p1), .val (.int p2), .unset, .unset, .unset, .unset, .unset, .unset, .unset] [])) _
      refine XS.iconst X0.here hx rfl (hb hby at_10) ?_
      show Steps p.tables e below (s₁.setTop (mkF m 11 #[.val (.int p1), .val (.int p2), .unset, .unset, .unset, .unset, .unset, .unset, .unset] [(.int (0 : Int32))])) _
      refine XS.istoreN X0.here hx rfl (hb hby at_11) rfl (l' := #[.val (.int p1), .val (.int p2), .val (.int (0 : Int32)), .unset, .unset, .unset, .unset, .unset, .unset]) rfl ?_
      show Steps p.tables e below (s₁.setTop (mkF m 12 #[.val (.int p1), .val (.int p2), .val (.int (0 : Int32)), .unset, .unset, .unset, .unset, .unset, .unset] [])) _
      refine XS.iloadN X0.here hx rfl (hb hby at_12) rfl ?_
      show Steps p.tables e below (s₁.setTop (mkF m 13 #[.val (.int p1), .val (.int p2), .val (.int (0 : Int32)), .unset, .unset, .unset, .unset, .unset, .unset] [(.int p1)])) _
      refine X0.ldcInt hx hown (mvT hZ (hw _ (List.mem_of_getElem? (i := 0) rfl))) (g := (mkF m 13 #[.val (.int p1), .val (.int p2), .val (.int (0 : Int32)), .unset, .unset, .unset, .unset, .unset, .unset] [(.int p1)])) rfl (hb hby at_13) _ ?_
      show Steps p.tables e below (s₁.setTop (mkF m 15 #[.val (.int p1), .val (.int p2), .val (.int (0 : Int32)), .unset, .unset, .unset, .unset, .unset, .unset] [(.int (2147483647 : Int32)), (.int p1)])) _
      refine XS.iand X0.here hx rfl (hb hby at_15) rfl ?_
      show Steps p.tables e below (s₁.setTop (mkF m 16 #[.val (.int p1), .val (.int p2), .val (.int (0 : Int32)), .unset, .unset, .unset, .unset, .unset, .unset] [(.int (p1 &&& (2147483647 : Int32)))])) _
      refine XS.istoreN X0.here hx rfl (hb hby at_16) rfl (l' := #[.val (.int p1), .val (.int p2), .val (.int (0 : Int32)), .val (.int (p1 &&& (2147483647 : Int32))), .unset, .unset, .unset, .unset, .unset]) rfl ?_
      show Steps p.tables e below (s₁.setTop (mkF m 17 #[.val (.int p1), .val (.int p2), .val (.int (0 : Int32)), .val (.int (p1 &&& (2147483647 : Int32))), .unset, .unset, .unset, .unset, .unset] [])) _
      refine XS.iloadN X0.here hx rfl (hb hby at_17) rfl ?_
      show Steps p.tables e below (s₁.setTop (mkF m 18 #[.val (.int p1), .val (.int p2), .val (.int (0 : Int32)), .val (.int (p1 &&& (2147483647 : Int32))), .unset, .unset, .unset, .unset, .unset] [(.int (0 : Int32))])) _
      refine XS.ifYes X0.here hx rfl (pc0 := 18) (pc' := 29) rfl (hb hby at_18) rfl ((if0 _ _).trans (teq (by decide : (0 : Int32) = (0 : Int32))).1) (by decide) (by decide) ?_
      show Steps p.tables e below (s₁.setTop (mkF m 29 #[.val (.int p1), .val (.int p2), .val (.int (0 : Int32)), .val (.int (p1 &&& (2147483647 : Int32))), .unset, .unset, .unset, .unset, .unset] [])) _
      refine XS.iconst X0.here hx rfl (hb hby at_29) ?_
      show Steps p.tables e below (s₁.setTop (mkF m 30 #[.val (.int p1), .val (.int p2), .val (.int (0 : Int32)), .val (.int (p1 &&& (2147483647 : Int32))), .unset, .unset, .unset, .unset, .unset] [(.int (1 : Int32))])) _
      refine XS.iloadN X0.here hx rfl (hb hby at_30) rfl ?_
      show Steps p.tables e below (s₁.setTop (mkF m 31 #[.val (.int p1), .val (.int p2), .val (.int (0 : Int32)), .val (.int (p1 &&& (2147483647 : Int32))), .unset, .unset, .unset, .unset, .unset] [(.int (p1 &&& (2147483647 : Int32))), (.int (1 : Int32))])) _
      refine XS.bipush X0.here hx rfl (hb hby at_31) ?_
      show Steps p.tables e below (s₁.setTop (mkF m 33 #[.val (.int p1), .val (.int p2), .val (.int (0 : Int32)), .val (.int (p1 &&& (2147483647 : Int32))), .unset, .unset, .unset, .unset, .unset] [(.int (11 : Int32)), (.int (p1 &&& (2147483647 : Int32))), (.int (1 : Int32))])) _
      refine iremM X0 hx rfl (hb hby at_33) rfl (by decide) ?_
      show Steps p.tables e below (s₁.setTop (mkF m 34 #[.val (.int p1), .val (.int p2), .val (.int (0 : Int32)), .val (.int (p1 &&& (2147483647 : Int32))), .unset, .unset, .unset, .unset, .unset] [(.int ((p1 &&& (2147483647 : Int32)) % (11 : Int32))), (.int (1 : Int32))])) _
      refine XS.iadd X0.here hx rfl (hb hby at_34) rfl ?_
      show Steps p.tables e below (s₁.setTop (mkF m 35 #[.val (.int p1), .val (.int p2), .val (.int (0 : Int32)), .val (.int (p1 &&& (2147483647 : Int32))), .unset, .unset, .unset, .unset, .unset] [(.int ((1 : Int32) + ((p1 &&& (2147483647 : Int32)) % (11 : Int32))))])) _
      refine XS.istore X0.here hx rfl (hb hby at_35) rfl (l' := #[.val (.int p1), .val (.int p2), .val (.int (0 : Int32)), .val (.int (p1 &&& (2147483647 : Int32))), .val (.int ((1 : Int32) + ((p1 &&& (2147483647 : Int32)) % (11 : Int32)))), .unset, .unset, .unset, .unset]) rfl ?_
      show Steps p.tables e below (s₁.setTop (mkF m 37 #[.val (.int p1), .val (.int p2), .val (.int (0 : Int32)), .val (.int (p1 &&& (2147483647 : Int32))), .val (.int ((1 : Int32) + ((p1 &&& (2147483647 : Int32)) % (11 : Int32)))), .unset, .unset, .unset, .unset] [])) _
      refine XS.iloadN X0.here hx rfl (hb hby at_37) rfl ?_
      show Steps p.tables e below (s₁.setTop (mkF m 38 #[.val (.int p1), .val (.int p2), .val (.int (0 : Int32)), .val (.int (p1 &&& (2147483647 : Int32))), .val (.int ((1 : Int32) + ((p1 &&& (2147483647 : Int32)) % (11 : Int32)))), .unset, .unset, .unset, .unset] [(.int (0 : Int32))])) _
      refine XS.ifYes X0.here hx rfl (pc0 := 38) (pc' := 47) rfl (hb hby at_38) rfl ((if0 _ _).trans (teq (by decide : (0 : Int32) = (0 : Int32))).1) (by decide) (by decide) ?_
      show Steps p.tables e below (s₁.setTop (mkF m 47 #[.val (.int p1), .val (.int p2), .val (.int (0 : Int32)), .val (.int (p1 &&& (2147483647 : Int32))), .val (.int ((1 : Int32) + ((p1 &&& (2147483647 : Int32)) % (11 : Int32)))), .unset, .unset, .unset, .unset] [])) _
      refine st2 _ ?_
      show Steps p.tables e below (T2.setTop (mkF m 50 #[.val (.int p1), .val (.int p2), .val (.int (0 : Int32)), .val (.int (p1 &&& (2147483647 : Int32))), .val (.int ((1 : Int32) + ((p1 &&& (2147483647 : Int32)) % (11 : Int32)))), .unset, .unset, .unset, .unset] [(.ref w_MONTH)])) _
      refine XS.astore X2.here hx rfl (hb hby at_50) rfl rfl (l' := #[.val (.int p1), .val (.int p2), .val (.int (0 : Int32)), .val (.int (p1 &&& (2147483647 : Int32))), .val (.int ((1 : Int32) + ((p1 &&& (2147483647 : Int32)) % (11 : Int32)))), .val (.ref w_MONTH), .unset, .unset, .unset]) rfl ?_
      show Steps p.tables e below (T2.setTop (mkF m 52 #[.val (.int p1), .val (.int p2), .val (.int (0 : Int32)), .val (.int (p1 &&& (2147483647 : Int32))), .val (.int ((1 : Int32) + ((p1 &&& (2147483647 : Int32)) % (11 : Int32)))), .val (.ref w_MONTH), .unset, .unset, .unset] [])) _
      refine st3 _ ?_
      show Steps p.tables e below (T3.setTop (mkF m 55 #[.val (.int p1), .val (.int p2), .val (.int (0 : Int32)), .val (.int (p1 &&& (2147483647 : Int32))), .val (.int ((1 : Int32) + ((p1 &&& (2147483647 : Int32)) % (11 : Int32)))), .val (.ref w_MONTH), .unset, .unset, .unset] [(.ref b3)])) _
      refine XS.dup X3.here hx rfl (hb hby at_55) rfl rfl ?_
      show Steps p.tables e below (T3.setTop (mkF m 56 #[.val (.int p1), .val (.int p2), .val (.int (0 : Int32)), .val (.int (p1 &&& (2147483647 : Int32))), .val (.int ((1 : Int32) + ((p1 &&& (2147483647 : Int32)) % (11 : Int32)))), .val (.ref w_MONTH), .unset, .unset, .unset] [(.ref b3), (.ref b3)])) _
      refine XS.iload X3.here hx rfl (hb hby at_56) rfl ?_
      show Steps p.tables e below (T3.setTop (mkF m 58 #[.val (.int p1), .val (.int p2), .val (.int (0 : Int32)), .val (.int (p1 &&& (2147483647 : Int32))), .val (.int ((1 : Int32) + ((p1 &&& (2147483647 : Int32)) % (11 : Int32)))), .val (.ref w_MONTH), .unset, .unset, .unset] [(.int ((1 : Int32) + ((p1 &&& (2147483647 : Int32)) % (11 : Int32)))), (.ref b3), (.ref b3)])) _
      refine XS.aload X3.here hx rfl (hb hby at_58) rfl rfl ?_
      show Steps p.tables e below (T3.setTop (mkF m 60 #[.val (.int p1), .val (.int p2), .val (.int (0 : Int32)), .val (.int (p1 &&& (2147483647 : Int32))), .val (.int ((1 : Int32) + ((p1 &&& (2147483647 : Int32)) % (11 : Int32)))), .val (.ref w_MONTH), .unset, .unset, .unset] [(.ref w_MONTH), (.int ((1 : Int32) + ((p1 &&& (2147483647 : Int32)) % (11 : Int32)))), (.ref b3), (.ref b3)])) _
      refine st4.trans ?_
      show Steps p.tables e below (T4.setTop (mkF m 63 #[.val (.int p1), .val (.int p2), .val (.int (0 : Int32)), .val (.int (p1 &&& (2147483647 : Int32))), .val (.int ((1 : Int32) + ((p1 &&& (2147483647 : Int32)) % (11 : Int32)))), .val (.ref w_MONTH), .unset, .unset, .unset] [(.ref b3)])) _
      refine XS.astore X4.here hx rfl (hb hby at_63) rfl rfl (l' := #[.val (.int p1), .val (.int p2), .val (.int (0 : Int32)), .val (.int (p1 &&& (2147483647 : Int32))), .val (.int ((1 : Int32) + ((p1 &&& (2147483647 : Int32)) % (11 : Int32)))), .val (.ref w_MONTH), .val (.ref b3), .unset, .unset]) rfl ?_
      show Steps p.tables e below (T4.setTop (mkF m 65 #[.val (.int p1), .val (.int p2), .val (.int (0 : Int32)), .val (.int (p1 &&& (2147483647 : Int32))), .val (.int ((1 : Int32) + ((p1 &&& (2147483647 : Int32)) % (11 : Int32)))), .val (.ref w_MONTH), .val (.ref b3), .unset, .unset] [])) _
      refine XS.aload X4.here hx rfl (hb hby at_65) rfl rfl ?_
      show Steps p.tables e below (T4.setTop (mkF m 67 #[.val (.int p1), .val (.int p2), .val (.int (0 : Int32)), .val (.int (p1 &&& (2147483647 : Int32))), .val (.int ((1 : Int32) + ((p1 &&& (2147483647 : Int32)) % (11 : Int32)))), .val (.ref w_MONTH), .val (.ref b3), .unset, .unset] [(.ref b3)])) _
      refine st5.trans ?_
      show Steps p.tables e below (T5.setTop (mkF m 70 #[.val (.int p1), .val (.int p2), .val (.int (0 : Int32)), .val (.int (p1 &&& (2147483647 : Int32))), .val (.int ((1 : Int32) + ((p1 &&& (2147483647 : Int32)) % (11 : Int32)))), .val (.ref w_MONTH), .val (.ref b3), .unset, .unset] [(.int (((1 : Int32) + ((p1 &&& (2147483647 : Int32)) % (11 : Int32))) * (1 : Int32)))])) _
      refine XS.istore X5.here hx rfl (hb hby at_70) rfl (l' := #[.val (.int p1), .val (.int p2), .val (.int (0 : Int32)), .val (.int (p1 &&& (2147483647 : Int32))), .val (.int ((1 : Int32) + ((p1 &&& (2147483647 : Int32)) % (11 : Int32)))), .val (.ref w_MONTH), .val (.ref b3), .val (.int (((1 : Int32) + ((p1 &&& (2147483647 : Int32)) % (11 : Int32))) * (1 : Int32))), .unset]) rfl ?_
      show Steps p.tables e below (T5.setTop (mkF m 72 #[.val (.int p1), .val (.int p2), .val (.int (0 : Int32)), .val (.int (p1 &&& (2147483647 : Int32))), .val (.int ((1 : Int32) + ((p1 &&& (2147483647 : Int32)) % (11 : Int32)))), .val (.ref w_MONTH), .val (.ref b3), .val (.int (((1 : Int32) + ((p1 &&& (2147483647 : Int32)) % (11 : Int32))) * (1 : Int32))), .unset] [])) _
      refine XS.iloadN X5.here hx rfl (hb hby at_72) rfl ?_
      show Steps p.tables e below (T5.setTop (mkF m 73 #[.val (.int p1), .val (.int p2), .val (.int (0 : Int32)), .val (.int (p1 &&& (2147483647 : Int32))), .val (.int ((1 : Int32) + ((p1 &&& (2147483647 : Int32)) % (11 : Int32)))), .val (.ref w_MONTH), .val (.ref b3), .val (.int (((1 : Int32) + ((p1 &&& (2147483647 : Int32)) % (11 : Int32))) * (1 : Int32))), .unset] [(.int (0 : Int32))])) _
      refine XS.ifYes X5.here hx rfl (pc0 := 73) (pc' := 86) rfl (hb hby at_73) rfl ((if0 _ _).trans (teq (by decide : (0 : Int32) = (0 : Int32))).1) (by decide) (by decide) ?_
      show Steps p.tables e below (T5.setTop (mkF m 86 #[.val (.int p1), .val (.int p2), .val (.int (0 : Int32)), .val (.int (p1 &&& (2147483647 : Int32))), .val (.int ((1 : Int32) + ((p1 &&& (2147483647 : Int32)) % (11 : Int32)))), .val (.ref w_MONTH), .val (.ref b3), .val (.int (((1 : Int32) + ((p1 &&& (2147483647 : Int32)) % (11 : Int32))) * (1 : Int32))), .unset] [])) _
      refine XS.iload X5.here hx rfl (hb hby at_86) rfl ?_
      show Steps p.tables e below (T5.setTop (mkF m 88 #[.val (.int p1), .val (.int p2), .val (.int (0 : Int32)), .val (.int (p1 &&& (2147483647 : Int32))), .val (.int ((1 : Int32) + ((p1 &&& (2147483647 : Int32)) % (11 : Int32)))), .val (.ref w_MONTH), .val (.ref b3), .val (.int (((1 : Int32) + ((p1 &&& (2147483647 : Int32)) % (11 : Int32))) * (1 : Int32))), .unset] [(.int ((1 : Int32) + ((p1 &&& (2147483647 : Int32)) % (11 : Int32))))])) _
      refine XS.istore X5.here hx rfl (hb hby at_88) rfl (l' := #[.val (.int p1), .val (.int p2), .val (.int (0 : Int32)), .val (.int (p1 &&& (2147483647 : Int32))), .val (.int ((1 : Int32) + ((p1 &&& (2147483647 : Int32)) % (11 : Int32)))), .val (.ref w_MONTH), .val (.ref b3), .val (.int (((1 : Int32) + ((p1 &&& (2147483647 : Int32)) % (11 : Int32))) * (1 : Int32))), .val (.int ((1 : Int32) + ((p1 &&& (2147483647 : Int32)) % (11 : Int32))))]) rfl ?_
      show Steps p.tables e below (T5.setTop (mkF m 90 #[.val (.int p1), .val (.int p2), .val (.int (0 : Int32)), .val (.int (p1 &&& (2147483647 : Int32))), .val (.int ((1 : Int32) + ((p1 &&& (2147483647 : Int32)) % (11 : Int32)))), .val (.ref w_MONTH), .val (.ref b3), .val (.int (((1 : Int32) + ((p1 &&& (2147483647 : Int32)) % (11 : Int32))) * (1 : Int32))), .val (.int ((1 : Int32) + ((p1 &&& (2147483647 : Int32)) % (11 : Int32))))] [])) _
      refine XS.iload X5.here hx rfl (hb hby at_90) rfl ?_
      show Steps p.tables e below (T5.setTop (mkF m 92 #[.val (.int p1), .val (.int p2), .val (.int (0 : Int32)), .val (.int (p1 &&& (2147483647 : Int32))), .val (.int ((1 : Int32) + ((p1 &&& (2147483647 : Int32)) % (11 : Int32)))), .val (.ref w_MONTH), .val (.ref b3), .val (.int (((1 : Int32) + ((p1 &&& (2147483647 : Int32)) % (11 : Int32))) * (1 : Int32))), .val (.int ((1 : Int32) + ((p1 &&& (2147483647 : Int32)) % (11 : Int32))))] [(.int (((1 : Int32) + ((p1 &&& (2147483647 : Int32)) % (11 : Int32))) * (1 : Int32)))])) _
      refine XS.iload X5.here hx rfl (hb hby at_92) rfl ?_
      show Steps p.tables e below (T5.setTop (mkF m 94 #[.val (.int p1), .val (.int p2), .val (.int (0 : Int32)), .val (.int (p1 &&& (2147483647 : Int32))), .val (.int ((1 : Int32) + ((p1 &&& (2147483647 : Int32)) % (11 : Int32)))), .val (.ref w_MONTH), .val (.ref b3), .val (.int (((1 : Int32) + ((p1 &&& (2147483647 : Int32)) % (11 : Int32))) * (1 : Int32))), .val (.int ((1 : Int32) + ((p1 &&& (2147483647 : Int32)) % (11 : Int32))))] [(.int ((1 : Int32) + ((p1 &&& (2147483647 : Int32)) % (11 : Int32)))), (.int (((1 : Int32) + ((p1 &&& (2147483647 : Int32)) % (11 : Int32))) * (1 : Int32)))])) _
      refine XS.icmpNo X5.here hx rfl (hb hby at_94) rfl (teq (Int32.mul_one _)).2 ?_
      show Steps p.tables e below (T5.setTop (mkF m 97 #[.val (.int p1), .val (.int p2), .val (.int (0 : Int32)), .val (.int (p1 &&& (2147483647 : Int32))), .val (.int ((1 : Int32) + ((p1 &&& (2147483647 : Int32)) % (11 : Int32)))), .val (.ref w_MONTH), .val (.ref b3), .val (.int (((1 : Int32) + ((p1 &&& (2147483647 : Int32)) % (11 : Int32))) * (1 : Int32))), .val (.int ((1 : Int32) + ((p1 &&& (2147483647 : Int32)) % (11 : Int32))))] [])) _
      refine XS.iconst X5.here hx rfl (hb hby at_97) ?_
      show Steps p.tables e below (T5.setTop (mkF m 98 #[.val (.int p1), .val (.int p2), .val (.int (0 : Int32)), .val (.int (p1 &&& (2147483647 : Int32))), .val (.int ((1 : Int32) + ((p1 &&& (2147483647 : Int32)) % (11 : Int32)))), .val (.ref w_MONTH), .val (.ref b3), .val (.int (((1 : Int32) + ((p1 &&& (2147483647 : Int32)) % (11 : Int32))) * (1 : Int32))), .val (.int ((1 : Int32) + ((p1 &&& (2147483647 : Int32)) % (11 : Int32))))] [(.int (1 : Int32))])) _
      refine XS.goto X5.here hx rfl (pc0 := 98) (pc' := 102) rfl (hb hby at_98) (by decide) (by decide) ?_
      show Steps p.tables e below (T5.setTop (mkF m 102 #[.val (.int p1), .val (.int p2), .val (.int (0 : Int32)), .val (.int (p1 &&& (2147483647 : Int32))), .val (.int ((1 : Int32) + ((p1 &&& (2147483647 : Int32)) % (11 : Int32)))), .val (.ref w_MONTH), .val (.ref b3), .val (.int (((1 : Int32) + ((p1 &&& (2147483647 : Int32)) % (11 : Int32))) * (1 : Int32))), .val (.int ((1 : Int32) + ((p1 &&& (2147483647 : Int32)) % (11 : Int32))))] [(.int (1 : Int32))])) _
      exact retN X5 hx (t := .boolean) Bd.returns (by simp) (hb hby at_102) hr
    · exact ⟨rfl, N5⟩
  · skip
    obtain ⟨T2, X2, e2, st2⟩ := getS2 X0 hx hZ hown (host := "") (Or.inl (hw _ (List.mem_of_getElem? (i := 1) rfl))) Via.refl e0 (S_w_YEAR.ext O0.2) (g := (mkF m 41 #[.val (.int p1), .val (.int p2), .val (.int (1 : Int32)), .val (.int (p1 &&& (2147483647 : Int32))), .val (.int ((1 : Int32) + ((p1 &&& (2147483647 : Int32)) % (5 : Int32)))), .unset, .unset, .unset, .unset] [])) rfl (hb hby at_41)
    obtain ⟨T3, h3, X3, e3, E3, A3, D3, -, st3⟩ := newO X2 hx hZ hown (hw _ (List.mem_of_getElem? (i := 4) rfl)) (hw _ (List.mem_of_getElem? (i := 5) rfl)) (hw _ (List.mem_of_getElem? (i := 6) rfl)) e2 (g := (mkF m 52 #[.val (.int p1), .val (.int p2), .val (.int (1 : Int32)), .val (.int (p1 &&& (2147483647 : Int32))), .val (.int ((1 : Int32) + ((p1 &&& (2147483647 : Int32)) % (5 : Int32)))), .val (.ref w_YEAR), .unset, .unset, .unset] [])) rfl (hb hby at_52) (by decide) (by decide)
    obtain ⟨b3, gg3⟩ : ∃ z, z = h0.size := ⟨_, rfl⟩
    rw [← gg3] at A3 D3 st3
    have bo_b3 : h0.size ≤ b3 := Nat.le_of_eq gg3.symm
    have g_b3 : n0 ≤ b3 := Nat.le_trans (own_n0 O0) bo_b3
    have O3 := O0.ext E3
    have F_length_b3 : Fld Z h3 b3 "com/example/metered_billing/meteredbilling/plan/Term" "length" "I" (.int (0 : Int32)) := D3 (Or.inr (hw _ (List.mem_of_getElem? (i := 21) rfl))) (ty := .int) (by decide)
    have F_unit_b3 : Fld Z h3 b3 "com/example/metered_billing/meteredbilling/plan/Term" "unit" "Lcom/example/metered_billing/meteredbilling/plan/Term$Unit;" .null := D3 (Or.inr (hw _ (List.mem_of_getElem? (i := 23) rfl))) (ty := (.object "com/example/metered_billing/meteredbilling/plan/Term$Unit")) (by decide)
    obtain ⟨_, _, ⟨T4, L4, k4, n4⟩, -, X4, ⟨Lc4, hQ4, l4, y4, z4⟩, st4⟩ := X3.specialBack hx (y := (⟨"com/example/metered_billing/meteredbilling/plan/Term", "<init>", "(ILcom/example/metered_billing/meteredbilling/plan/Term$Unit;)V"⟩ : MethodName)) rfl hown (mvT hZ (hw _ (List.mem_of_getElem? (i := 7) rfl))) (mvT hZ (hw _ (List.mem_of_getElem? (i := 8) rfl))) (mvT hZ (hw _ (List.mem_of_getElem? (i := 9) rfl))) (by decide) (backOf (W := 1) (rm1_4 l Z a0 hw [] w_YEAR w_USER_YEAR w_MONTH w_USER_MONTH b3 ((1 : Int32) + ((p1 &&& (2147483647 : Int32)) % (5 : Int32))) h3 n0 (own_n0 O3) O3 HW A3 F_length_b3 F_unit_b3 g_b3 (own_lo5 p1) (own_hi5 p1)) hZ (hw _ (List.mem_of_getElem? (i := 9) rfl)) (hw _ (List.mem_of_getElem? (i := 6) rfl)) (by decide) (by decide)) (g := (mkF m 60 #[.val (.int p1), .val (.int p2), .val (.int (1 : Int32)), .val (.int (p1 &&& (2147483647 : Int32))), .val (.int ((1 : Int32) + ((p1 &&& (2147483647 : Int32)) % (5 : Int32)))), .val (.ref w_YEAR), .unset, .unset, .unset] [(.ref w_YEAR), (.int ((1 : Int32) + ((p1 &&& (2147483647 : Int32)) % (5 : Int32)))), (.ref b3), (.ref b3)])) rfl (by rw [hml]; rfl) (Steps.refl _) (a := b3) (argsL := [(.int ((1 : Int32) + ((p1 &&& (2147483647 : Int32)) % (5 : Int32)))), (.ref w_YEAR)]) (rest := [(.ref b3)]) (lenOf pd27 rfl) rfl (by show 2 * 0 + _ ≤ _; exact Nat.le_of_eq rfl) (hb hby at_60) (fun _ _ => ⟨rfl, e3, (by decide : 1 + 0 ≤ _), (by decide : 2 + 0 ≤ _)⟩)
    dsimp only [Pt.U, Pt.locs, Pt.cells, Pt.slots] at X4 l4 y4 z4 st4 hQ4
    subst l4 y4 z4
    obtain ⟨rfl, N4q, K4, O4, pf4_0, pf4_1, pf4_2, -⟩ := hQ4
    have N4 := Fr.app N0 N4q
    obtain ⟨cq5, kq5, q5a, q5b, q5c⟩ := isOf hZ rfl pf4_0
    obtain ⟨_, _, ⟨T5, L5, k5, n5⟩, -, X5, ⟨Lc5, hQ5, l5, y5, z5⟩, st5⟩ := X4.virtualBack hx (y := (⟨"com/example/metered_billing/meteredbilling/plan/Term", "months", "()I"⟩ : MethodName)) (z := (⟨"com/example/metered_billing/meteredbilling/plan/Term", "months", "()I"⟩ : MethodName)) hown (mvT hZ (hw _ (List.mem_of_getElem? (i := 24) rfl))) (mvT hZ (hw _ (List.mem_of_getElem? (i := 25) rfl))) (notFace_of_selects (args := #[]) (mvT hZ (hw _ (List.mem_of_getElem? (i := 27) rfl)))) (mvT hZ (hw _ (List.mem_of_getElem? (i := 27) rfl))) (mvT hZ (hw _ (List.mem_of_getElem? (i := 26) rfl))) (by decide) (backOf (W := 0) (rm4_6 l Z a0 hw [] w_YEAR w_USER_YEAR w_MONTH w_USER_MONTH b3 ((1 : Int32) + ((p1 &&& (2147483647 : Int32)) % (5 : Int32))) T4.heap n0 (own_n0 O4) O4 HW pf4_0 pf4_1 pf4_2) hZ (hw _ (List.mem_of_getElem? (i := 28) rfl)) (hw _ (List.mem_of_getElem? (i := 6) rfl)) (by decide) (by decide)) q5a q5c (g := (mkF m 67 #[.val (.int p1), .val (.int p2), .val (.int (1 : Int32)), .val (.int (p1 &&& (2147483647 : Int32))), .val (.int ((1 : Int32) + ((p1 &&& (2147483647 : Int32)) % (5 : Int32)))), .val (.ref w_YEAR), .val (.ref b3), .unset, .unset] [(.ref b3)])) rfl (by rw [hml]; rfl) (Steps.refl _) (argsL := []) (rest := []) (lenOf pd39 rfl) rfl (by show 2 * 0 + _ ≤ _; exact Nat.le_of_eq rfl) (hb hby at_67) (fun _ _ => ⟨rfl, rfl, (by decide : 1 + 0 ≤ _), (by decide : 2 + 0 ≤ _)⟩)
    dsimp only [Pt.U, Pt.locs, Pt.cells, Pt.slots] at X5 l5 y5 z5 st5 hQ5
    subst l5 y5 z5
    obtain ⟨rfl, N5q, e5⟩ := hQ5
    have N5 := Fr.app N4 N5q
    obtain ⟨fs, hr, hrun, hended, hW, hsame⟩ := X5.leave (v := some (.int (1 : Int32))) (fun h => by rw [Bd.returns] at h; cases h)
    refine ⟨_, _, c1 _ ?_, hrun, hended, _, _, rfl, ?_, ⟨_, rfl⟩, hW, hsame.mono (by decide) (by decide)⟩
    · show Steps p.tables e below (s₁.setTop (mkF m 3 #[.val (.int p1), .val (.int p2), .unset, .unset, .unset, .unset, .unset, .unset, .unset] [(.int (p2 &&& (1 : Int32)))])) _
      refine XS.ifNo X0.here hx rfl (hb hby at_3) rfl ((if0 _ _).trans (feq hd0).1) ?_
      show Steps p.tables e below (s₁.setTop (mkF m 6 #[.val (.int p1), .val (.int p2), .unset, .unset, .unset, .unset, .unset, .unset, .unset] [])) _
      refine XS.iconst X0.here hx rfl (hb hby at_6) ?_
      show Steps p.tables e below (s₁.setTop (mkF m 7 #[.val (.int p1), .val (.int p2), .unset, .unset, .unset, .unset, .unset, .unset, .unset] [(.int (1 : Int32))])) _
      refine XS.goto X0.here hx rfl (pc0 := 7) (pc' := 11) rfl (hb hby at_7) (by decide) (by decide) ?_
      show Steps p.tables e below (s₁.setTop (mkF m 11 #[.val (.int p1), .val (.int p2), .unset, .unset, .unset, .unset, .unset, .unset, .unset] [(.int (1 : Int32))])) _
      refine XS.istoreN X0.here hx rfl (hb hby at_11) rfl (l' := #[.val (.int p1), .val (.int p2), .val (.int (1 : Int32)), .unset, .unset, .unset, .unset, .unset, .unset]) rfl ?_
      show Steps p.tables e below (s₁.setTop (mkF m 12 #[.val (.int p1), .val (.int p2), .val (.int (1 : Int32)), .unset, .unset, .unset, .unset, .unset, .unset] [])) _
      refine XS.iloadN X0.here hx rfl (hb hby at_12) rfl ?_
      show Steps p.tables e below (s₁.setTop (mkF m 13 #[.val (.int p1), .val (.int p2), .val (.int (1 : Int32)), .unset, .unset, .unset, .unset, .unset, .unset] [(.int p1)])) _
      refine X0.ldcInt hx hown (mvT hZ (hw _ (List.mem_of_getElem? (i := 0) rfl))) (g := (mkF m 13 #[.val (.int p1), .val (.int p2), .val (.int (1 : Int32)), .unset, .unset, .unset, .unset, .unset, .unset] [(.int p1)])) rfl (hb hby at_13) _ ?_
      show Steps p.tables e below (s₁.setTop (mkF m 15 #[.val (.int p1), .val (.int p2), .val (.int (1 : Int32)), .unset, .unset, .unset, .unset, .unset, .unset] [(.int (2147483647 : Int32)), (.int p1)])) _
      refine XS.iand X0.here hx rfl (hb hby at_15) rfl ?_
      show Steps p.tables e below (s₁.setTop (mkF m 16 #[.val (.int p1), .val (.int p2), .val (.int (1 : Int32)), .unset, .unset, .unset, .unset, .unset, .unset] [(.int (p1 &&& (2147483647 : Int32)))])) _
      refine XS.istoreN X0.here hx rfl (hb hby at_16) rfl (l' := #[.val (.int p1), .val (.int p2), .val (.int (1 : Int32)), .val (.int (p1 &&& (2147483647 : Int32))), .unset, .unset, .unset, .unset, .unset]) rfl ?_
      show Steps p.tables e below (s₁.setTop (mkF m 17 #[.val (.int p1), .val (.int p2), .val (.int (1 : Int32)), .val (.int (p1 &&& (2147483647 : Int32))), .unset, .unset, .unset, .unset, .unset] [])) _
      refine XS.iloadN X0.here hx rfl (hb hby at_17) rfl ?_
      show Steps p.tables e below (s₁.setTop (mkF m 18 #[.val (.int p1), .val (.int p2), .val (.int (1 : Int32)), .val (.int (p1 &&& (2147483647 : Int32))), .unset, .unset, .unset, .unset, .unset] [(.int (1 : Int32))])) _
      refine XS.ifNo X0.here hx rfl (hb hby at_18) rfl ((if0 _ _).trans (feq (by decide : ¬ ((1 : Int32) = (0 : Int32)))).1) ?_
      show Steps p.tables e below (s₁.setTop (mkF m 21 #[.val (.int p1), .val (.int p2), .val (.int (1 : Int32)), .val (.int (p1 &&& (2147483647 : Int32))), .unset, .unset, .unset, .unset, .unset] [])) _
      refine XS.iconst X0.here hx rfl (hb hby at_21) ?_
      show Steps p.tables e below (s₁.setTop (mkF m 22 #[.val (.int p1), .val (.int p2), .val (.int (1 : Int32)), .val (.int (p1 &&& (2147483647 : Int32))), .unset, .unset, .unset, .unset, .unset] [(.int (1 : Int32))])) _
      refine XS.iloadN X0.here hx rfl (hb hby at_22) rfl ?_
      show Steps p.tables e below (s₁.setTop (mkF m 23 #[.val (.int p1), .val (.int p2), .val (.int (1 : Int32)), .val (.int (p1 &&& (2147483647 : Int32))), .unset, .unset, .unset, .unset, .unset] [(.int (p1 &&& (2147483647 : Int32))), (.int (1 : Int32))])) _
      refine XS.iconst X0.here hx rfl (hb hby at_23) ?_
      show Steps p.tables e below (s₁.setTop (mkF m 24 #[.val (.int p1), .val (.int p2), .val (.int (1 : Int32)), .val (.int (p1 &&& (2147483647 : Int32))), .unset, .unset, .unset, .unset, .unset] [(.int (5 : Int32)), (.int (p1 &&& (2147483647 : Int32))), (.int (1 : Int32))])) _
      refine iremM X0 hx rfl (hb hby at_24) rfl (by decide) ?_
      show Steps p.tables e below (s₁.setTop (mkF m 25 #[.val (.int p1), .val (.int p2), .val (.int (1 : Int32)), .val (.int (p1 &&& (2147483647 : Int32))), .unset, .unset, .unset, .unset, .unset] [(.int ((p1 &&& (2147483647 : Int32)) % (5 : Int32))), (.int (1 : Int32))])) _
      refine XS.iadd X0.here hx rfl (hb hby at_25) rfl ?_
      show Steps p.tables e below (s₁.setTop (mkF m 26 #[.val (.int p1), .val (.int p2), .val (.int (1 : Int32)), .val (.int (p1 &&& (2147483647 : Int32))), .unset, .unset, .unset, .unset, .unset] [(.int ((1 : Int32) + ((p1 &&& (2147483647 : Int32)) % (5 : Int32))))])) _
      refine XS.goto X0.here hx rfl (pc0 := 26) (pc' := 35) rfl (hb hby at_26) (by decide) (by decide) ?_
      show Steps p.tables e below (s₁.setTop (mkF m 35 #[.val (.int p1), .val (.int p2), .val (.int (1 : Int32)), .val (.int (p1 &&& (2147483647 : Int32))), .unset, .unset, .unset, .unset, .unset] [(.int ((1 : Int32) + ((p1 &&& (2147483647 : Int32)) % (5 : Int32))))])) _
      refine XS.istore X0.here hx rfl (hb hby at_35) rfl (l' := #[.val (.int p1), .val (.int p2), .val (.int (1 : Int32)), .val (.int (p1 &&& (2147483647 : Int32))), .val (.int ((1 : Int32) + ((p1 &&& (2147483647 : Int32)) % (5 : Int32)))), .unset, .unset, .unset, .unset]) rfl ?_
      show Steps p.tables e below (s₁.setTop (mkF m 37 #[.val (.int p1), .val (.int p2), .val (.int (1 : Int32)), .val (.int (p1 &&& (2147483647 : Int32))), .val (.int ((1 : Int32) + ((p1 &&& (2147483647 : Int32)) % (5 : Int32)))), .unset, .unset, .unset, .unset] [])) _
      refine XS.iloadN X0.here hx rfl (hb hby at_37) rfl ?_
      show Steps p.tables e below (s₁.setTop (mkF m 38 #[.val (.int p1), .val (.int p2), .val (.int (1 : Int32)), .val (.int (p1 &&& (2147483647 : Int32))), .val (.int ((1 : Int32) + ((p1 &&& (2147483647 : Int32)) % (5 : Int32)))), .unset, .unset, .unset, .unset] [(.int (1 : Int32))])) _
      refine XS.ifNo X0.here hx rfl (hb hby at_38) rfl ((if0 _ _).trans (feq (by decide : ¬ ((1 : Int32) = (0 : Int32)))).1) ?_
      show Steps p.tables e below (s₁.setTop (mkF m 41 #[.val (.int p1), .val (.int p2), .val (.int (1 : Int32)), .val (.int (p1 &&& (2147483647 : Int32))), .val (.int ((1 : Int32) + ((p1 &&& (2147483647 : Int32)) % (5 : Int32)))), .unset, .unset, .unset, .unset] [])) _
      refine st2 _ ?_
      show Steps p.tables e below (T2.setTop (mkF m 44 #[.val (.int p1), .val (.int p2), .val (.int (1 : Int32)), .val (.int (p1 &&& (2147483647 : Int32))), .val (.int ((1 : Int32) + ((p1 &&& (2147483647 : Int32)) % (5 : Int32)))), .unset, .unset, .unset, .unset] [(.ref w_YEAR)])) _
      refine XS.goto X2.here hx rfl (pc0 := 44) (pc' := 50) rfl (hb hby at_44) (by decide) (by decide) ?_
      show Steps p.tables e below (T2.setTop (mkF m 50 #[.val (.int p1), .val (.int p2), .val (.int (1 : Int32)), .val (.int (p1 &&& (2147483647 : Int32))), .val (.int ((1 : Int32) + ((p1 &&& (2147483647 : Int32)) % (5 : Int32)))), .unset, .unset, .unset, .unset] [(.ref w_YEAR)])) _
      refine XS.astore X2.here hx rfl (hb hby at_50) rfl rfl (l' := #[.val (.int p1), .val (.int p2), .val (.int (1 : Int32)), .val (.int (p1 &&& (2147483647 : Int32))), .val (.int ((1 : Int32) + ((p1 &&& (2147483647 : Int32)) % (5 : Int32)))), .val (.ref w_YEAR), .unset, .unset, .unset]) rfl ?_
      show Steps p.tables e below (T2.setTop (mkF m 52 #[.val (.int p1), .val (.int p2), .val (.int (1 : Int32)), .val (.int (p1 &&& (2147483647 : Int32))), .val (.int ((1 : Int32) + ((p1 &&& (2147483647 : Int32)) % (5 : Int32)))), .val (.ref w_YEAR), .unset, .unset, .unset] [])) _
      refine st3 _ ?_
      show Steps p.tables e below (T3.setTop (mkF m 55 #[.val (.int p1), .val (.int p2), .val (.int (1 : Int32)), .val (.int (p1 &&& (2147483647 : Int32))), .val (.int ((1 : Int32) + ((p1 &&& (2147483647 : Int32)) % (5 : Int32)))), .val (.ref w_YEAR), .unset, .unset, .unset] [(.ref b3)])) _
      refine XS.dup X3.here hx rfl (hb hby at_55) rfl rfl ?_
      show Steps p.tables e below (T3.setTop (mkF m 56 #[.val (.int p1), .val (.int p2), .val (.int (1 : Int32)), .val (.int (p1 &&& (2147483647 : Int32))), .val (.int ((1 : Int32) + ((p1 &&& (2147483647 : Int32)) % (5 : Int32)))), .val (.ref w_YEAR), .unset, .unset, .unset] [(.ref b3), (.ref b3)])) _
      refine XS.iload X3.here hx rfl (hb hby at_56) rfl ?_
      show Steps p.tables e below (T3.setTop (mkF m 58 #[.val (.int p1), .val (.int p2), .val (.int (1 : Int32)), .val (.int (p1 &&& (2147483647 : Int32))), .val (.int ((1 : Int32) + ((p1 &&& (2147483647 : Int32)) % (5 : Int32)))), .val (.ref w_YEAR), .unset, .unset, .unset] [(.int ((1 : Int32) + ((p1 &&& (2147483647 : Int32)) % (5 : Int32)))), (.ref b3), (.ref b3)])) _
      refine XS.aload X3.here hx rfl (hb hby at_58) rfl rfl ?_
      show Steps p.tables e below (T3.setTop (mkF m 60 #[.val (.int p1), .val (.int p2), .val (.int (1 : Int32)), .val (.int (p1 &&& (2147483647 : Int32))), .val (.int ((1 : Int32) + ((p1 &&& (2147483647 : Int32)) % (5 : Int32)))), .val (.ref w_YEAR), .unset, .unset, .unset] [(.ref w_YEAR), (.int ((1 : Int32) + ((p1 &&& (2147483647 : Int32)) % (5 : Int32)))), (.ref b3), (.ref b3)])) _
      refine st4.trans ?_
      show Steps p.tables e below (T4.setTop (mkF m 63 #[.val (.int p1), .val (.int p2), .val (.int (1 : Int32)), .val (.int (p1 &&& (2147483647 : Int32))), .val (.int ((1 : Int32) + ((p1 &&& (2147483647 : Int32)) % (5 : Int32)))), .val (.ref w_YEAR), .unset, .unset, .unset] [(.ref b3)])) _
      refine XS.astore X4.here hx rfl (hb hby at_63) rfl rfl (l' := #[.val (.int p1), .val (.int p2), .val (.int (1 : Int32)), .val (.int (p1 &&& (2147483647 : Int32))), .val (.int ((1 : Int32) + ((p1 &&& (2147483647 : Int32)) % (5 : Int32)))), .val (.ref w_YEAR), .val (.ref b3), .unset, .unset]) rfl ?_
      show Steps p.tables e below (T4.setTop (mkF m 65 #[.val (.int p1), .val (.int p2), .val (.int (1 : Int32)), .val (.int (p1 &&& (2147483647 : Int32))), .val (.int ((1 : Int32) + ((p1 &&& (2147483647 : Int32)) % (5 : Int32)))), .val (.ref w_YEAR), .val (.ref b3), .unset, .unset] [])) _
      refine XS.aload X4.here hx rfl (hb hby at_65) rfl rfl ?_
      show Steps p.tables e below (T4.setTop (mkF m 67 #[.val (.int p1), .val (.int p2), .val (.int (1 : Int32)), .val (.int (p1 &&& (2147483647 : Int32))), .val (.int ((1 : Int32) + ((p1 &&& (2147483647 : Int32)) % (5 : Int32)))), .val (.ref w_YEAR), .val (.ref b3), .unset, .unset] [(.ref b3)])) _
      refine st5.trans ?_
      show Steps p.tables e below (T5.setTop (mkF m 70 #[.val (.int p1), .val (.int p2), .val (.int (1 : Int32)), .val (.int (p1 &&& (2147483647 : Int32))), .val (.int ((1 : Int32) + ((p1 &&& (2147483647 : Int32)) % (5 : Int32)))), .val (.ref w_YEAR), .val (.ref b3), .unset, .unset] [(.int (((1 : Int32) + ((p1 &&& (2147483647 : Int32)) % (5 : Int32))) * (12 : Int32)))])) _
      refine XS.istore X5.here hx rfl (hb hby at_70) rfl (l' := #[.val (.int p1), .val (.int p2), .val (.int (1 : Int32)), .val (.int (p1 &&& (2147483647 : Int32))), .val (.int ((1 : Int32) + ((p1 &&& (2147483647 : Int32)) % (5 : Int32)))), .val (.ref w_YEAR), .val (.ref b3), .val (.int (((1 : Int32) + ((p1 &&& (2147483647 : Int32)) % (5 : Int32))) * (12 : Int32))), .unset]) rfl ?_
      show Steps p.tables e below (T5.setTop (mkF m 72 #[.val (.int p1), .val (.int p2), .val (.int (1 : Int32)), .val (.int (p1 &&& (2147483647 : Int32))), .val (.int ((1 : Int32) + ((p1 &&& (2147483647 : Int32)) % (5 : Int32)))), .val (.ref w_YEAR), .val (.ref b3), .val (.int (((1 : Int32) + ((p1 &&& (2147483647 : Int32)) % (5 : Int32))) * (12 : Int32))), .unset] [])) _
      refine XS.iloadN X5.here hx rfl (hb hby at_72) rfl ?_
      show Steps p.tables e below (T5.setTop (mkF m 73 #[.val (.int p1), .val (.int p2), .val (.int (1 : Int32)), .val (.int (p1 &&& (2147483647 : Int32))), .val (.int ((1 : Int32) + ((p1 &&& (2147483647 : Int32)) % (5 : Int32)))), .val (.ref w_YEAR), .val (.ref b3), .val (.int (((1 : Int32) + ((p1 &&& (2147483647 : Int32)) % (5 : Int32))) * (12 : Int32))), .unset] [(.int (1 : Int32))])) _
      refine XS.ifNo X5.here hx rfl (hb hby at_73) rfl ((if0 _ _).trans (feq (by decide : ¬ ((1 : Int32) = (0 : Int32)))).1) ?_
      show Steps p.tables e below (T5.setTop (mkF m 76 #[.val (.int p1), .val (.int p2), .val (.int (1 : Int32)), .val (.int (p1 &&& (2147483647 : Int32))), .val (.int ((1 : Int32) + ((p1 &&& (2147483647 : Int32)) % (5 : Int32)))), .val (.ref w_YEAR), .val (.ref b3), .val (.int (((1 : Int32) + ((p1 &&& (2147483647 : Int32)) % (5 : Int32))) * (12 : Int32))), .unset] [])) _
      refine XS.bipush X5.here hx rfl (hb hby at_76) ?_
      show Steps p.tables e below (T5.setTop (mkF m 78 #[.val (.int p1), .val (.int p2), .val (.int (1 : Int32)), .val (.int (p1 &&& (2147483647 : Int32))), .val (.int ((1 : Int32) + ((p1 &&& (2147483647 : Int32)) % (5 : Int32)))), .val (.ref w_YEAR), .val (.ref b3), .val (.int (((1 : Int32) + ((p1 &&& (2147483647 : Int32)) % (5 : Int32))) * (12 : Int32))), .unset] [(.int (12 : Int32))])) _
      refine XS.iload X5.here hx rfl (hb hby at_78) rfl ?_
      show Steps p.tables e below (T5.setTop (mkF m 80 #[.val (.int p1), .val (.int p2), .val (.int (1 : Int32)), .val (.int (p1 &&& (2147483647 : Int32))), .val (.int ((1 : Int32) + ((p1 &&& (2147483647 : Int32)) % (5 : Int32)))), .val (.ref w_YEAR), .val (.ref b3), .val (.int (((1 : Int32) + ((p1 &&& (2147483647 : Int32)) % (5 : Int32))) * (12 : Int32))), .unset] [(.int ((1 : Int32) + ((p1 &&& (2147483647 : Int32)) % (5 : Int32)))), (.int (12 : Int32))])) _
      refine XS.imul X5.here hx rfl (hb hby at_80) rfl ?_
      show Steps p.tables e below (T5.setTop (mkF m 81 #[.val (.int p1), .val (.int p2), .val (.int (1 : Int32)), .val (.int (p1 &&& (2147483647 : Int32))), .val (.int ((1 : Int32) + ((p1 &&& (2147483647 : Int32)) % (5 : Int32)))), .val (.ref w_YEAR), .val (.ref b3), .val (.int (((1 : Int32) + ((p1 &&& (2147483647 : Int32)) % (5 : Int32))) * (12 : Int32))), .unset] [(.int ((12 : Int32) * ((1 : Int32) + ((p1 &&& (2147483647 : Int32)) % (5 : Int32)))))])) _
      refine XS.istore X5.here hx rfl (hb hby at_81) rfl (l' := #[.val (.int p1), .val (.int p2), .val (.int (1 : Int32)), .val (.int (p1 &&& (2147483647 : Int32))), .val (.int ((1 : Int32) + ((p1 &&& (2147483647 : Int32)) % (5 : Int32)))), .val (.ref w_YEAR), .val (.ref b3), .val (.int (((1 : Int32) + ((p1 &&& (2147483647 : Int32)) % (5 : Int32))) * (12 : Int32))), .val (.int ((12 : Int32) * ((1 : Int32) + ((p1 &&& (2147483647 : Int32)) % (5 : Int32)))))]) rfl ?_
      show Steps p.tables e below (T5.setTop (mkF m 83 #[.val (.int p1), .val (.int p2), .val (.int (1 : Int32)), .val (.int (p1 &&& (2147483647 : Int32))), .val (.int ((1 : Int32) + ((p1 &&& (2147483647 : Int32)) % (5 : Int32)))), .val (.ref w_YEAR), .val (.ref b3), .val (.int (((1 : Int32) + ((p1 &&& (2147483647 : Int32)) % (5 : Int32))) * (12 : Int32))), .val (.int ((12 : Int32) * ((1 : Int32) + ((p1 &&& (2147483647 : Int32)) % (5 : Int32)))))] [])) _
      refine XS.goto X5.here hx rfl (pc0 := 83) (pc' := 90) rfl (hb hby at_83) (by decide) (by decide) ?_
      show Steps p.tables e below (T5.setTop (mkF m 90 #[.val (.int p1), .val (.int p2), .val (.int (1 : Int32)), .val (.int (p1 &&& (2147483647 : Int32))), .val (.int ((1 : Int32) + ((p1 &&& (2147483647 : Int32)) % (5 : Int32)))), .val (.ref w_YEAR), .val (.ref b3), .val (.int (((1 : Int32) + ((p1 &&& (2147483647 : Int32)) % (5 : Int32))) * (12 : Int32))), .val (.int ((12 : Int32) * ((1 : Int32) + ((p1 &&& (2147483647 : Int32)) % (5 : Int32)))))] [])) _
      refine XS.iload X5.here hx rfl (hb hby at_90) rfl ?_
      show Steps p.tables e below (T5.setTop (mkF m 92 #[.val (.int p1), .val (.int p2), .val (.int (1 : Int32)), .val (.int (p1 &&& (2147483647 : Int32))), .val (.int ((1 : Int32) + ((p1 &&& (2147483647 : Int32)) % (5 : Int32)))), .val (.ref w_YEAR), .val (.ref b3), .val (.int (((1 : Int32) + ((p1 &&& (2147483647 : Int32)) % (5 : Int32))) * (12 : Int32))), .val (.int ((12 : Int32) * ((1 : Int32) + ((p1 &&& (2147483647 : Int32)) % (5 : Int32)))))] [(.int (((1 : Int32) + ((p1 &&& (2147483647 : Int32)) % (5 : Int32))) * (12 : Int32)))])) _
      refine XS.iload X5.here hx rfl (hb hby at_92) rfl ?_
      show Steps p.tables e below (T5.setTop (mkF m 94 #[.val (.int p1), .val (.int p2), .val (.int (1 : Int32)), .val (.int (p1 &&& (2147483647 : Int32))), .val (.int ((1 : Int32) + ((p1 &&& (2147483647 : Int32)) % (5 : Int32)))), .val (.ref w_YEAR), .val (.ref b3), .val (.int (((1 : Int32) + ((p1 &&& (2147483647 : Int32)) % (5 : Int32))) * (12 : Int32))), .val (.int ((12 : Int32) * ((1 : Int32) + ((p1 &&& (2147483647 : Int32)) % (5 : Int32)))))] [(.int ((12 : Int32) * ((1 : Int32) + ((p1 &&& (2147483647 : Int32)) % (5 : Int32))))), (.int (((1 : Int32) + ((p1 &&& (2147483647 : Int32)) % (5 : Int32))) * (12 : Int32)))])) _
      refine XS.icmpNo X5.here hx rfl (hb hby at_94) rfl (teq (Int32.mul_comm _ _)).2 ?_
      show Steps p.tables e below (T5.setTop (mkF m 97 #[.val (.int p1), .val (.int p2), .val (.int (1 : Int32)), .val (.int (p1 &&& (2147483647 : Int32))), .val (.int ((1 : Int32) + ((p1 &&& (2147483647 : Int32)) % (5 : Int32)))), .val (.ref w_YEAR), .val (.ref b3), .val (.int (((1 : Int32) + ((p1 &&& (2147483647 : Int32)) % (5 : Int32))) * (12 : Int32))), .val (.int ((12 : Int32) * ((1 : Int32) + ((p1 &&& (2147483647 : Int32)) % (5 : Int32)))))] [])) _
      refine XS.iconst X5.here hx rfl (hb hby at_97) ?_
      show Steps p.tables e below (T5.setTop (mkF m 98 #[.val (.int p1), .val (.int p2), .val (.int (1 : Int32)), .val (.int (p1 &&& (2147483647 : Int32))), .val (.int ((1 : Int32) + ((p1 &&& (2147483647 : Int32)) % (5 : Int32)))), .val (.ref w_YEAR), .val (.ref b3), .val (.int (((1 : Int32) + ((p1 &&& (2147483647 : Int32)) % (5 : Int32))) * (12 : Int32))), .val (.int ((12 : Int32) * ((1 : Int32) + ((p1 &&& (2147483647 : Int32)) % (5 : Int32)))))] [(.int (1 : Int32))])) _
      refine XS.goto X5.here hx rfl (pc0 := 98) (pc' := 102) rfl (hb hby at_98) (by decide) (by decide) ?_
      show Steps p.tables e below (T5.setTop (mkF m 102 #[.val (.int p1), .val (.int p2), .val (.int (1 : Int32)), .val (.int (p1 &&& (2147483647 : Int32))), .val (.int ((1 : Int32) + ((p1 &&& (2147483647 : Int32)) % (5 : Int32)))), .val (.ref w_YEAR), .val (.ref b3), .val (.int (((1 : Int32) + ((p1 &&& (2147483647 : Int32)) % (5 : Int32))) * (12 : Int32))), .val (.int ((12 : Int32) * ((1 : Int32) + ((p1 &&& (2147483647 : Int32)) % (5 : Int32)))))] [(.int (1 : Int32))])) _
      exact retN X5 hx (t := .boolean) Bd.returns (by simp) (hb hby at_102) hr
    · exact ⟨rfl, N5⟩
theorem rm0_all (l : Launch) (Z : State) (a0 : Array Value) (hw : ∀ d ∈ tables_1, d.before a0 Z = true) (ws : List Jvm.Cond) (w_YEAR : Addr) (w_USER_YEAR : Addr) (w_MONTH : Addr) (w_USER_MONTH : Addr) (p1 : Int32) (p2 : Int32) (h0 : Heap) (n0 : Nat) (Z0 : n0 ≤ h0.size) (O0 : Old Z n0 h0) (HW : World Z w_YEAR w_USER_YEAR w_MONTH w_USER_MONTH) :
    MetFree l x (head1 (Jvm.Cond.code x code maxLocals ret :: ws) room_1) (fun a U => a = #[(.int p1), (.int p2)] ∧ Z.Warmed39 U.vm ∧ U.heap = h0) (fun _ _ _ _ _ => True) (fun _ U o U' => ∃ v L, o = .returned v ∧ Q0 h0 n0 v U'.heap L ∧ FrameEnd U o U' L room_1.cells room_1.slots) := by
  exact rm0_a l Z a0 hw ws w_YEAR w_USER_YEAR w_MONTH w_USER_MONTH p1 p2 h0 n0 Z0 O0 HW
set_option maxRecDepth 65536 in
set_option maxHeartbeats 40000000 in
theorem comes_1 {Post : Tables → Env → Array Value → State → Outcome → State → Prop} (hpost : ∀ tb e args s v u, (limb_1_1.after args s (.returned v) u = true ∧ limb_1_2.after args s (.returned v) u = true ∧ True) → FrameEnd s (.returned v) u (Jvm.fieldLocs frame_1_writes args s ++ Jvm.arrayLocs frame_1_arrays args s ++ Jvm.staticLocs frame_1_statics s) 16 128 → Post tb e args s (.returned v) u) :
    ArmFor flags0 classFile x code maxLocals ret World_1 tables_1 room_1 Calls_1 rest_1 Pre_1 Post := by
  intro l hfl _ _ p e ha hc hk s m args below hf hA hF happ hP
  obtain ⟨hcalls, hrest, hpre⟩ := hP
  obtain ⟨-, -, -, hnamed, -, -, -, hat⟩ := (Spec.applies_iff hf).mp happ
  obtain ⟨hg, hn⟩ := and_e (Cond.before_iff.mp (show (Jvm.Cond.and given_1 narrow_1).before args s = true from hpre))
  obtain ⟨hg1a, hg1b⟩ := and_e hg
  obtain ⟨hg2a, hg2b⟩ := and_e hg1b
  obtain ⟨w0, w1, rfl⟩ : ∃ w0 w1 : Value, args = #[w0, w1] := by
    have hs : args.size = 2 := by simpa [Cond.value, given_1] using hg1a
    obtain ⟨L⟩ := args
    match L, hs with
    | [w0, w1], _ => exact ⟨w0, w1, rfl⟩
  have hw := fun d (hd : d ∈ tables_1) => atoms_spec (ws := Jvm.Cond.code x code maxLocals ret :: tables_1) hat d (List.mem_cons_of_mem _ hd)
  have hfit : Fit s := fun {y c} hc i hi => by
    obtain ⟨ha, rfl⟩ := Array.getElem?_eq_some_iff.mp hc
    have q := List.all_eq_true.mp ((Array.all_eq_true_iff_forall_mem.mp hF) _ (Array.getElem_mem ha)) i (List.mem_range.mpr hi)
    simpa [Array.getElem?_eq_getElem hi] using q
  obtain ⟨i0, ei0⟩ := is_v hg2a
  obtain rfl : w0 = (.int i0) := Option.some.inj ei0
  obtain ⟨i1, ei1⟩ := is_v hg2b
  obtain rfl : w1 = (.int i1) := Option.some.inj ei1
  obtain ⟨hn1a, hn1b⟩ := and_e hn
  obtain ⟨hn2a, hn2b⟩ := and_e hn1b
  obtain ⟨hn3a, hn3b⟩ := and_e hn2b
  obtain ⟨hn4a, hn4b⟩ := and_e hn3b
  obtain ⟨hn5a, hn5b⟩ := and_e hn4b
  obtain ⟨hn6a, hn6b⟩ := and_e hn5b
  obtain ⟨hn7a, hn7b⟩ := and_e hn6b
  obtain ⟨hn8a, hn8b⟩ := and_e hn7b
  obtain ⟨hn9a, hn9b⟩ := and_e hn8b
  obtain ⟨w_YEAR, ev_w_YEAR⟩ := exa_v hn1a
  have S_w_YEAR := Sta.start ev_w_YEAR (Or.inr ⟨(hw _ (List.mem_of_getElem? (i := 2) rfl)), (hw _ (List.mem_of_getElem? (i := 3) rfl))⟩)
  have E_w_YEAR := Exa.start ev_w_YEAR hn1a
  obtain ⟨w_USER_YEAR, ev_w_USER_YEAR⟩ := exa_v hn3a
  have S_w_USER_YEAR := Sta.start ev_w_USER_YEAR (Or.inr ⟨(hw _ (List.mem_of_getElem? (i := 31) rfl)), (hw _ (List.mem_of_getElem? (i := 32) rfl))⟩)
  have E_w_USER_YEAR := Exa.start ev_w_USER_YEAR hn3a
  obtain ⟨w_MONTH, ev_w_MONTH⟩ := exa_v hn6a
  have S_w_MONTH := Sta.start ev_w_MONTH (Or.inr ⟨(hw _ (List.mem_of_getElem? (i := 2) rfl)), (hw _ (List.mem_of_getElem? (i := 41) rfl))⟩)
  have E_w_MONTH := Exa.start ev_w_MONTH hn6a
  obtain ⟨w_USER_MONTH, ev_w_USER_MONTH⟩ := exa_v hn8a
  have S_w_USER_MONTH := Sta.start ev_w_USER_MONTH (Or.inr ⟨(hw _ (List.mem_of_getElem? (i := 31) rfl)), (hw _ (List.mem_of_getElem? (i := 42) rfl))⟩)
  have E_w_USER_MONTH := Exa.start ev_w_USER_MONTH hn8a
  have F_most_w_YEAR := own_fld (k := (5 : Int32)) hn2a ev_w_YEAR
  have F_priceUnit_w_YEAR := own_fldR hn4a ev_w_YEAR ev_w_USER_YEAR
  have F_userMonths_w_USER_YEAR := own_fld (k := (12 : Int32)) hn5a ev_w_USER_YEAR
  have F_most_w_MONTH := own_fld (k := (11 : Int32)) hn7a ev_w_MONTH
  have F_priceUnit_w_MONTH := own_fldR hn9a ev_w_MONTH ev_w_USER_MONTH
  have F_userMonths_w_USER_MONTH := own_fld (k := (1 : Int32)) hn9b ev_w_USER_MONTH
  have ne_w_YEAR_w_MONTH : ¬ (w_YEAR = w_MONTH) := own_ne F_most_w_YEAR F_most_w_MONTH (by decide)
  have ne_w_USER_YEAR_w_USER_MONTH : ¬ (w_USER_YEAR = w_USER_MONTH) := own_ne F_userMonths_w_USER_YEAR F_userMonths_w_USER_MONTH (by decide)
  have HW : World s w_YEAR w_USER_YEAR w_MONTH w_USER_MONTH := ⟨S_w_YEAR, E_w_YEAR, S_w_USER_YEAR, E_w_USER_YEAR, S_w_MONTH, E_w_MONTH, S_w_USER_MONTH, E_w_USER_MONTH, F_most_w_YEAR, F_priceUnit_w_YEAR, F_userMonths_w_USER_YEAR, F_most_w_MONTH, F_priceUnit_w_MONTH, F_userMonths_w_USER_MONTH, ne_w_YEAR_w_MONTH, ne_w_USER_YEAR_w_USER_MONTH, trivial⟩
  obtain ⟨n, o, h1, h2, h3, _, L, rfl, ⟨rfl, N⟩, hq⟩ := rm0_all l s _ hw tables_1 w_YEAR w_USER_YEAR w_MONTH w_USER_MONTH i0 i1 s.heap s.heap.size (Nat.le_refl _) (Old.start s) HW p e ha hc hk s m _ below hf ((Spec.applies_iff_loose hf).mp happ).1 ⟨rfl, State.Warmed39.refl s, rfl⟩ trivial
  exact ⟨n, _, h1, h2, h3, hpost _ _ _ _ _ _ ⟨Cond.after_iff.mpr rfl, Cond.after_iff.mpr (eq_i res_at (Term.int_eval (1)) rfl), trivial⟩ ⟨hq.1, hq.2.1, (hq.2.2.sift fun y hy => Or.inr (N y hy)).mono (by decide) (by decide)⟩⟩
theorem main_1_1 : Claimed_1_1 := comes_1 fun _ _ _ _ _ _ h hF => ⟨h.1, hF⟩
theorem main_1_2 : Claimed_1_2 := comes_1 fun _ _ _ _ _ _ h hF => ⟨h.2.1, hF⟩
end Jvm.Pilot.@@N@@
namespace Jvm.Pilot.@@N@@
open Jvm Jvm.ClassFile Sem Op Lib Jvm.Free Jvm.Stand Jvm.Pilot.@@N@@.Jvm.D
/-! MADE BY PROGRAM (witnessworld.py) out of the Statement's table words and the real class files: 15 classes; the members and pool entries that the words name. The judged class is class 1, her method 1. -/
namespace start1
open Jvm.ClassFile
def u (s : String) : CpInfo := .utf8 (stringToUtf16 s)
/-- a pool by its gaps: so many unusable entries, then the entry; so many at the end -/
def gap : Nat → List CpInfo → List CpInfo
  | 0, r => r
  | n + 1, r => .unusable :: gap n r
def poolList (es : List (Nat × CpInfo)) (last : Nat) : List CpInfo := es.foldr (fun e r => gap e.1 (e.2 :: r)) (gap last [])
def pool (es : List (Nat × CpInfo)) (last : Nat) : Array CpInfo := ⟨poolList es last⟩
def fileOf (pool : Array CpInfo) (this : Nat) (attrs : Array Attribute := #[]) (ms : Array MethodInfo := #[]) (fl : Nat := 33) (sup : Nat := 0) (ifs : Array Nat := #[]) (fds : Array FieldInfo := #[]) : ClassFile where
  minorVersion := 0
  majorVersion := 65
  constantPool := pool
  accessFlags := fl
  thisClass := this
  superClass := sup
  interfaces := ifs
  fields := fds
  methods := ms
  attributes := attrs
def plain (name : String) (sup : Option ClassId) : Class where
  name := name
  kind := .ordinary
  loader := none
  accessFlags := 33
  super := sup
  interfaces := #[]
  cf := none
  fields := #[]
  methods := #[]
  instanceTypes := #[]
  staticTypes := #[]
  resolved := #[]
  callSites := []
  init := .initialized
  statics := none
  mirror := none

def pool0 : Array CpInfo := pool [(5, u "<init>"), (0, u "()V"), (1, .class_ 10), (1, u "java/lang/Object")] 113

def k0c0 : Code := { maxStack := 0, maxLocals := 1, code := object_method_1_code, exceptionTable := #[], attributes := #[] }
def k0m0 : Method := { name := "<init>", desc := "()V", sig := { parameters := [], returnType := none }, accessFlags := 1, code := some k0c0 }
/-- java/lang/Object -/
def k0 : Class := { plain "java/lang/Object" none with
  accessFlags := 33
  interfaces := #[]
  cf := some (fileOf pool0 8 #[] #[{ accessFlags := 1, nameIndex := 5, descriptorIndex := 6, attributes := #[] }] 33 0 #[] #[])
  fields := #[]
  methods := #[k0m0]
  instanceTypes := #[]
  staticTypes := #[]
  resolved := Array.replicate 124 none
  statics := none }

def pool1 : Array CpInfo := pool [(2, .class_ 4), (1, u "java/lang/Object"), (0, u "<init>"), (0, u "()V"), (0, .integer 2147483647), (0, .fieldref 9 10), (0, .class_ 11), (0, .nameAndType 12 13), (0, u "com/example/metered_billing/meteredbilling/plan/Term$Unit"), (0, u "YEAR"), (0, u "Lcom/example/metered_billing/meteredbilling/plan/Term$Unit;"), (0, .fieldref 9 15), (0, .nameAndType 16 13), (0, u "MONTH"), (0, .class_ 18), (0, u "com/example/metered_billing/meteredbilling/plan/Term"), (0, .methodref 17 20), (0, .nameAndType 5 21), (0, u "(ILcom/example/metered_billing/meteredbilling/plan/Term$Unit;)V"), (0, .methodref 17 23), (0, .nameAndType 24 25), (0, u "months"), (0, u "()I"), (0, .class_ 27), (0, u "com/example/metered_billing/meteredbilling/plan/TermMonthsPinLaw"), (2, u "law"), (0, u "(II)Z")] 5

def k1m0 : Method := { name := "<init>", desc := "()V", sig := { parameters := [], returnType := none }, accessFlags := 1, code := none }
def k1c1 : Code := { maxStack := 4, maxLocals := 9, code := code, exceptionTable := #[], attributes := #[] }
def k1m1 : Method := { name := "law", desc := "(II)Z", sig := { parameters := [.int, .int], returnType := some .boolean }, accessFlags := 9, code := some k1c1 }
/-- com/example/metered_billing/meteredbilling/plan/TermMonthsPinLaw -/
def k1 : Class := { plain "com/example/metered_billing/meteredbilling/plan/TermMonthsPinLaw" (some 0) with
  accessFlags := 49
  interfaces := #[]
  cf := some (fileOf pool1 26 #[] #[{ accessFlags := 1, nameIndex := 5, descriptorIndex := 6, attributes := #[] }, { accessFlags := 9, nameIndex := 30, descriptorIndex := 31, attributes := #[] }] 49 2 #[] #[])
  fields := #[]
  methods := #[k1m0, k1m1]
  instanceTypes := #[]
  staticTypes := #[]
  resolved := Array.replicate 37 none
  statics := none }

def pool2 : Array CpInfo := pool [(1, .class_ 2), (0, u "java/lang/constant/Constable"), (0, .class_ 4), (0, u "java/lang/Object")] 6

/-- java/lang/constant/Constable -/
def k2 : Class := { plain "java/lang/constant/Constable" (some 0) with
  accessFlags := 1537
  interfaces := #[]
  cf := some (fileOf pool2 1 #[] #[] 1537 3 #[] #[])
  fields := #[]
  methods := #[]
  instanceTypes := #[]
  staticTypes := #[]
  resolved := Array.replicate 11 none
  statics := none }

def pool3 : Array CpInfo := pool [(1, .class_ 2), (0, u "java/lang/Comparable"), (0, .class_ 4), (0, u "java/lang/Object")] 7

/-- java/lang/Comparable -/
def k3 : Class := { plain "java/lang/Comparable" (some 0) with
  accessFlags := 1537
  interfaces := #[]
  cf := some (fileOf pool3 1 #[] #[] 1537 3 #[] #[])
  fields := #[]
  methods := #[]
  instanceTypes := #[]
  staticTypes := #[]
  resolved := Array.replicate 12 none
  statics := none }

def pool4 : Array CpInfo := pool [(1, .class_ 2), (0, u "java/io/Serializable"), (0, .class_ 4), (0, u "java/lang/Object")] 2

/-- java/io/Serializable -/
def k4 : Class := { plain "java/io/Serializable" (some 0) with
  accessFlags := 1537
  interfaces := #[]
  cf := some (fileOf pool4 1 #[] #[] 1537 3 #[] #[])
  fields := #[]
  methods := #[]
  instanceTypes := #[]
  staticTypes := #[]
  resolved := Array.replicate 7 none
  statics := none }

def pool5 : Array CpInfo := pool [(2, .class_ 4), (1, u "java/lang/Enum"), (0, u "name"), (0, u "Ljava/lang/String;"), (2, u "ordinal"), (0, u "I"), (1, .class_ 14), (1, u "java/lang/Object"), (4, u "hash"), (86, .class_ 108), (1, u "java/lang/Enum$EnumDesc"), (2, .class_ 112), (0, u "java/lang/constant/Constable"), (0, .class_ 114), (0, u "java/lang/Comparable"), (0, .class_ 116), (0, u "java/io/Serializable")] 87

/-- java/lang/Enum -/
def k5 : Class := { plain "java/lang/Enum" (some 0) with
  accessFlags := 1057
  interfaces := #[2, 3, 4]
  cf := some (fileOf pool5 2 #[.nestMembers #[106]] #[] 1057 12 #[111, 113, 115] #[{ accessFlags := 18, nameIndex := 5, descriptorIndex := 6, attributes := #[] }, { accessFlags := 18, nameIndex := 9, descriptorIndex := 10, attributes := #[] }, { accessFlags := 2, nameIndex := 19, descriptorIndex := 10, attributes := #[] }])
  fields := #[{ name := "name", type := (.object "java/lang/String"), accessFlags := 18, slot := 0, constantValue := 0 }, { name := "ordinal", type := .int, accessFlags := 18, slot := 1, constantValue := 0 }, { name := "hash", type := .int, accessFlags := 2, slot := 2, constantValue := 0 }]
  methods := #[]
  instanceTypes := #[(.object "java/lang/String"), .int, .int]
  staticTypes := #[]
  resolved := Array.replicate 204 none
  statics := none }

def pool6 : Array CpInfo := pool [(1, .class_ 2), (0, u "com/example/metered_billing/meteredbilling/plan/Term$Unit"), (2, u "MONTH"), (0, u "Lcom/example/metered_billing/meteredbilling/plan/Term$Unit;"), (2, u "YEAR"), (2, u "$VALUES"), (0, u "[Lcom/example/metered_billing/meteredbilling/plan/Term$Unit;"), (6, .class_ 22), (1, u "java/lang/Enum"), (8, u "field"), (0, u "Ljava/lang/String;"), (2, u "priceUnit"), (0, u "Lcom/example/metered_billing/meteredbilling/rating/PriceUnit;"), (2, u "most"), (0, u "I"), (35, .class_ 77), (0, u "com/example/metered_billing/meteredbilling/plan/Term")] 2

/-- com/example/metered_billing/meteredbilling/plan/Term$Unit -/
def k6 : Class := { plain "com/example/metered_billing/meteredbilling/plan/Term$Unit" (some 5) with
  accessFlags := 16433
  interfaces := #[]
  cf := some (fileOf pool6 1 #[.nestHost 76] #[] 16433 20 #[] #[{ accessFlags := 16409, nameIndex := 5, descriptorIndex := 6, attributes := #[] }, { accessFlags := 16409, nameIndex := 9, descriptorIndex := 6, attributes := #[] }, { accessFlags := 18, nameIndex := 31, descriptorIndex := 32, attributes := #[] }, { accessFlags := 18, nameIndex := 35, descriptorIndex := 36, attributes := #[] }, { accessFlags := 18, nameIndex := 39, descriptorIndex := 40, attributes := #[] }, { accessFlags := 4122, nameIndex := 12, descriptorIndex := 13, attributes := #[] }])
  fields := #[{ name := "MONTH", type := (.object "com/example/metered_billing/meteredbilling/plan/Term$Unit"), accessFlags := 16409, slot := 0, constantValue := 0 }, { name := "YEAR", type := (.object "com/example/metered_billing/meteredbilling/plan/Term$Unit"), accessFlags := 16409, slot := 1, constantValue := 0 }, { name := "field", type := (.object "java/lang/String"), accessFlags := 18, slot := 3, constantValue := 0 }, { name := "priceUnit", type := (.object "com/example/metered_billing/meteredbilling/rating/PriceUnit"), accessFlags := 18, slot := 4, constantValue := 0 }, { name := "most", type := .int, accessFlags := 18, slot := 5, constantValue := 0 }, { name := "$VALUES", type := (.array (.object "com/example/metered_billing/meteredbilling/plan/Term$Unit")), accessFlags := 4122, slot := 2, constantValue := 0 }]
  methods := #[]
  instanceTypes := #[(.object "java/lang/String"), .int, .int, (.object "java/lang/String"), (.object "com/example/metered_billing/meteredbilling/rating/PriceUnit"), .int]
  staticTypes := #[(.object "com/example/metered_billing/meteredbilling/plan/Term$Unit"), (.object "com/example/metered_billing/meteredbilling/plan/Term$Unit"), (.array (.object "com/example/metered_billing/meteredbilling/plan/Term$Unit"))]
  resolved := Array.replicate 80 none
  statics := some 0 }

def pool7 : Array CpInfo := pool [(1, .methodref 2 3), (0, .class_ 4), (0, .nameAndType 5 6), (0, u "java/lang/Object"), (0, u "<init>"), (0, u "()V"), (0, .class_ 8), (0, u "java/lang/Record")] 13

def k7c0 : Code := { maxStack := 1, maxLocals := 1, code := jdk_30_method_1_code, exceptionTable := #[], attributes := #[] }
def k7m0 : Method := { name := "<init>", desc := "()V", sig := { parameters := [], returnType := none }, accessFlags := 4, code := some k7c0 }
/-- java/lang/Record -/
def k7 : Class := { plain "java/lang/Record" (some 0) with
  accessFlags := 1057
  interfaces := #[]
  cf := some (fileOf pool7 7 #[] #[{ accessFlags := 4, nameIndex := 5, descriptorIndex := 6, attributes := #[] }] 1057 2 #[] #[])
  fields := #[]
  methods := #[k7m0]
  instanceTypes := #[]
  staticTypes := #[]
  resolved := Array.replicate 22 none
  statics := none }

def pool8 : Array CpInfo := pool [(1, .methodref 2 3), (0, .class_ 4), (0, .nameAndType 5 6), (0, u "java/lang/Record"), (0, u "<init>"), (0, u "()V"), (0, .fieldref 8 9), (0, .class_ 10), (0, .nameAndType 11 12), (0, u "com/example/metered_billing/meteredbilling/plan/Term$Unit"), (0, u "most"), (0, u "I"), (13, .fieldref 27 28), (0, .class_ 29), (0, .nameAndType 30 12), (0, u "com/example/metered_billing/meteredbilling/plan/Term"), (0, u "length"), (0, .fieldref 27 32), (0, .nameAndType 33 34), (0, u "unit"), (0, u "Lcom/example/metered_billing/meteredbilling/plan/Term$Unit;"), (7, u "()I"), (5, u "(ILcom/example/metered_billing/meteredbilling/plan/Term$Unit;)V"), (32, .fieldref 8 82), (0, .nameAndType 83 84), (0, u "priceUnit"), (0, u "Lcom/example/metered_billing/meteredbilling/rating/PriceUnit;"), (0, .methodref 86 87), (0, .class_ 88), (0, .nameAndType 89 42), (0, u "com/example/metered_billing/meteredbilling/rating/PriceUnit"), (0, u "userMonths"), (28, u "months")] 59

def k8c0 : Code := { maxStack := 4, maxLocals := 3, code := prog_43_method_1_code, exceptionTable := #[], attributes := #[] }
def k8m0 : Method := { name := "<init>", desc := "(ILcom/example/metered_billing/meteredbilling/plan/Term$Unit;)V", sig := { parameters := [.int, (.object "com/example/metered_billing/meteredbilling/plan/Term$Unit")], returnType := none }, accessFlags := 1, code := some k8c0 }
def k8c1 : Code := { maxStack := 2, maxLocals := 1, code := prog_43_method_5_code, exceptionTable := #[], attributes := #[] }
def k8m1 : Method := { name := "months", desc := "()I", sig := { parameters := [], returnType := some .int }, accessFlags := 1, code := some k8c1 }
/-- com/example/metered_billing/meteredbilling/plan/Term -/
def k8 : Class := { plain "com/example/metered_billing/meteredbilling/plan/Term" (some 7) with
  accessFlags := 49
  interfaces := #[]
  cf := some (fileOf pool8 27 #[.nestMembers #[8]] #[{ accessFlags := 1, nameIndex := 5, descriptorIndex := 48, attributes := #[] }, { accessFlags := 1, nameIndex := 118, descriptorIndex := 42, attributes := #[] }] 49 2 #[] #[{ accessFlags := 18, nameIndex := 30, descriptorIndex := 12, attributes := #[] }, { accessFlags := 18, nameIndex := 33, descriptorIndex := 34, attributes := #[] }])
  fields := #[{ name := "length", type := .int, accessFlags := 18, slot := 0, constantValue := 0 }, { name := "unit", type := (.object "com/example/metered_billing/meteredbilling/plan/Term$Unit"), accessFlags := 18, slot := 1, constantValue := 0 }]
  methods := #[k8m0, k8m1]
  instanceTypes := #[.int, (.object "com/example/metered_billing/meteredbilling/plan/Term$Unit")]
  staticTypes := #[]
  resolved := ((Array.replicate 178 none).setIfInBounds 7 (some (.field 6 4))).setIfInBounds 81 (some (.field 6 3))
  statics := none }

def pool9 : Array CpInfo := pool [(1, .class_ 2), (0, u "com/example/metered_billing/meteredbilling/rating/PriceUnit"), (2, u "CORE_YEAR"), (0, u "Lcom/example/metered_billing/meteredbilling/rating/PriceUnit;"), (2, u "GB_YEAR"), (2, u "PORT_YEAR"), (2, u "GB"), (2, u "CORE_HOUR"), (2, u "HOUR"), (2, u "USER_MONTH"), (2, u "USER_YEAR"), (2, u "$VALUES"), (0, u "[Lcom/example/metered_billing/meteredbilling/rating/PriceUnit;"), (6, .class_ 40), (1, u "java/lang/Enum"), (8, u "id"), (0, u "Ljava/lang/String;"), (2, u "billedUnit"), (0, u "Lcom/example/metered_billing/meteredbilling/meter/BilledUnit;"), (7, u "billedUnitsPerUnit"), (0, u "Ljava/math/BigDecimal;"), (0, .fieldref 1 65), (0, .nameAndType 66 67), (0, u "userMonths"), (0, u "I"), (0, .class_ 69), (0, u "com/example/metered_billing/meteredbilling/rating/PriceUnit$Ratio"), (5, u "ofOneBilled"), (0, u "Lcom/example/metered_billing/meteredbilling/rating/PriceUnit$Ratio;"), (29, u "BY_ID"), (0, u "Ljava/util/Map;"), (112, u "()I")] 39

def k9c0 : Code := { maxStack := 1, maxLocals := 1, code := prog_49_method_9_code, exceptionTable := #[], attributes := #[] }
def k9m0 : Method := { name := "userMonths", desc := "()I", sig := { parameters := [], returnType := some .int }, accessFlags := 1, code := some k9c0 }
/-- com/example/metered_billing/meteredbilling/rating/PriceUnit -/
def k9 : Class := { plain "com/example/metered_billing/meteredbilling/rating/PriceUnit" (some 5) with
  accessFlags := 16433
  interfaces := #[]
  cf := some (fileOf pool9 1 #[.nestMembers #[68]] #[{ accessFlags := 1, nameIndex := 66, descriptorIndex := 220, attributes := #[] }] 16433 38 #[] #[{ accessFlags := 16409, nameIndex := 5, descriptorIndex := 6, attributes := #[] }, { accessFlags := 16409, nameIndex := 9, descriptorIndex := 6, attributes := #[] }, { accessFlags := 16409, nameIndex := 12, descriptorIndex := 6, attributes := #[] }, { accessFlags := 16409, nameIndex := 15, descriptorIndex := 6, attributes := #[] }, { accessFlags := 16409, nameIndex := 18, descriptorIndex := 6, attributes := #[] }, { accessFlags := 16409, nameIndex := 21, descriptorIndex := 6, attributes := #[] }, { accessFlags := 16409, nameIndex := 24, descriptorIndex := 6, attributes := #[] }, { accessFlags := 16409, nameIndex := 27, descriptorIndex := 6, attributes := #[] }, { accessFlags := 26, nameIndex := 106, descriptorIndex := 107, attributes := #[] }, { accessFlags := 18, nameIndex := 49, descriptorIndex := 50, attributes := #[] }, { accessFlags := 18, nameIndex := 53, descriptorIndex := 54, attributes := #[] }, { accessFlags := 18, nameIndex := 62, descriptorIndex := 63, attributes := #[] }, { accessFlags := 18, nameIndex := 66, descriptorIndex := 67, attributes := #[] }, { accessFlags := 18, nameIndex := 75, descriptorIndex := 76, attributes := #[] }, { accessFlags := 4122, nameIndex := 30, descriptorIndex := 31, attributes := #[] }])
  fields := #[{ name := "CORE_YEAR", type := (.object "com/example/metered_billing/meteredbilling/rating/PriceUnit"), accessFlags := 16409, slot := 0, constantValue := 0 }, { name := "GB_YEAR", type := (.object "com/example/metered_billing/meteredbilling/rating/PriceUnit"), accessFlags := 16409, slot := 1, constantValue := 0 }, { name := "PORT_YEAR", type := (.object "com/example/metered_billing/meteredbilling/rating/PriceUnit"), accessFlags := 16409, slot := 2, constantValue := 0 }, { name := "GB", type := (.object "com/example/metered_billing/meteredbilling/rating/PriceUnit"), accessFlags := 16409, slot := 3, constantValue := 0 }, { name := "CORE_HOUR", type := (.object "com/example/metered_billing/meteredbilling/rating/PriceUnit"), accessFlags := 16409, slot := 4, constantValue := 0 }, { name := "HOUR", type := (.object "com/example/metered_billing/meteredbilling/rating/PriceUnit"), accessFlags := 16409, slot := 5, constantValue := 0 }, { name := "USER_MONTH", type := (.object "com/example/metered_billing/meteredbilling/rating/PriceUnit"), accessFlags := 16409, slot := 6, constantValue := 0 }, { name := "USER_YEAR", type := (.object "com/example/metered_billing/meteredbilling/rating/PriceUnit"), accessFlags := 16409, slot := 7, constantValue := 0 }, { name := "BY_ID", type := (.object "java/util/Map"), accessFlags := 26, slot := 8, constantValue := 0 }, { name := "id", type := (.object "java/lang/String"), accessFlags := 18, slot := 3, constantValue := 0 }, { name := "billedUnit", type := (.object "com/example/metered_billing/meteredbilling/meter/BilledUnit"), accessFlags := 18, slot := 4, constantValue := 0 }, { name := "billedUnitsPerUnit", type := (.object "java/math/BigDecimal"), accessFlags := 18, slot := 5, constantValue := 0 }, { name := "userMonths", type := .int, accessFlags := 18, slot := 6, constantValue := 0 }, { name := "ofOneBilled", type := (.object "com/example/metered_billing/meteredbilling/rating/PriceUnit$Ratio"), accessFlags := 18, slot := 7, constantValue := 0 }, { name := "$VALUES", type := (.array (.object "com/example/metered_billing/meteredbilling/rating/PriceUnit")), accessFlags := 4122, slot := 9, constantValue := 0 }]
  methods := #[k9m0]
  instanceTypes := #[(.object "java/lang/String"), .int, .int, (.object "java/lang/String"), (.object "com/example/metered_billing/meteredbilling/meter/BilledUnit"), (.object "java/math/BigDecimal"), .int, (.object "com/example/metered_billing/meteredbilling/rating/PriceUnit$Ratio")]
  staticTypes := #[(.object "com/example/metered_billing/meteredbilling/rating/PriceUnit"), (.object "com/example/metered_billing/meteredbilling/rating/PriceUnit"), (.object "com/example/metered_billing/meteredbilling/rating/PriceUnit"), (.object "com/example/metered_billing/meteredbilling/rating/PriceUnit"), (.object "com/example/metered_billing/meteredbilling/rating/PriceUnit"), (.object "com/example/metered_billing/meteredbilling/rating/PriceUnit"), (.object "com/example/metered_billing/meteredbilling/rating/PriceUnit"), (.object "com/example/metered_billing/meteredbilling/rating/PriceUnit"), (.object "java/util/Map"), (.array (.object "com/example/metered_billing/meteredbilling/rating/PriceUnit"))]
  resolved := Array.replicate 260 none
  statics := some 1 }

def pool10 : Array CpInfo := pool [(1, u "java/lang/Cloneable"), (0, .class_ 1), (0, u "java/lang/Object"), (0, .class_ 3)] 3

/-- java/lang/Cloneable -/
def k10 : Class := { plain "java/lang/Cloneable" (some 0) with
  accessFlags := 1537
  interfaces := #[]
  cf := some (fileOf pool10 2 #[] #[] 1537 4 #[] #[])
  fields := #[]
  methods := #[]
  instanceTypes := #[]
  staticTypes := #[]
  resolved := Array.replicate 8 none
  statics := none }

/-- the primitive byte -/
def k11 : Class := { plain "byte" none with kind := .primitive 'B', accessFlags := 0x411 }
/-- [B -/
def k12 : Class := { plain "[B" (some 0) with kind := .array 11 .byte, interfaces := #[10, 4], accessFlags := 1041 }

/-- the primitive int -/
def k13 : Class := { plain "int" none with kind := .primitive 'I', accessFlags := 0x411 }
/-- [I -/
def k14 : Class := { plain "[I" (some 0) with kind := .array 13 .int, interfaces := #[10, 4], accessFlags := 1041 }

def heap : Heap := #[{ cls := 6, slots := #[.ref 4, .ref 2, .null], vm := .statics 6 },
  { cls := 9, slots := #[.null, .null, .null, .null, .null, .null, .ref 5, .ref 3, .null, .null], vm := .statics 9 },
  { cls := 6, slots := #[.null, .int 0, .int 0, .null, .ref 3, .int 5], vm := .none },
  { cls := 9, slots := #[.null, .int 0, .int 0, .null, .null, .null, .int 12, .null], vm := .none },
  { cls := 6, slots := #[.null, .int 0, .int 0, .null, .ref 5, .int 11], vm := .none },
  { cls := 9, slots := #[.null, .int 0, .int 0, .null, .null, .null, .int 1, .null], vm := .none }]
def classes : Array Class := #[k0, k1, k2, k3, k4, k5, k6, k7, k8, k9, k10, k11, k12, k13, k14]
def interned : List (Array UInt16 × Addr) := []
def slotsUsed : Nat := 41
def theMethod : MethodId := ⟨1, 1⟩
def args0 : Array Value := #[.int 5, .int 3]
def aboutOver (below : List Frame) : State where
  vm := { classes := classes, interned := interned.toArray }
  heap := heap
  slotsUsed := slotsUsed
  threads := #[{ frames := .invoking theMethod args0 :: below }]
def below0 : List Frame := [.native { method := ⟨0, 0⟩, args := #[] }]
def about1 : State := aboutOver below0
def p0 : Program := .bare "" "" ""
def e0 : Env := launch0.env 0 0 0
theorem w_frames : about1.frames = Frame.invoking theMethod args0 :: below0 := rfl
set_option maxRecDepth 65536 in
theorem w_args : argsFit about1.vm theMethod args0 = true := by decide +kernel
set_option maxRecDepth 65536 in
theorem w_heap : heapFits about1 = true := by decide +kernel
set_option maxRecDepth 65536 in
theorem w_runnable : about1.curStatus? = some .runnable := by decide +kernel
set_option maxRecDepth 65536 in
theorem w_alone : about1.alone = true := by decide +kernel
set_option maxRecDepth 65536 in
theorem w_named : about1.methodNamed? x = some theMethod := by decide +kernel
set_option maxRecDepth 65536 in
theorem w_hears : about1.hears theMethod below0 = true := by decide +kernel
set_option maxRecDepth 65536 in
theorem w_ripe : about1.ripe theMethod args0 below0 = true := by decide +kernel
theorem w_running : about1.status = .running := rfl
set_option maxRecDepth 65536 in
theorem w_room : about1.hasRoom e0.platform room_1 = true :=
  launch0.hasRoom_least _ room_1 (by decide +kernel) (by decide +kernel) (by decide +kernel) (by decide +kernel) (by decide +kernel) (by decide +kernel)
theorem allAtoms_all (ts : List Jvm.Cond) (a : Array Jvm.Value) (st : Jvm.State) : (allAtoms ts).before a st = ts.all (fun c => c.before a st) := by
  induction ts with
  | nil => rfl
  | cons c t ih =>
    show (Jvm.Cond.and c (allAtoms t)).before a st = _
    rw [Jvm.Cond.before_and, ih, List.all_cons]
def words1 : List Jvm.Cond := Jvm.Cond.code x code maxLocals ret :: tables_1
/-- a 'code' word, met by the world's own term for the bytes: nothing is compared byte by byte -/
theorem code_word {y : MethodName} {bytes : ByteArray} {mx : Nat} {rt : Option FieldType} {a : Array Value} {s : State} {m : MethodId} {meth : Method} {c : Code} (h1 : s.methodNamed? y = some m) (h2 : s.vm.method? m = some meth) (h3 : meth.code = some c) (h4 : c.code = bytes)
    (h5 : (c.maxLocals == mx && c.exceptionTable.isEmpty && decide (c.maxStack ≤ mostOperands) && decide (meth.sig.returnType = rt) && !meth.locks && decide (parseMethodDescriptor y.desc = some meth.sig)) = true) : (Jvm.Cond.code y bytes mx rt).before a s = true := by
  simp only [Bool.and_eq_true, beq_iff_eq, Bool.not_eq_true', decide_eq_true_eq] at h5
  obtain ⟨⟨⟨⟨⟨g1, g2⟩, g3⟩, g4⟩, g5⟩, g6⟩ := h5
  simp [Cond.before, Cond.holds, Cond.value, h1, h2, h3, h4, g1, g2, g3, g4, g5, g6]
def isCode : Jvm.Cond → Bool
  | .code _ _ _ _ => true
  | _ => false
theorem all_split {L : List Jvm.Cond} {P : Jvm.Cond → Bool} (h1 : L.all (fun c => isCode c || P c) = true) (h2 : ∀ c ∈ L.filter isCode, P c = true) : L.all P = true := by
  refine List.all_eq_true.mpr fun c hc => ?_
  have h := List.all_eq_true.mp h1 c hc
  rcases Bool.eq_false_or_eq_true (isCode c) with hi | hi
  · exact h2 c (List.mem_filter.mpr ⟨hc, hi⟩)
  · simpa [hi] using h
set_option maxRecDepth 65536 in
theorem w_c0 : (Jvm.Cond.code x code maxLocals ret).before args0 about1 = true := code_word (m := ⟨1, 1⟩) (meth := k1m1) (c := k1c1) (by decide +kernel) rfl rfl rfl (by decide +kernel)
set_option maxRecDepth 65536 in
theorem w_c1 : (Jvm.Cond.code ({ cls := "com/example/metered_billing/meteredbilling/plan/Term", name := "<init>", desc := "(ILcom/example/metered_billing/meteredbilling/plan/Term$Unit;)V" } : Jvm.MethodName) prog_43_method_1_code (3 : Nat) (Option.none : Option Jvm.ClassFile.FieldType)).before args0 about1 = true := code_word (m := ⟨8, 0⟩) (meth := k8m0) (c := k8c0) (by decide +kernel) rfl rfl rfl (by decide +kernel)
set_option maxRecDepth 65536 in
theorem w_c2 : (Jvm.Cond.code ({ cls := "java/lang/Record", name := "<init>", desc := "()V" } : Jvm.MethodName) jdk_30_method_1_code (1 : Nat) (Option.none : Option Jvm.ClassFile.FieldType)).before args0 about1 = true := code_word (m := ⟨7, 0⟩) (meth := k7m0) (c := k7c0) (by decide +kernel) rfl rfl rfl (by decide +kernel)
set_option maxRecDepth 65536 in
theorem w_c3 : (Jvm.Cond.code ({ cls := "java/lang/Object", name := "<init>", desc := "()V" } : Jvm.MethodName) object_method_1_code (1 : Nat) (Option.none : Option Jvm.ClassFile.FieldType)).before args0 about1 = true := code_word (m := ⟨0, 0⟩) (meth := k0m0) (c := k0c0) (by decide +kernel) rfl rfl rfl (by decide +kernel)
set_option maxRecDepth 65536 in
theorem w_c4 : (Jvm.Cond.code ({ cls := "com/example/metered_billing/meteredbilling/plan/Term", name := "months", desc := "()I" } : Jvm.MethodName) prog_43_method_5_code (1 : Nat) (Option.some Jvm.ClassFile.FieldType.int)).before args0 about1 = true := code_word (m := ⟨8, 1⟩) (meth := k8m1) (c := k8c1) (by decide +kernel) rfl rfl rfl (by decide +kernel)
set_option maxRecDepth 65536 in
theorem w_c5 : (Jvm.Cond.code ({ cls := "com/example/metered_billing/meteredbilling/rating/PriceUnit", name := "userMonths", desc := "()I" } : Jvm.MethodName) prog_49_method_9_code (1 : Nat) (Option.some Jvm.ClassFile.FieldType.int)).before args0 about1 = true := code_word (m := ⟨9, 0⟩) (meth := k9m0) (c := k9c0) (by decide +kernel) rfl rfl rfl (by decide +kernel)
def codes1 : List Jvm.Cond := [Jvm.Cond.code x code maxLocals ret, Jvm.Cond.code ({ cls := "com/example/metered_billing/meteredbilling/plan/Term", name := "<init>", desc := "(ILcom/example/metered_billing/meteredbilling/plan/Term$Unit;)V" } : Jvm.MethodName) prog_43_method_1_code (3 : Nat) (Option.none : Option Jvm.ClassFile.FieldType), Jvm.Cond.code ({ cls := "java/lang/Record", name := "<init>", desc := "()V" } : Jvm.MethodName) jdk_30_method_1_code (1 : Nat) (Option.none : Option Jvm.ClassFile.FieldType), Jvm.Cond.code ({ cls := "java/lang/Object", name := "<init>", desc := "()V" } : Jvm.MethodName) object_method_1_code (1 : Nat) (Option.none : Option Jvm.ClassFile.FieldType), Jvm.Cond.code ({ cls := "com/example/metered_billing/meteredbilling/plan/Term", name := "months", desc := "()I" } : Jvm.MethodName) prog_43_method_5_code (1 : Nat) (Option.some Jvm.ClassFile.FieldType.int), Jvm.Cond.code ({ cls := "com/example/metered_billing/meteredbilling/rating/PriceUnit", name := "userMonths", desc := "()I" } : Jvm.MethodName) prog_49_method_9_code (1 : Nat) (Option.some Jvm.ClassFile.FieldType.int)]
set_option maxRecDepth 65536 in
theorem codes_eq : words1.filter isCode = codes1 := rfl
theorem w_codes : ∀ c ∈ words1.filter isCode, c.before args0 about1 = true := by
  rw [codes_eq]
  intro c hc
  simp only [codes1, List.mem_cons, List.not_mem_nil, or_false] at hc
  rcases hc with rfl | rfl | rfl | rfl | rfl | rfl
  · exact w_c0
  · exact w_c1
  · exact w_c2
  · exact w_c3
  · exact w_c4
  · exact w_c5
set_option maxRecDepth 65536 in
theorem w_t1 : (words1.take 24).all (fun c => isCode c || c.before args0 about1) = true := by decide +kernel
set_option maxRecDepth 65536 in
theorem w_t2 : (words1.drop 24).all (fun c => isCode c || c.before args0 about1) = true := by decide +kernel
theorem w_tables : (allAtoms (Jvm.Cond.code x code maxLocals ret :: tables_1)).before args0 about1 = true := by
  rw [allAtoms_all]
  show words1.all (fun c => c.before args0 about1) = true
  refine all_split ?_ w_codes
  rw [← List.take_append_drop 24 words1, List.all_append, w_t1, w_t2]
  rfl
set_option maxRecDepth 65536 in
theorem w_case : (Jvm.Cond.and given_1 narrow_1).before args0 about1 = true := by decide +kernel
theorem w_applies : (headSpec (Jvm.Cond.code x code maxLocals ret :: tables_1) room_1).applies x e0.platform about1 = true :=
  (Spec.applies_iff w_frames).mpr ⟨w_running, w_runnable, w_alone, w_named, w_hears, w_ripe, w_room, w_tables⟩
theorem atStart : AtStart classFile x code maxLocals ret World_1 tables_1 room_1 Calls_1 rest_1 Pre_1 launch0 p0 e0 about1 theMethod args0 below0 :=
  ⟨lists_1, trivial, launch0.admits_env _ _ _, launch0.least_env, fairChoices_fair.cas, fairChoices_fair.clock, w_frames, w_args, w_heap, w_applies, trivial, trivial, w_case⟩
end start1
theorem witness_1 : WitnessClaimed_1 := ⟨start1.p0, start1.e0, start1.about1, start1.theMethod, start1.args0, start1.below0, start1.atStart⟩
end Jvm.Pilot.@@N@@
