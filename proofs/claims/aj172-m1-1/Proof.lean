import JvmDerived
import JvmDerived.Pilot.@@N@@Statement
import JvmDerived.Pilot.@@N@@Code
set_option linter.unusedVariables false
set_option linter.unusedSimpArgs false
@@BLOCK:NumsL.lean.txt@@
namespace Jvm.RoadKit
open Sem ClassFile Op Lib Jvm.Stand Jvm.Free Jvm.LawKit
section New
variable {p : Program} {l : Launch} {e : Env} {R : Room} {s : State} {m : MethodId} {args : Array Value} {below : List Frame} {meth : Method} {c : Code} {T : State} {locs : List Loc} {cells slots : Nat}
theorem retI (X : Stand p l e R s m args below meth c T locs cells slots) (hx : p.tables.exec = Jvm.exec) {pc : Nat} {Ls : Array Slot} {z : Int32} {rest : List Value} (hret : meth.sig.returnType = some .int) (hd : decode c.code pc = .ok (.ireturn, 1)) {fs : List Frame}
    (hl : ∀ (f : JFrame) (acts : List Action), f.method = m → f.locked = none → f.entered = [] → (doReturn e (T.setTop f) acts (some (.int z))).1 = T.setFrames fs) : Steps p.tables e below (T.setTop (mkF m pc Ls (.int z :: rest))) (T.setFrames fs) := by
  have hm' : T.vm.method? m = some meth := X.method'
  have hn : narrow .int (.int z) = .int z := rfl
  show Steps p.tables e below (T.setTop { method := m, pc := pc, locals := Ls, stack := _ :: rest, locked := none }) _
  jvm_step X.here [X.here.top, hx, hd, hm', hret, hn]
  first | (intro acts; rw [hl _ acts rfl rfl rfl]) | rw [hl _ _ rfl rfl rfl]
  exact Steps.refl _
end New
end Jvm.RoadKit
namespace Jvm.Pilot.@@N@@
open Jvm Jvm.ClassFile Sem Op Lib Jvm.Free Jvm.Stand Jvm.LawKit Jvm.RoadKit Bundle Jvm.Pilot.@@N@@.Jvm.D
theorem own_ext {h h' h'' : Heap} (A : Ext h h') (B : Ext h' h'') : Ext h h'' := ⟨Nat.le_trans A.1 B.1, fun a c q => B.2 a c (A.2 a c q)⟩
theorem own_fld {args : Array Value} {s : State} {t : Term} {C n d : String} {w : Addr} {k : Int32} (h : (Jvm.Cond.eq (.field t C n d) (.int k)).value args s none s [] = some true) (ev : t.eval args s none [] s = some (.ref w)) : Fld s s.heap w C n d (.int k) := by
  apply Fld.start
  have e := fld_at (C := C) (n := n) (dd := d) ev
  obtain ⟨x, y, e1, e2, k1, k2⟩ := cmp_v (Or.inl h)
  cases (show y = .int k from (Option.some.inj (e2.symm.trans rfl)))
  obtain ⟨z, rfl⟩ := k2
  have q := gotT (Cond.eq_ints e1 e2) h
  rw [← e, e1, q]
theorem own_fldR {args : Array Value} {s : State} {t u : Term} {C n d : String} {w b : Addr} (h : (Jvm.Cond.eq (.field t C n d) u).value args s none s [] = some true) (ev : t.eval args s none [] s = some (.ref w)) (eu : u.eval args s none [] s = some (.ref b)) : Fld s s.heap w C n d (.ref b) := by
  apply Fld.start
  have e := fld_at (C := C) (n := n) (dd := d) ev
  obtain ⟨x, y, e1, e2, k1, k2⟩ := cmp_v (Or.inl h)
  cases e2.symm.trans eu
  have q := gotT (eq_R e1 eu k2.2 rfl) h
  rw [← e, e1, q]
theorem own_ne {Z : State} {h : Heap} {a b : Addr} {C n d : String} {i j : Int32} (F : Fld Z h a C n d (.int i)) (G : Fld Z h b C n d (.int j)) (hn : ¬ (i = j)) : ¬ (a = b) := fun e => by
  subst e
  obtain ⟨c1, f1, k1, i1, g1, p1, p2, -, -, -, -, p7⟩ := F
  obtain ⟨c2, f2, k2, i2, g2, q1, q2, -, -, -, -, q7⟩ := G
  cases p1.symm.trans q1
  cases p2.symm.trans q2
  exact hn (Value.int.inj (Option.some.inj (p7.symm.trans q7)))
theorem own_inj {x y : Int32} (h : x.toInt = y.toInt) : x = y := Int32.toInt_inj.mp h
theorem own_rem (x : Int32) : ((x &&& (2147483647 : Int32)) % (6 : Int32)) = (0 : Int32) ∨ ((x &&& (2147483647 : Int32)) % (6 : Int32)) = (1 : Int32) ∨ ((x &&& (2147483647 : Int32)) % (6 : Int32)) = (2 : Int32) ∨ ((x &&& (2147483647 : Int32)) % (6 : Int32)) = (3 : Int32) ∨ ((x &&& (2147483647 : Int32)) % (6 : Int32)) = (4 : Int32) ∨ ((x &&& (2147483647 : Int32)) % (6 : Int32)) = (5 : Int32) := by
  have e := Jvm.Kit.i32_mask x (2147483647 : Int32) (k := 31) (by decide) (by decide)
  have e2 := Jvm.Kit.i32_rem_nonneg (x := x &&& (2147483647 : Int32)) (y := (6 : Int32)) (by omega)
  have e3 : (6 : Int32).toInt = 6 := by decide
  rw [e3] at e2
  have h : ((x &&& (2147483647 : Int32)) % (6 : Int32)).toInt = 0 ∨ ((x &&& (2147483647 : Int32)) % (6 : Int32)).toInt = 1 ∨ ((x &&& (2147483647 : Int32)) % (6 : Int32)).toInt = 2 ∨ ((x &&& (2147483647 : Int32)) % (6 : Int32)).toInt = 3 ∨ ((x &&& (2147483647 : Int32)) % (6 : Int32)).toInt = 4 ∨ ((x &&& (2147483647 : Int32)) % (6 : Int32)).toInt = 5 := by omega
  rcases h with h | h | h | h | h | h
  · exact Or.inl (own_inj (h.trans (by decide)))
  · exact Or.inr (Or.inl (own_inj (h.trans (by decide))))
  · exact Or.inr (Or.inr (Or.inl (own_inj (h.trans (by decide)))))
  · exact Or.inr (Or.inr (Or.inr (Or.inl (own_inj (h.trans (by decide))))))
  · exact Or.inr (Or.inr (Or.inr (Or.inr (Or.inl (own_inj (h.trans (by decide)))))))
  · exact Or.inr (Or.inr (Or.inr (Or.inr (Or.inr (own_inj (h.trans (by decide)))))))
def World (Z : State) (h : Heap) (w_PERMIT : Addr) (w_INDETERMINATE_P : Addr) (w_DENY : Addr) (w_NOT_APPLICABLE : Addr) (w_INDETERMINATE_D : Addr) (w_INDETERMINATE_DP : Addr) : Prop := Sta Z h "com/example/minos/minos/xacml/Decision" "PERMIT" "Lcom/example/minos/minos/xacml/Decision;" (.ref w_PERMIT) ∧ Exa Z h w_PERMIT "com/example/minos/minos/xacml/Decision" ∧ Sta Z h "com/example/minos/minos/xacml/Decision" "INDETERMINATE_P" "Lcom/example/minos/minos/xacml/Decision;" (.ref w_INDETERMINATE_P) ∧ Exa Z h w_INDETERMINATE_P "com/example/minos/minos/xacml/Decision" ∧ Sta Z h "com/example/minos/minos/xacml/Decision" "DENY" "Lcom/example/minos/minos/xacml/Decision;" (.ref w_DENY) ∧ Exa Z h w_DENY "com/example/minos/minos/xacml/Decision" ∧ Sta Z h "com/example/minos/minos/xacml/Decision" "NOT_APPLICABLE" "Lcom/example/minos/minos/xacml/Decision;" (.ref w_NOT_APPLICABLE) ∧ Exa Z h w_NOT_APPLICABLE "com/example/minos/minos/xacml/Decision" ∧ Sta Z h "com/example/minos/minos/xacml/Decision" "INDETERMINATE_D" "Lcom/example/minos/minos/xacml/Decision;" (.ref w_INDETERMINATE_D) ∧ Exa Z h w_INDETERMINATE_D "com/example/minos/minos/xacml/Decision" ∧ Sta Z h "com/example/minos/minos/xacml/Decision" "INDETERMINATE_DP" "Lcom/example/minos/minos/xacml/Decision;" (.ref w_INDETERMINATE_DP) ∧ Exa Z h w_INDETERMINATE_DP "com/example/minos/minos/xacml/Decision" ∧ Fld Z h w_INDETERMINATE_P "java/lang/Enum" "ordinal" "I" (.int (3 : Int32)) ∧ Fld Z h w_PERMIT "java/lang/Enum" "ordinal" "I" (.int (0 : Int32)) ∧ Fld Z h w_DENY "java/lang/Enum" "ordinal" "I" (.int (1 : Int32)) ∧ Fld Z h w_NOT_APPLICABLE "java/lang/Enum" "ordinal" "I" (.int (2 : Int32)) ∧ Fld Z h w_INDETERMINATE_D "java/lang/Enum" "ordinal" "I" (.int (4 : Int32)) ∧ Fld Z h w_INDETERMINATE_DP "java/lang/Enum" "ordinal" "I" (.int (5 : Int32)) ∧ ¬ (w_PERMIT = w_INDETERMINATE_P) ∧ ¬ (w_PERMIT = w_DENY) ∧ ¬ (w_PERMIT = w_NOT_APPLICABLE) ∧ ¬ (w_PERMIT = w_INDETERMINATE_D) ∧ ¬ (w_PERMIT = w_INDETERMINATE_DP) ∧ ¬ (w_INDETERMINATE_P = w_DENY) ∧ ¬ (w_INDETERMINATE_P = w_NOT_APPLICABLE) ∧ ¬ (w_INDETERMINATE_P = w_INDETERMINATE_D) ∧ ¬ (w_INDETERMINATE_P = w_INDETERMINATE_DP) ∧ ¬ (w_DENY = w_NOT_APPLICABLE) ∧ ¬ (w_DENY = w_INDETERMINATE_D) ∧ ¬ (w_DENY = w_INDETERMINATE_DP) ∧ ¬ (w_NOT_APPLICABLE = w_INDETERMINATE_D) ∧ ¬ (w_NOT_APPLICABLE = w_INDETERMINATE_DP) ∧ ¬ (w_INDETERMINATE_D = w_INDETERMINATE_DP) ∧ True
theorem World.ext {Z : State} {h h' : Heap} {w_PERMIT : Addr} {w_INDETERMINATE_P : Addr} {w_DENY : Addr} {w_NOT_APPLICABLE : Addr} {w_INDETERMINATE_D : Addr} {w_INDETERMINATE_DP : Addr} (E : Ext h h') (W : World Z h w_PERMIT w_INDETERMINATE_P w_DENY w_NOT_APPLICABLE w_INDETERMINATE_D w_INDETERMINATE_DP) : World Z h' w_PERMIT w_INDETERMINATE_P w_DENY w_NOT_APPLICABLE w_INDETERMINATE_D w_INDETERMINATE_DP := by
  obtain ⟨S_w_PERMIT, E_w_PERMIT, S_w_INDETERMINATE_P, E_w_INDETERMINATE_P, S_w_DENY, E_w_DENY, S_w_NOT_APPLICABLE, E_w_NOT_APPLICABLE, S_w_INDETERMINATE_D, E_w_INDETERMINATE_D, S_w_INDETERMINATE_DP, E_w_INDETERMINATE_DP, F_ordinal_w_INDETERMINATE_P, F_ordinal_w_PERMIT, F_ordinal_w_DENY, F_ordinal_w_NOT_APPLICABLE, F_ordinal_w_INDETERMINATE_D, F_ordinal_w_INDETERMINATE_DP, ne_w_PERMIT_w_INDETERMINATE_P, ne_w_PERMIT_w_DENY, ne_w_PERMIT_w_NOT_APPLICABLE, ne_w_PERMIT_w_INDETERMINATE_D, ne_w_PERMIT_w_INDETERMINATE_DP, ne_w_INDETERMINATE_P_w_DENY, ne_w_INDETERMINATE_P_w_NOT_APPLICABLE, ne_w_INDETERMINATE_P_w_INDETERMINATE_D, ne_w_INDETERMINATE_P_w_INDETERMINATE_DP, ne_w_DENY_w_NOT_APPLICABLE, ne_w_DENY_w_INDETERMINATE_D, ne_w_DENY_w_INDETERMINATE_DP, ne_w_NOT_APPLICABLE_w_INDETERMINATE_D, ne_w_NOT_APPLICABLE_w_INDETERMINATE_DP, ne_w_INDETERMINATE_D_w_INDETERMINATE_DP, -⟩ := W
  exact ⟨S_w_PERMIT.ext E, E_w_PERMIT.ext E, S_w_INDETERMINATE_P.ext E, E_w_INDETERMINATE_P.ext E, S_w_DENY.ext E, E_w_DENY.ext E, S_w_NOT_APPLICABLE.ext E, E_w_NOT_APPLICABLE.ext E, S_w_INDETERMINATE_D.ext E, E_w_INDETERMINATE_D.ext E, S_w_INDETERMINATE_DP.ext E, E_w_INDETERMINATE_DP.ext E, F_ordinal_w_INDETERMINATE_P.ext E, F_ordinal_w_PERMIT.ext E, F_ordinal_w_DENY.ext E, F_ordinal_w_NOT_APPLICABLE.ext E, F_ordinal_w_INDETERMINATE_D.ext E, F_ordinal_w_INDETERMINATE_DP.ext E, ne_w_PERMIT_w_INDETERMINATE_P, ne_w_PERMIT_w_DENY, ne_w_PERMIT_w_NOT_APPLICABLE, ne_w_PERMIT_w_INDETERMINATE_D, ne_w_PERMIT_w_INDETERMINATE_DP, ne_w_INDETERMINATE_P_w_DENY, ne_w_INDETERMINATE_P_w_NOT_APPLICABLE, ne_w_INDETERMINATE_P_w_INDETERMINATE_D, ne_w_INDETERMINATE_P_w_INDETERMINATE_DP, ne_w_DENY_w_NOT_APPLICABLE, ne_w_DENY_w_INDETERMINATE_D, ne_w_DENY_w_INDETERMINATE_DP, ne_w_NOT_APPLICABLE_w_INDETERMINATE_D, ne_w_NOT_APPLICABLE_w_INDETERMINATE_DP, ne_w_INDETERMINATE_D_w_INDETERMINATE_DP, trivial⟩
theorem d1_0 : decode method_2_code 0 = .ok (.iload_n 0, 1) := by decide +kernel
theorem d1_1 : decode method_2_code 1 = .ok (.ifCond .ne 7, 3) := by decide +kernel
theorem d1_4 : decode method_2_code 4 = .ok (.getstatic 7, 3) := by decide +kernel
theorem d1_7 : decode method_2_code 7 = .ok (.areturn, 1) := by decide +kernel
theorem ef5 (m : MethodId) (x0 : Int32) : entryFrame m #[(.int x0)] 1 = mkF m 0 #[.val (.int x0)] [] := by first | (simp [entryFrame, mkF, argsToLocals, Value.category]; done) | rfl
theorem pn6 : plainName "com/example/minos/minos/xacml/DecisionUnderIndeterminateTargetPinLaw" = true := by first | (simp [plainName, overriddenIn]; done) | decide +kernel
def Q1_0 (Z : State) (w_PERMIT : Addr) (w_INDETERMINATE_P : Addr) (w_DENY : Addr) (w_NOT_APPLICABLE : Addr) (w_INDETERMINATE_D : Addr) (w_INDETERMINATE_DP : Addr) (h0 : Heap) (n0 : Nat) (v : Option Value) (h : Heap) (L : List Loc) : Prop := v = some (.ref w_PERMIT) ∧ Fr n0 L ∧ h = h0
set_option maxRecDepth 65536 in
set_option maxHeartbeats 40000000 in
theorem rm1_0 (l : Launch) (Z : State) (a0 : Array Value) (hw : ∀ d ∈ tables_1, d.before a0 Z = true) (ws : List Jvm.Cond) (w_PERMIT : Addr) (w_INDETERMINATE_P : Addr) (w_DENY : Addr) (w_NOT_APPLICABLE : Addr) (w_INDETERMINATE_D : Addr) (w_INDETERMINATE_DP : Addr) (h0 : Heap) (n0 : Nat) (Z0 : n0 ≤ h0.size) (HW : World Z h0 w_PERMIT w_INDETERMINATE_P w_DENY w_NOT_APPLICABLE w_INDETERMINATE_D w_INDETERMINATE_DP) :
    MetFree l (⟨"com/example/minos/minos/xacml/DecisionUnderIndeterminateTargetPinLaw", "pick", "(I)Lcom/example/minos/minos/xacml/Decision;"⟩ : MethodName) (head1 (Jvm.Cond.code (⟨"com/example/minos/minos/xacml/DecisionUnderIndeterminateTargetPinLaw", "pick", "(I)Lcom/example/minos/minos/xacml/Decision;"⟩ : MethodName) method_2_code 1 (some (.object "com/example/minos/minos/xacml/Decision")) :: ws) ({ frames := 0, cells := 0, slots := 0, locals := 0 } : Room)) (fun a U => a = #[(.int (0 : Int32))] ∧ Z.Warmed39 U.vm ∧ U.heap = h0) (fun _ _ _ _ _ => True) (fun _ U o U' => ∃ v L, o = .returned v ∧ Q1_0 Z w_PERMIT w_INDETERMINATE_P w_DENY w_NOT_APPLICABLE w_INDETERMINATE_D w_INDETERMINATE_DP h0 n0 v U'.heap L ∧ FrameEnd U o U' L ({ frames := 0, cells := 0, slots := 0, locals := 0 } : Room).cells ({ frames := 0, cells := 0, slots := 0, locals := 0 } : Room).slots) := by
  refine MetFree.of_bodySF (plainFor_of_name pn6) hisR ?_
  intro p e s m args below meth c s₁ Bd hml0 hP hK
  obtain ⟨rfl, hZ, hh⟩ := hP
  have hx := Bd.exec
  have hby := Bd.bytes
  have hml : c.maxLocals = 1 := hml0
  have hown : s.vm.findClass "com/example/minos/minos/xacml/DecisionUnderIndeterminateTargetPinLaw" = some m.cls := findClass_of_methodNamed Bd.named
  have X0 : Stand p l e ({ frames := 0, cells := 0, slots := 0, locals := 0 } : Room) s m #[(.int (0 : Int32))] below meth c s₁ [] 0 0 := Stand.of_body Bd
  have e0 : s₁.heap = h0 := by rw [← hh, Bd.state]; rfl
  have N0 := Fr.nil n0
  have pre0 : ∀ t, Steps p.tables e below (s₁.setTop (mkF m 0 #[.val (.int (0 : Int32))] [])) t → Steps p.tables e below (s₁.setTop (entryFrame m #[(.int (0 : Int32))] 1)) t := fun t k => castTop (ef5 m (0 : Int32)) k
  obtain ⟨S_w_PERMIT, E_w_PERMIT, S_w_INDETERMINATE_P, E_w_INDETERMINATE_P, S_w_DENY, E_w_DENY, S_w_NOT_APPLICABLE, E_w_NOT_APPLICABLE, S_w_INDETERMINATE_D, E_w_INDETERMINATE_D, S_w_INDETERMINATE_DP, E_w_INDETERMINATE_DP, F_ordinal_w_INDETERMINATE_P, F_ordinal_w_PERMIT, F_ordinal_w_DENY, F_ordinal_w_NOT_APPLICABLE, F_ordinal_w_INDETERMINATE_D, F_ordinal_w_INDETERMINATE_DP, ne_w_PERMIT_w_INDETERMINATE_P, ne_w_PERMIT_w_DENY, ne_w_PERMIT_w_NOT_APPLICABLE, ne_w_PERMIT_w_INDETERMINATE_D, ne_w_PERMIT_w_INDETERMINATE_DP, ne_w_INDETERMINATE_P_w_DENY, ne_w_INDETERMINATE_P_w_NOT_APPLICABLE, ne_w_INDETERMINATE_P_w_INDETERMINATE_D, ne_w_INDETERMINATE_P_w_INDETERMINATE_DP, ne_w_DENY_w_NOT_APPLICABLE, ne_w_DENY_w_INDETERMINATE_D, ne_w_DENY_w_INDETERMINATE_DP, ne_w_NOT_APPLICABLE_w_INDETERMINATE_D, ne_w_NOT_APPLICABLE_w_INDETERMINATE_DP, ne_w_INDETERMINATE_D_w_INDETERMINATE_DP, -⟩ := id HW
  obtain ⟨T1, X1, e1, st1⟩ := getS2 X0 hx hZ hown (host := "") (Or.inl (hw _ (List.mem_of_getElem? (i := 5) rfl))) Via.refl e0 S_w_PERMIT (g := (mkF m 4 #[.val (.int (0 : Int32))] [])) rfl (hb hby d1_4)
  obtain ⟨fs, hr, hrun, hended, hW, hsame⟩ := X1.leave (v := some (.ref w_PERMIT)) (fun h => by rw [Bd.returns] at h; cases h)
  refine ⟨_, _, pre0 _ ?_, hrun, hended, _, _, rfl, ?_, ⟨_, rfl⟩, hW, hsame.mono (by decide) (by decide)⟩
  · show Steps p.tables e below (s₁.setTop (mkF m 0 #[.val (.int (0 : Int32))] [])) _
    refine XS.iloadN X0.here hx rfl (hb hby d1_0) rfl ?_
    show Steps p.tables e below (s₁.setTop (mkF m 1 #[.val (.int (0 : Int32))] [(.int (0 : Int32))])) _
    refine XS.ifNo X0.here hx rfl (hb hby d1_1) rfl ((if0 _ _).trans (teq (by decide : (0 : Int32) = (0 : Int32))).2) ?_
    show Steps p.tables e below (s₁.setTop (mkF m 4 #[.val (.int (0 : Int32))] [])) _
    refine st1 _ ?_
    show Steps p.tables e below (T1.setTop (mkF m 7 #[.val (.int (0 : Int32))] [(.ref w_PERMIT)])) _
    jvm_step X1.here [X1.here.top, hx, (hb hby d1_7), X1.method', Bd.returns, Value.isRef, FieldType.isReference]
    first | (intro acts; rw [hr _ acts rfl rfl rfl]) | rw [hr _ _ rfl rfl rfl]
    exact Steps.refl _
  · exact ⟨rfl, N0, e1⟩
theorem pd7 : parseMethodDescriptor "(I)Lcom/example/minos/minos/xacml/Decision;" = some ⟨[.int], some (.object "com/example/minos/minos/xacml/Decision")⟩ := by decide +kernel
theorem d2_0 : decode prog_55_method_5_code 0 = .ok (.aload_n 0, 1) := by decide +kernel
theorem d2_1 : decode prog_55_method_5_code 1 = .ok (.getstatic 3, 3) := by decide +kernel
theorem d2_4 : decode prog_55_method_5_code 4 = .ok (.if_acmp .ne 10, 3) := by decide +kernel
theorem d2_7 : decode prog_55_method_5_code 7 = .ok (.getstatic 13, 3) := by decide +kernel
theorem d2_10 : decode prog_55_method_5_code 10 = .ok (.astore_n 1, 1) := by decide +kernel
theorem d2_11 : decode prog_55_method_5_code 11 = .ok (.goto 19, 3) := by decide +kernel
theorem d2_30 : decode prog_55_method_5_code 30 = .ok (.aload_n 1, 1) := by decide +kernel
theorem d2_31 : decode prog_55_method_5_code 31 = .ok (.areturn, 1) := by decide +kernel
theorem ef17 (m : MethodId) (x0 : Addr) : entryFrame m #[(.ref x0)] 2 = mkF m 0 #[.val (.ref x0), .unset] [] := by first | (simp [entryFrame, mkF, argsToLocals, Value.category]; done) | rfl
theorem pn18 : plainName "com/example/minos/minos/xacml/Decision" = true := by first | (simp [plainName, overriddenIn]; done) | decide +kernel
def Q2_1 (Z : State) (w_PERMIT : Addr) (w_INDETERMINATE_P : Addr) (w_DENY : Addr) (w_NOT_APPLICABLE : Addr) (w_INDETERMINATE_D : Addr) (w_INDETERMINATE_DP : Addr) (h0 : Heap) (n0 : Nat) (v : Option Value) (h : Heap) (L : List Loc) : Prop := v = some (.ref w_INDETERMINATE_P) ∧ Fr n0 L ∧ h = h0
set_option maxRecDepth 65536 in
set_option maxHeartbeats 40000000 in
theorem rm2_1 (l : Launch) (Z : State) (a0 : Array Value) (hw : ∀ d ∈ tables_1, d.before a0 Z = true) (ws : List Jvm.Cond) (w_PERMIT : Addr) (w_INDETERMINATE_P : Addr) (w_DENY : Addr) (w_NOT_APPLICABLE : Addr) (w_INDETERMINATE_D : Addr) (w_INDETERMINATE_DP : Addr) (h0 : Heap) (n0 : Nat) (Z0 : n0 ≤ h0.size) (HW : World Z h0 w_PERMIT w_INDETERMINATE_P w_DENY w_NOT_APPLICABLE w_INDETERMINATE_D w_INDETERMINATE_DP) :
    MetFree l (⟨"com/example/minos/minos/xacml/Decision", "underIndeterminateTarget", "()Lcom/example/minos/minos/xacml/Decision;"⟩ : MethodName) (head1 (Jvm.Cond.code (⟨"com/example/minos/minos/xacml/Decision", "underIndeterminateTarget", "()Lcom/example/minos/minos/xacml/Decision;"⟩ : MethodName) prog_55_method_5_code 2 (some (.object "com/example/minos/minos/xacml/Decision")) :: ws) ({ frames := 0, cells := 0, slots := 0, locals := 0 } : Room)) (fun a U => a = #[(.ref w_PERMIT)] ∧ Z.Warmed39 U.vm ∧ U.heap = h0) (fun _ _ _ _ _ => True) (fun _ U o U' => ∃ v L, o = .returned v ∧ Q2_1 Z w_PERMIT w_INDETERMINATE_P w_DENY w_NOT_APPLICABLE w_INDETERMINATE_D w_INDETERMINATE_DP h0 n0 v U'.heap L ∧ FrameEnd U o U' L ({ frames := 0, cells := 0, slots := 0, locals := 0 } : Room).cells ({ frames := 0, cells := 0, slots := 0, locals := 0 } : Room).slots) := by
  refine MetFree.of_bodySF (plainFor_of_name pn18) hisR ?_
  intro p e s m args below meth c s₁ Bd hml0 hP hK
  obtain ⟨rfl, hZ, hh⟩ := hP
  have hx := Bd.exec
  have hby := Bd.bytes
  have hml : c.maxLocals = 2 := hml0
  have hown : s.vm.findClass "com/example/minos/minos/xacml/Decision" = some m.cls := findClass_of_methodNamed Bd.named
  have X0 : Stand p l e ({ frames := 0, cells := 0, slots := 0, locals := 0 } : Room) s m #[(.ref w_PERMIT)] below meth c s₁ [] 0 0 := Stand.of_body Bd
  have e0 : s₁.heap = h0 := by rw [← hh, Bd.state]; rfl
  have N0 := Fr.nil n0
  have pre0 : ∀ t, Steps p.tables e below (s₁.setTop (mkF m 0 #[.val (.ref w_PERMIT), .unset] [])) t → Steps p.tables e below (s₁.setTop (entryFrame m #[(.ref w_PERMIT)] 2)) t := fun t k => castTop (ef17 m w_PERMIT) k
  obtain ⟨S_w_PERMIT, E_w_PERMIT, S_w_INDETERMINATE_P, E_w_INDETERMINATE_P, S_w_DENY, E_w_DENY, S_w_NOT_APPLICABLE, E_w_NOT_APPLICABLE, S_w_INDETERMINATE_D, E_w_INDETERMINATE_D, S_w_INDETERMINATE_DP, E_w_INDETERMINATE_DP, F_ordinal_w_INDETERMINATE_P, F_ordinal_w_PERMIT, F_ordinal_w_DENY, F_ordinal_w_NOT_APPLICABLE, F_ordinal_w_INDETERMINATE_D, F_ordinal_w_INDETERMINATE_DP, ne_w_PERMIT_w_INDETERMINATE_P, ne_w_PERMIT_w_DENY, ne_w_PERMIT_w_NOT_APPLICABLE, ne_w_PERMIT_w_INDETERMINATE_D, ne_w_PERMIT_w_INDETERMINATE_DP, ne_w_INDETERMINATE_P_w_DENY, ne_w_INDETERMINATE_P_w_NOT_APPLICABLE, ne_w_INDETERMINATE_P_w_INDETERMINATE_D, ne_w_INDETERMINATE_P_w_INDETERMINATE_DP, ne_w_DENY_w_NOT_APPLICABLE, ne_w_DENY_w_INDETERMINATE_D, ne_w_DENY_w_INDETERMINATE_DP, ne_w_NOT_APPLICABLE_w_INDETERMINATE_D, ne_w_NOT_APPLICABLE_w_INDETERMINATE_DP, ne_w_INDETERMINATE_D_w_INDETERMINATE_DP, -⟩ := id HW
  obtain ⟨T1, X1, e1, st1⟩ := getS2 X0 hx hZ hown (host := "") (Or.inl (hw _ (List.mem_of_getElem? (i := 13) rfl))) Via.refl e0 S_w_PERMIT (g := (mkF m 1 #[.val (.ref w_PERMIT), .unset] [(.ref w_PERMIT)])) rfl (hb hby d2_1)
  obtain ⟨T2, X2, e2, st2⟩ := getS2 X1 hx hZ hown (host := "") (Or.inl (hw _ (List.mem_of_getElem? (i := 14) rfl))) Via.refl e1 S_w_INDETERMINATE_P (g := (mkF m 7 #[.val (.ref w_PERMIT), .unset] [])) rfl (hb hby d2_7)
  obtain ⟨fs, hr, hrun, hended, hW, hsame⟩ := X2.leave (v := some (.ref w_INDETERMINATE_P)) (fun h => by rw [Bd.returns] at h; cases h)
  refine ⟨_, _, pre0 _ ?_, hrun, hended, _, _, rfl, ?_, ⟨_, rfl⟩, hW, hsame.mono (by decide) (by decide)⟩
  · show Steps p.tables e below (s₁.setTop (mkF m 0 #[.val (.ref w_PERMIT), .unset] [])) _
    refine XS.aloadN X0.here hx rfl (hb hby d2_0) rfl rfl ?_
    show Steps p.tables e below (s₁.setTop (mkF m 1 #[.val (.ref w_PERMIT), .unset] [(.ref w_PERMIT)])) _
    refine st1 _ ?_
    show Steps p.tables e below (T1.setTop (mkF m 4 #[.val (.ref w_PERMIT), .unset] [(.ref w_PERMIT), (.ref w_PERMIT)])) _
    refine Jvm.RoadKit.acmp (g := (mkF m 4 #[.val (.ref w_PERMIT), .unset] [(.ref w_PERMIT), (.ref w_PERMIT)])) X1 hx rfl rfl rfl (pc0 := 4) (pc' := 7) (same := true) rfl (hb hby d2_4) rfl (decide_eq_true rfl) (by decide) (by decide) ?_
    show Steps p.tables e below (T1.setTop (mkF m 7 #[.val (.ref w_PERMIT), .unset] [])) _
    refine st2 _ ?_
    show Steps p.tables e below (T2.setTop (mkF m 10 #[.val (.ref w_PERMIT), .unset] [(.ref w_INDETERMINATE_P)])) _
    refine XS.astoreN X2.here hx rfl (hb hby d2_10) rfl rfl (l' := #[.val (.ref w_PERMIT), .val (.ref w_INDETERMINATE_P)]) rfl ?_
    show Steps p.tables e below (T2.setTop (mkF m 11 #[.val (.ref w_PERMIT), .val (.ref w_INDETERMINATE_P)] [])) _
    refine XS.goto X2.here hx rfl (pc0 := 11) (pc' := 30) rfl (hb hby d2_11) (by decide) (by decide) ?_
    show Steps p.tables e below (T2.setTop (mkF m 30 #[.val (.ref w_PERMIT), .val (.ref w_INDETERMINATE_P)] [])) _
    refine XS.aloadN X2.here hx rfl (hb hby d2_30) rfl rfl ?_
    show Steps p.tables e below (T2.setTop (mkF m 31 #[.val (.ref w_PERMIT), .val (.ref w_INDETERMINATE_P)] [(.ref w_INDETERMINATE_P)])) _
    jvm_step X2.here [X2.here.top, hx, (hb hby d2_31), X2.method', Bd.returns, Value.isRef, FieldType.isReference]
    first | (intro acts; rw [hr _ acts rfl rfl rfl]) | rw [hr _ _ rfl rfl rfl]
    exact Steps.refl _
  · exact ⟨rfl, N0, e2⟩
theorem pd19 : parseMethodDescriptor "()Lcom/example/minos/minos/xacml/Decision;" = some ⟨[], some (.object "com/example/minos/minos/xacml/Decision")⟩ := by decide +kernel
theorem d3_0 : decode method_3_code 0 = .ok (.iload_n 0, 1) := by decide +kernel
theorem d3_1 : decode method_3_code 1 = .ok (.ifCond .ne 7, 3) := by decide +kernel
theorem d3_4 : decode method_3_code 4 = .ok (.getstatic 19, 3) := by decide +kernel
theorem d3_7 : decode method_3_code 7 = .ok (.areturn, 1) := by decide +kernel
theorem ef25 (m : MethodId) (x0 : Int32) : entryFrame m #[(.int x0)] 1 = mkF m 0 #[.val (.int x0)] [] := by first | (simp [entryFrame, mkF, argsToLocals, Value.category]; done) | rfl
def Q3_2 (Z : State) (w_PERMIT : Addr) (w_INDETERMINATE_P : Addr) (w_DENY : Addr) (w_NOT_APPLICABLE : Addr) (w_INDETERMINATE_D : Addr) (w_INDETERMINATE_DP : Addr) (h0 : Heap) (n0 : Nat) (v : Option Value) (h : Heap) (L : List Loc) : Prop := v = some (.ref w_INDETERMINATE_P) ∧ Fr n0 L ∧ h = h0
set_option maxRecDepth 65536 in
set_option maxHeartbeats 40000000 in
theorem rm3_2 (l : Launch) (Z : State) (a0 : Array Value) (hw : ∀ d ∈ tables_1, d.before a0 Z = true) (ws : List Jvm.Cond) (w_PERMIT : Addr) (w_INDETERMINATE_P : Addr) (w_DENY : Addr) (w_NOT_APPLICABLE : Addr) (w_INDETERMINATE_D : Addr) (w_INDETERMINATE_DP : Addr) (h0 : Heap) (n0 : Nat) (Z0 : n0 ≤ h0.size) (HW : World Z h0 w_PERMIT w_INDETERMINATE_P w_DENY w_NOT_APPLICABLE w_INDETERMINATE_D w_INDETERMINATE_DP) :
    MetFree l (⟨"com/example/minos/minos/xacml/DecisionUnderIndeterminateTargetPinLaw", "expected", "(I)Lcom/example/minos/minos/xacml/Decision;"⟩ : MethodName) (head1 (Jvm.Cond.code (⟨"com/example/minos/minos/xacml/DecisionUnderIndeterminateTargetPinLaw", "expected", "(I)Lcom/example/minos/minos/xacml/Decision;"⟩ : MethodName) method_3_code 1 (some (.object "com/example/minos/minos/xacml/Decision")) :: ws) ({ frames := 0, cells := 0, slots := 0, locals := 0 } : Room)) (fun a U => a = #[(.int (0 : Int32))] ∧ Z.Warmed39 U.vm ∧ U.heap = h0) (fun _ _ _ _ _ => True) (fun _ U o U' => ∃ v L, o = .returned v ∧ Q3_2 Z w_PERMIT w_INDETERMINATE_P w_DENY w_NOT_APPLICABLE w_INDETERMINATE_D w_INDETERMINATE_DP h0 n0 v U'.heap L ∧ FrameEnd U o U' L ({ frames := 0, cells := 0, slots := 0, locals := 0 } : Room).cells ({ frames := 0, cells := 0, slots := 0, locals := 0 } : Room).slots) := by
  refine MetFree.of_bodySF (plainFor_of_name pn6) hisR ?_
  intro p e s m args below meth c s₁ Bd hml0 hP hK
  obtain ⟨rfl, hZ, hh⟩ := hP
  have hx := Bd.exec
  have hby := Bd.bytes
  have hml : c.maxLocals = 1 := hml0
  have hown : s.vm.findClass "com/example/minos/minos/xacml/DecisionUnderIndeterminateTargetPinLaw" = some m.cls := findClass_of_methodNamed Bd.named
  have X0 : Stand p l e ({ frames := 0, cells := 0, slots := 0, locals := 0 } : Room) s m #[(.int (0 : Int32))] below meth c s₁ [] 0 0 := Stand.of_body Bd
  have e0 : s₁.heap = h0 := by rw [← hh, Bd.state]; rfl
  have N0 := Fr.nil n0
  have pre0 : ∀ t, Steps p.tables e below (s₁.setTop (mkF m 0 #[.val (.int (0 : Int32))] [])) t → Steps p.tables e below (s₁.setTop (entryFrame m #[(.int (0 : Int32))] 1)) t := fun t k => castTop (ef25 m (0 : Int32)) k
  obtain ⟨S_w_PERMIT, E_w_PERMIT, S_w_INDETERMINATE_P, E_w_INDETERMINATE_P, S_w_DENY, E_w_DENY, S_w_NOT_APPLICABLE, E_w_NOT_APPLICABLE, S_w_INDETERMINATE_D, E_w_INDETERMINATE_D, S_w_INDETERMINATE_DP, E_w_INDETERMINATE_DP, F_ordinal_w_INDETERMINATE_P, F_ordinal_w_PERMIT, F_ordinal_w_DENY, F_ordinal_w_NOT_APPLICABLE, F_ordinal_w_INDETERMINATE_D, F_ordinal_w_INDETERMINATE_DP, ne_w_PERMIT_w_INDETERMINATE_P, ne_w_PERMIT_w_DENY, ne_w_PERMIT_w_NOT_APPLICABLE, ne_w_PERMIT_w_INDETERMINATE_D, ne_w_PERMIT_w_INDETERMINATE_DP, ne_w_INDETERMINATE_P_w_DENY, ne_w_INDETERMINATE_P_w_NOT_APPLICABLE, ne_w_INDETERMINATE_P_w_INDETERMINATE_D, ne_w_INDETERMINATE_P_w_INDETERMINATE_DP, ne_w_DENY_w_NOT_APPLICABLE, ne_w_DENY_w_INDETERMINATE_D, ne_w_DENY_w_INDETERMINATE_DP, ne_w_NOT_APPLICABLE_w_INDETERMINATE_D, ne_w_NOT_APPLICABLE_w_INDETERMINATE_DP, ne_w_INDETERMINATE_D_w_INDETERMINATE_DP, -⟩ := id HW
  obtain ⟨T1, X1, e1, st1⟩ := getS2 X0 hx hZ hown (host := "") (Or.inl (hw _ (List.mem_of_getElem? (i := 19) rfl))) Via.refl e0 S_w_INDETERMINATE_P (g := (mkF m 4 #[.val (.int (0 : Int32))] [])) rfl (hb hby d3_4)
  obtain ⟨fs, hr, hrun, hended, hW, hsame⟩ := X1.leave (v := some (.ref w_INDETERMINATE_P)) (fun h => by rw [Bd.returns] at h; cases h)
  refine ⟨_, _, pre0 _ ?_, hrun, hended, _, _, rfl, ?_, ⟨_, rfl⟩, hW, hsame.mono (by decide) (by decide)⟩
  · show Steps p.tables e below (s₁.setTop (mkF m 0 #[.val (.int (0 : Int32))] [])) _
    refine XS.iloadN X0.here hx rfl (hb hby d3_0) rfl ?_
    show Steps p.tables e below (s₁.setTop (mkF m 1 #[.val (.int (0 : Int32))] [(.int (0 : Int32))])) _
    refine XS.ifNo X0.here hx rfl (hb hby d3_1) rfl ((if0 _ _).trans (teq (by decide : (0 : Int32) = (0 : Int32))).2) ?_
    show Steps p.tables e below (s₁.setTop (mkF m 4 #[.val (.int (0 : Int32))] [])) _
    refine st1 _ ?_
    show Steps p.tables e below (T1.setTop (mkF m 7 #[.val (.int (0 : Int32))] [(.ref w_INDETERMINATE_P)])) _
    jvm_step X1.here [X1.here.top, hx, (hb hby d3_7), X1.method', Bd.returns, Value.isRef, FieldType.isReference]
    first | (intro acts; rw [hr _ acts rfl rfl rfl]) | rw [hr _ _ rfl rfl rfl]
    exact Steps.refl _
  · exact ⟨rfl, N0, e1⟩
theorem d2_14 : decode prog_55_method_5_code 14 = .ok (.aload_n 0, 1) := by decide +kernel
theorem d2_15 : decode prog_55_method_5_code 15 = .ok (.getstatic 7, 3) := by decide +kernel
theorem d2_18 : decode prog_55_method_5_code 18 = .ok (.if_acmp .ne 10, 3) := by decide +kernel
theorem d2_28 : decode prog_55_method_5_code 28 = .ok (.aload_n 0, 1) := by decide +kernel
theorem d2_29 : decode prog_55_method_5_code 29 = .ok (.astore_n 1, 1) := by decide +kernel
def Q2_3 (Z : State) (w_PERMIT : Addr) (w_INDETERMINATE_P : Addr) (w_DENY : Addr) (w_NOT_APPLICABLE : Addr) (w_INDETERMINATE_D : Addr) (w_INDETERMINATE_DP : Addr) (h0 : Heap) (n0 : Nat) (v : Option Value) (h : Heap) (L : List Loc) : Prop := v = some (.ref w_INDETERMINATE_P) ∧ Fr n0 L ∧ h = h0
set_option maxRecDepth 65536 in
set_option maxHeartbeats 40000000 in
theorem rm2_3 (l : Launch) (Z : State) (a0 : Array Value) (hw : ∀ d ∈ tables_1, d.before a0 Z = true) (ws : List Jvm.Cond) (w_PERMIT : Addr) (w_INDETERMINATE_P : Addr) (w_DENY : Addr) (w_NOT_APPLICABLE : Addr) (w_INDETERMINATE_D : Addr) (w_INDETERMINATE_DP : Addr) (h0 : Heap) (n0 : Nat) (Z0 : n0 ≤ h0.size) (HW : World Z h0 w_PERMIT w_INDETERMINATE_P w_DENY w_NOT_APPLICABLE w_INDETERMINATE_D w_INDETERMINATE_DP) :
    MetFree l (⟨"com/example/minos/minos/xacml/Decision", "underIndeterminateTarget", "()Lcom/example/minos/minos/xacml/Decision;"⟩ : MethodName) (head1 (Jvm.Cond.code (⟨"com/example/minos/minos/xacml/Decision", "underIndeterminateTarget", "()Lcom/example/minos/minos/xacml/Decision;"⟩ : MethodName) prog_55_method_5_code 2 (some (.object "com/example/minos/minos/xacml/Decision")) :: ws) ({ frames := 0, cells := 0, slots := 0, locals := 0 } : Room)) (fun a U => a = #[(.ref w_INDETERMINATE_P)] ∧ Z.Warmed39 U.vm ∧ U.heap = h0) (fun _ _ _ _ _ => True) (fun _ U o U' => ∃ v L, o = .returned v ∧ Q2_3 Z w_PERMIT w_INDETERMINATE_P w_DENY w_NOT_APPLICABLE w_INDETERMINATE_D w_INDETERMINATE_DP h0 n0 v U'.heap L ∧ FrameEnd U o U' L ({ frames := 0, cells := 0, slots := 0, locals := 0 } : Room).cells ({ frames := 0, cells := 0, slots := 0, locals := 0 } : Room).slots) := by
  refine MetFree.of_bodySF (plainFor_of_name pn18) hisR ?_
  intro p e s m args below meth c s₁ Bd hml0 hP hK
  obtain ⟨rfl, hZ, hh⟩ := hP
  have hx := Bd.exec
  have hby := Bd.bytes
  have hml : c.maxLocals = 2 := hml0
  have hown : s.vm.findClass "com/example/minos/minos/xacml/Decision" = some m.cls := findClass_of_methodNamed Bd.named
  have X0 : Stand p l e ({ frames := 0, cells := 0, slots := 0, locals := 0 } : Room) s m #[(.ref w_INDETERMINATE_P)] below meth c s₁ [] 0 0 := Stand.of_body Bd
  have e0 : s₁.heap = h0 := by rw [← hh, Bd.state]; rfl
  have N0 := Fr.nil n0
  have pre0 : ∀ t, Steps p.tables e below (s₁.setTop (mkF m 0 #[.val (.ref w_INDETERMINATE_P), .unset] [])) t → Steps p.tables e below (s₁.setTop (entryFrame m #[(.ref w_INDETERMINATE_P)] 2)) t := fun t k => castTop (ef17 m w_INDETERMINATE_P) k
  obtain ⟨S_w_PERMIT, E_w_PERMIT, S_w_INDETERMINATE_P, E_w_INDETERMINATE_P, S_w_DENY, E_w_DENY, S_w_NOT_APPLICABLE, E_w_NOT_APPLICABLE, S_w_INDETERMINATE_D, E_w_INDETERMINATE_D, S_w_INDETERMINATE_DP, E_w_INDETERMINATE_DP, F_ordinal_w_INDETERMINATE_P, F_ordinal_w_PERMIT, F_ordinal_w_DENY, F_ordinal_w_NOT_APPLICABLE, F_ordinal_w_INDETERMINATE_D, F_ordinal_w_INDETERMINATE_DP, ne_w_PERMIT_w_INDETERMINATE_P, ne_w_PERMIT_w_DENY, ne_w_PERMIT_w_NOT_APPLICABLE, ne_w_PERMIT_w_INDETERMINATE_D, ne_w_PERMIT_w_INDETERMINATE_DP, ne_w_INDETERMINATE_P_w_DENY, ne_w_INDETERMINATE_P_w_NOT_APPLICABLE, ne_w_INDETERMINATE_P_w_INDETERMINATE_D, ne_w_INDETERMINATE_P_w_INDETERMINATE_DP, ne_w_DENY_w_NOT_APPLICABLE, ne_w_DENY_w_INDETERMINATE_D, ne_w_DENY_w_INDETERMINATE_DP, ne_w_NOT_APPLICABLE_w_INDETERMINATE_D, ne_w_NOT_APPLICABLE_w_INDETERMINATE_DP, ne_w_INDETERMINATE_D_w_INDETERMINATE_DP, -⟩ := id HW
  obtain ⟨T1, X1, e1, st1⟩ := getS2 X0 hx hZ hown (host := "") (Or.inl (hw _ (List.mem_of_getElem? (i := 13) rfl))) Via.refl e0 S_w_PERMIT (g := (mkF m 1 #[.val (.ref w_INDETERMINATE_P), .unset] [(.ref w_INDETERMINATE_P)])) rfl (hb hby d2_1)
  obtain ⟨T2, X2, e2, st2⟩ := getS2 X1 hx hZ hown (host := "") (Or.inl (hw _ (List.mem_of_getElem? (i := 22) rfl))) Via.refl e1 S_w_DENY (g := (mkF m 15 #[.val (.ref w_INDETERMINATE_P), .unset] [(.ref w_INDETERMINATE_P)])) rfl (hb hby d2_15)
  obtain ⟨fs, hr, hrun, hended, hW, hsame⟩ := X2.leave (v := some (.ref w_INDETERMINATE_P)) (fun h => by rw [Bd.returns] at h; cases h)
  refine ⟨_, _, pre0 _ ?_, hrun, hended, _, _, rfl, ?_, ⟨_, rfl⟩, hW, hsame.mono (by decide) (by decide)⟩
  · show Steps p.tables e below (s₁.setTop (mkF m 0 #[.val (.ref w_INDETERMINATE_P), .unset] [])) _
    refine XS.aloadN X0.here hx rfl (hb hby d2_0) rfl rfl ?_
    show Steps p.tables e below (s₁.setTop (mkF m 1 #[.val (.ref w_INDETERMINATE_P), .unset] [(.ref w_INDETERMINATE_P)])) _
    refine st1 _ ?_
    show Steps p.tables e below (T1.setTop (mkF m 4 #[.val (.ref w_INDETERMINATE_P), .unset] [(.ref w_PERMIT), (.ref w_INDETERMINATE_P)])) _
    refine Jvm.RoadKit.acmp (g := (mkF m 4 #[.val (.ref w_INDETERMINATE_P), .unset] [(.ref w_PERMIT), (.ref w_INDETERMINATE_P)])) X1 hx rfl rfl rfl (pc0 := 4) (pc' := 14) (same := false) rfl (hb hby d2_4) rfl (decide_eq_false fun q => ne_w_PERMIT_w_INDETERMINATE_P (Value.ref.inj q).symm) (by decide) (by decide) ?_
    show Steps p.tables e below (T1.setTop (mkF m 14 #[.val (.ref w_INDETERMINATE_P), .unset] [])) _
    refine XS.aloadN X1.here hx rfl (hb hby d2_14) rfl rfl ?_
    show Steps p.tables e below (T1.setTop (mkF m 15 #[.val (.ref w_INDETERMINATE_P), .unset] [(.ref w_INDETERMINATE_P)])) _
    refine st2 _ ?_
    show Steps p.tables e below (T2.setTop (mkF m 18 #[.val (.ref w_INDETERMINATE_P), .unset] [(.ref w_DENY), (.ref w_INDETERMINATE_P)])) _
    refine Jvm.RoadKit.acmp (g := (mkF m 18 #[.val (.ref w_INDETERMINATE_P), .unset] [(.ref w_DENY), (.ref w_INDETERMINATE_P)])) X2 hx rfl rfl rfl (pc0 := 18) (pc' := 28) (same := false) rfl (hb hby d2_18) rfl (decide_eq_false fun q => ne_w_INDETERMINATE_P_w_DENY (Value.ref.inj q)) (by decide) (by decide) ?_
    show Steps p.tables e below (T2.setTop (mkF m 28 #[.val (.ref w_INDETERMINATE_P), .unset] [])) _
    refine XS.aloadN X2.here hx rfl (hb hby d2_28) rfl rfl ?_
    show Steps p.tables e below (T2.setTop (mkF m 29 #[.val (.ref w_INDETERMINATE_P), .unset] [(.ref w_INDETERMINATE_P)])) _
    refine XS.astoreN X2.here hx rfl (hb hby d2_29) rfl rfl (l' := #[.val (.ref w_INDETERMINATE_P), .val (.ref w_INDETERMINATE_P)]) rfl ?_
    show Steps p.tables e below (T2.setTop (mkF m 30 #[.val (.ref w_INDETERMINATE_P), .val (.ref w_INDETERMINATE_P)] [])) _
    refine XS.aloadN X2.here hx rfl (hb hby d2_30) rfl rfl ?_
    show Steps p.tables e below (T2.setTop (mkF m 31 #[.val (.ref w_INDETERMINATE_P), .val (.ref w_INDETERMINATE_P)] [(.ref w_INDETERMINATE_P)])) _
    jvm_step X2.here [X2.here.top, hx, (hb hby d2_31), X2.method', Bd.returns, Value.isRef, FieldType.isReference]
    first | (intro acts; rw [hr _ acts rfl rfl rfl]) | rw [hr _ _ rfl rfl rfl]
    exact Steps.refl _
  · exact ⟨rfl, N0, e2⟩
theorem ef33 (m : MethodId) (x0 : Int32) : entryFrame m #[(.int x0)] maxLocals = mkF m 0 #[.val (.int x0), .unset, .unset, .unset] [] := by first | (simp [entryFrame, mkF, argsToLocals, Value.category, maxLocals]; done) | rfl
def Q0 (h0 : Heap) (n0 : Nat) (v : Option Value) (h : Heap) (L : List Loc) : Prop := v = some (.int (1 : Int32)) ∧ Fr n0 L
set_option maxRecDepth 65536 in
set_option maxHeartbeats 40000000 in
theorem rm0_c0 (l : Launch) (Z : State) (a0 : Array Value) (hw : ∀ d ∈ tables_1, d.before a0 Z = true) (ws : List Jvm.Cond) (w_PERMIT : Addr) (w_INDETERMINATE_P : Addr) (w_DENY : Addr) (w_NOT_APPLICABLE : Addr) (w_INDETERMINATE_D : Addr) (w_INDETERMINATE_DP : Addr) (p1 : Int32) (h0 : Heap) (n0 : Nat) (Z0 : n0 ≤ h0.size) (HW : World Z h0 w_PERMIT w_INDETERMINATE_P w_DENY w_NOT_APPLICABLE w_INDETERMINATE_D w_INDETERMINATE_DP) (hk : ((p1 &&& (2147483647 : Int32)) % (6 : Int32)) = (0 : Int32)) :
    MetFree l x (head1 (Jvm.Cond.code x code maxLocals ret :: ws) room_1) (fun a U => a = #[(.int p1)] ∧ Z.Warmed39 U.vm ∧ U.heap = h0) (fun _ _ _ _ _ => True) (fun _ U o U' => ∃ v L, o = .returned v ∧ Q0 h0 n0 v U'.heap L ∧ FrameEnd U o U' L room_1.cells room_1.slots) := by
  refine MetFree.of_bodySF (plainFor_of_name pn6) hisR ?_
  intro p e s m args below meth c s₁ Bd hml0 hP hK
  obtain ⟨rfl, hZ, hh⟩ := hP
  have hx := Bd.exec
  have hby := Bd.bytes
  have hml : c.maxLocals = 4 := hml0
  have hown : s.vm.findClass "com/example/minos/minos/xacml/DecisionUnderIndeterminateTargetPinLaw" = some m.cls := findClass_of_methodNamed Bd.named
  have X0 : Stand p l e room_1 s m #[(.int p1)] below meth c s₁ [] 0 0 := Stand.of_body Bd
  have e0 : s₁.heap = h0 := by rw [← hh, Bd.state]; rfl
  have N0 := Fr.nil n0
  have pre0 : ∀ t, Steps p.tables e below (s₁.setTop (mkF m 0 #[.val (.int p1), .unset, .unset, .unset] [])) t → Steps p.tables e below (s₁.setTop (entryFrame m #[(.int p1)] maxLocals)) t := fun t k => castTop (ef33 m p1) k
  obtain ⟨S_w_PERMIT, E_w_PERMIT, S_w_INDETERMINATE_P, E_w_INDETERMINATE_P, S_w_DENY, E_w_DENY, S_w_NOT_APPLICABLE, E_w_NOT_APPLICABLE, S_w_INDETERMINATE_D, E_w_INDETERMINATE_D, S_w_INDETERMINATE_DP, E_w_INDETERMINATE_DP, F_ordinal_w_INDETERMINATE_P, F_ordinal_w_PERMIT, F_ordinal_w_DENY, F_ordinal_w_NOT_APPLICABLE, F_ordinal_w_INDETERMINATE_D, F_ordinal_w_INDETERMINATE_DP, ne_w_PERMIT_w_INDETERMINATE_P, ne_w_PERMIT_w_DENY, ne_w_PERMIT_w_NOT_APPLICABLE, ne_w_PERMIT_w_INDETERMINATE_D, ne_w_PERMIT_w_INDETERMINATE_DP, ne_w_INDETERMINATE_P_w_DENY, ne_w_INDETERMINATE_P_w_NOT_APPLICABLE, ne_w_INDETERMINATE_P_w_INDETERMINATE_D, ne_w_INDETERMINATE_P_w_INDETERMINATE_DP, ne_w_DENY_w_NOT_APPLICABLE, ne_w_DENY_w_INDETERMINATE_D, ne_w_DENY_w_INDETERMINATE_DP, ne_w_NOT_APPLICABLE_w_INDETERMINATE_D, ne_w_NOT_APPLICABLE_w_INDETERMINATE_DP, ne_w_INDETERMINATE_D_w_INDETERMINATE_DP, -⟩ := id HW
  obtain ⟨_, _, ⟨T1, L1, k1, n1⟩, -, X1, ⟨Lc1, hQ1, l1, y1, z1⟩, st1⟩ := Jvm.LawKit.callS X0 hx (y := (⟨"com/example/minos/minos/xacml/DecisionUnderIndeterminateTargetPinLaw", "pick", "(I)Lcom/example/minos/minos/xacml/Decision;"⟩ : MethodName)) hown (mvT hZ (hw _ (List.mem_of_getElem? (i := 1) rfl))) (mvT hZ (hw _ (List.mem_of_getElem? (i := 2) rfl))) (mvT hZ (hw _ (List.mem_of_getElem? (i := 3) rfl))) (mvT hZ (hw _ (List.mem_of_getElem? (i := 4) rfl))) (by decide) (backOf (W := 0) (rm1_0 l Z a0 hw [] w_PERMIT w_INDETERMINATE_P w_DENY w_NOT_APPLICABLE w_INDETERMINATE_D w_INDETERMINATE_DP h0 n0 Z0 HW) hZ (hw _ (List.mem_of_getElem? (i := 4) rfl)) (hw _ (List.mem_of_getElem? (i := 3) rfl)) (by decide) (by decide)) (g := (mkF m 9 #[.val (.int p1), .val (.int (0 : Int32)), .unset, .unset] [(.int (0 : Int32))])) rfl (by rw [hml]; rfl) (argsL := [(.int (0 : Int32))]) (rest := []) (lenOf pd7 rfl) rfl (by show 2 * 0 + _ ≤ _; exact Nat.le_of_eq rfl) (hb hby at_9) (fun _ _ => ⟨rfl, e0, (by decide : 0 + 0 ≤ _), (by decide : 0 + 0 ≤ _)⟩)
  dsimp only [Pt.U, Pt.locs, Pt.cells, Pt.slots] at X1 l1 y1 z1 st1 hQ1
  subst l1 y1 z1
  obtain ⟨rfl, N1q, e1⟩ := hQ1
  have N1 := Fr.app N0 N1q
  obtain ⟨cq2, kq2, q2a, q2b, q2c⟩ := isOf hZ e1 E_w_PERMIT
  obtain ⟨_, _, ⟨T2, L2, k2, n2⟩, -, X2, ⟨Lc2, hQ2, l2, y2, z2⟩, st2⟩ := X1.virtualBack hx (y := (⟨"com/example/minos/minos/xacml/Decision", "underIndeterminateTarget", "()Lcom/example/minos/minos/xacml/Decision;"⟩ : MethodName)) (z := (⟨"com/example/minos/minos/xacml/Decision", "underIndeterminateTarget", "()Lcom/example/minos/minos/xacml/Decision;"⟩ : MethodName)) hown (mvT hZ (hw _ (List.mem_of_getElem? (i := 8) rfl))) (mvT hZ (hw _ (List.mem_of_getElem? (i := 9) rfl))) (notFace_of_selects (args := #[]) (mvT hZ (hw _ (List.mem_of_getElem? (i := 11) rfl)))) (mvT hZ (hw _ (List.mem_of_getElem? (i := 11) rfl))) (mvT hZ (hw _ (List.mem_of_getElem? (i := 10) rfl))) (by decide) (backOf (W := 0) (rm2_1 l Z a0 hw [] w_PERMIT w_INDETERMINATE_P w_DENY w_NOT_APPLICABLE w_INDETERMINATE_D w_INDETERMINATE_DP h0 n0 Z0 HW) hZ (hw _ (List.mem_of_getElem? (i := 12) rfl)) (hw _ (List.mem_of_getElem? (i := 6) rfl)) (by decide) (by decide)) q2a q2c (g := (mkF m 14 #[.val (.int p1), .val (.int (0 : Int32)), .val (.ref w_PERMIT), .unset] [(.ref w_PERMIT)])) rfl (by rw [hml]; rfl) (Steps.refl _) (argsL := []) (rest := []) (lenOf pd19 rfl) rfl (by show 2 * 0 + _ ≤ _; exact Nat.le_of_eq rfl) (hb hby at_14) (fun _ _ => ⟨rfl, e1, (by decide : 0 + 0 ≤ _), (by decide : 0 + 0 ≤ _)⟩)
  dsimp only [Pt.U, Pt.locs, Pt.cells, Pt.slots] at X2 l2 y2 z2 st2 hQ2
  subst l2 y2 z2
  obtain ⟨rfl, N2q, e2⟩ := hQ2
  have N2 := Fr.app N1 N2q
  obtain ⟨_, _, ⟨T3, L3, k3, n3⟩, -, X3, ⟨Lc3, hQ3, l3, y3, z3⟩, st3⟩ := Jvm.LawKit.callS X2 hx (y := (⟨"com/example/minos/minos/xacml/DecisionUnderIndeterminateTargetPinLaw", "expected", "(I)Lcom/example/minos/minos/xacml/Decision;"⟩ : MethodName)) hown (mvT hZ (hw _ (List.mem_of_getElem? (i := 16) rfl))) (mvT hZ (hw _ (List.mem_of_getElem? (i := 17) rfl))) (mvT hZ (hw _ (List.mem_of_getElem? (i := 3) rfl))) (mvT hZ (hw _ (List.mem_of_getElem? (i := 18) rfl))) (by decide) (backOf (W := 1) (rm3_2 l Z a0 hw [] w_PERMIT w_INDETERMINATE_P w_DENY w_NOT_APPLICABLE w_INDETERMINATE_D w_INDETERMINATE_DP h0 n0 Z0 HW) hZ (hw _ (List.mem_of_getElem? (i := 18) rfl)) (hw _ (List.mem_of_getElem? (i := 3) rfl)) (by decide) (by decide)) (g := (mkF m 20 #[.val (.int p1), .val (.int (0 : Int32)), .val (.ref w_PERMIT), .val (.ref w_INDETERMINATE_P)] [(.int (0 : Int32)), (.ref w_INDETERMINATE_P)])) rfl (by rw [hml]; rfl) (argsL := [(.int (0 : Int32))]) (rest := [(.ref w_INDETERMINATE_P)]) (lenOf pd7 rfl) rfl (by show 2 * 0 + _ ≤ _; exact Nat.le_of_eq rfl) (hb hby at_20) (fun _ _ => ⟨rfl, e2, (by decide : 0 + 0 ≤ _), (by decide : 0 + 0 ≤ _)⟩)
  dsimp only [Pt.U, Pt.locs, Pt.cells, Pt.slots] at X3 l3 y3 z3 st3 hQ3
  subst l3 y3 z3
  obtain ⟨rfl, N3q, e3⟩ := hQ3
  have N3 := Fr.app N2 N3q
  obtain ⟨T4, X4, e4, st4⟩ := getS2 X3 hx hZ hown (host := "") (Or.inl (hw _ (List.mem_of_getElem? (i := 5) rfl))) Via.refl e3 S_w_PERMIT (g := (mkF m 29 #[.val (.int p1), .val (.int (0 : Int32)), .val (.ref w_PERMIT), .val (.ref w_INDETERMINATE_P)] [(.ref w_INDETERMINATE_P)])) rfl (hb hby at_29)
  obtain ⟨T5, X5, e5, st5⟩ := getS2 X4 hx hZ hown (host := "") (Or.inl (hw _ (List.mem_of_getElem? (i := 20) rfl))) Via.refl e4 S_w_DENY (g := (mkF m 36 #[.val (.int p1), .val (.int (0 : Int32)), .val (.ref w_PERMIT), .val (.ref w_INDETERMINATE_P)] [(.ref w_INDETERMINATE_P)])) rfl (hb hby at_36)
  obtain ⟨cq6, kq6, q6a, q6b, q6c⟩ := isOf hZ e5 E_w_INDETERMINATE_P
  obtain ⟨_, _, ⟨T6, L6, k6, n6⟩, -, X6, ⟨Lc6, hQ6, l6, y6, z6⟩, st6⟩ := X5.virtualBack hx (y := (⟨"com/example/minos/minos/xacml/Decision", "underIndeterminateTarget", "()Lcom/example/minos/minos/xacml/Decision;"⟩ : MethodName)) (z := (⟨"com/example/minos/minos/xacml/Decision", "underIndeterminateTarget", "()Lcom/example/minos/minos/xacml/Decision;"⟩ : MethodName)) hown (mvT hZ (hw _ (List.mem_of_getElem? (i := 8) rfl))) (mvT hZ (hw _ (List.mem_of_getElem? (i := 9) rfl))) (notFace_of_selects (args := #[]) (mvT hZ (hw _ (List.mem_of_getElem? (i := 11) rfl)))) (mvT hZ (hw _ (List.mem_of_getElem? (i := 11) rfl))) (mvT hZ (hw _ (List.mem_of_getElem? (i := 10) rfl))) (by decide) (backOf (W := 0) (rm2_3 l Z a0 hw [] w_PERMIT w_INDETERMINATE_P w_DENY w_NOT_APPLICABLE w_INDETERMINATE_D w_INDETERMINATE_DP h0 n0 Z0 HW) hZ (hw _ (List.mem_of_getElem? (i := 12) rfl)) (hw _ (List.mem_of_getElem? (i := 6) rfl)) (by decide) (by decide)) q6a q6c (g := (mkF m 45 #[.val (.int p1), .val (.int (0 : Int32)), .val (.ref w_PERMIT), .val (.ref w_INDETERMINATE_P)] [(.ref w_INDETERMINATE_P)])) rfl (by rw [hml]; rfl) (Steps.refl _) (argsL := []) (rest := []) (lenOf pd19 rfl) rfl (by show 2 * 0 + _ ≤ _; exact Nat.le_of_eq rfl) (hb hby at_45) (fun _ _ => ⟨rfl, e5, (by decide : 0 + 0 ≤ _), (by decide : 0 + 0 ≤ _)⟩)
  dsimp only [Pt.U, Pt.locs, Pt.cells, Pt.slots] at X6 l6 y6 z6 st6 hQ6
  subst l6 y6 z6
  obtain ⟨rfl, N6q, e6⟩ := hQ6
  have N6 := Fr.app N3 N6q
  obtain ⟨fs, hr, hrun, hended, hW, hsame⟩ := X6.leave (v := some (.int (1 : Int32))) (fun h => by rw [Bd.returns] at h; cases h)
  refine ⟨_, _, pre0 _ ?_, hrun, hended, _, _, rfl, ?_, ⟨_, rfl⟩, hW, hsame.mono (by decide) (by decide)⟩
  · show Steps p.tables e below (s₁.setTop (mkF m 0 #[.val (.int p1), .unset, .unset, .unset] [])) _
    refine XS.iloadN X0.here hx rfl (hb hby at_0) rfl ?_
    show Steps p.tables e below (s₁.setTop (mkF m 1 #[.val (.int p1), .unset, .unset, .unset] [(.int p1)])) _
    refine X0.ldcInt hx hown (mvT hZ (hw _ (List.mem_of_getElem? (i := 0) rfl))) (g := (mkF m 1 #[.val (.int p1), .unset, .unset, .unset] [(.int p1)])) rfl (hb hby at_1) _ ?_
    show Steps p.tables e below (s₁.setTop (mkF m 3 #[.val (.int p1), .unset, .unset, .unset] [(.int (2147483647 : Int32)), (.int p1)])) _
    refine XS.iand X0.here hx rfl (hb hby at_3) rfl ?_
    show Steps p.tables e below (s₁.setTop (mkF m 4 #[.val (.int p1), .unset, .unset, .unset] [(.int (p1 &&& (2147483647 : Int32)))])) _
    refine XS.bipush X0.here hx rfl (hb hby at_4) ?_
    show Steps p.tables e below (s₁.setTop (mkF m 6 #[.val (.int p1), .unset, .unset, .unset] [(.int (6 : Int32)), (.int (p1 &&& (2147483647 : Int32)))])) _
    refine iremM X0 hx rfl (hb hby at_6) rfl (by decide) ?_
    rw [hk]
    show Steps p.tables e below (s₁.setTop (mkF m 7 #[.val (.int p1), .unset, .unset, .unset] [(.int (0 : Int32))])) _
    refine XS.istoreN X0.here hx rfl (hb hby at_7) rfl (l' := #[.val (.int p1), .val (.int (0 : Int32)), .unset, .unset]) rfl ?_
    show Steps p.tables e below (s₁.setTop (mkF m 8 #[.val (.int p1), .val (.int (0 : Int32)), .unset, .unset] [])) _
    refine XS.iloadN X0.here hx rfl (hb hby at_8) rfl ?_
    show Steps p.tables e below (s₁.setTop (mkF m 9 #[.val (.int p1), .val (.int (0 : Int32)), .unset, .unset] [(.int (0 : Int32))])) _
    refine st1 _ ?_
    show Steps p.tables e below (T1.setTop (mkF m 12 #[.val (.int p1), .val (.int (0 : Int32)), .unset, .unset] [(.ref w_PERMIT)])) _
    refine XS.astoreN X1.here hx rfl (hb hby at_12) rfl rfl (l' := #[.val (.int p1), .val (.int (0 : Int32)), .val (.ref w_PERMIT), .unset]) rfl ?_
    show Steps p.tables e below (T1.setTop (mkF m 13 #[.val (.int p1), .val (.int (0 : Int32)), .val (.ref w_PERMIT), .unset] [])) _
    refine XS.aloadN X1.here hx rfl (hb hby at_13) rfl rfl ?_
    show Steps p.tables e below (T1.setTop (mkF m 14 #[.val (.int p1), .val (.int (0 : Int32)), .val (.ref w_PERMIT), .unset] [(.ref w_PERMIT)])) _
    refine st2.trans ?_
    show Steps p.tables e below (T2.setTop (mkF m 17 #[.val (.int p1), .val (.int (0 : Int32)), .val (.ref w_PERMIT), .unset] [(.ref w_INDETERMINATE_P)])) _
    refine XS.astoreN X2.here hx rfl (hb hby at_17) rfl rfl (l' := #[.val (.int p1), .val (.int (0 : Int32)), .val (.ref w_PERMIT), .val (.ref w_INDETERMINATE_P)]) rfl ?_
    show Steps p.tables e below (T2.setTop (mkF m 18 #[.val (.int p1), .val (.int (0 : Int32)), .val (.ref w_PERMIT), .val (.ref w_INDETERMINATE_P)] [])) _
    refine XS.aloadN X2.here hx rfl (hb hby at_18) rfl rfl ?_
    show Steps p.tables e below (T2.setTop (mkF m 19 #[.val (.int p1), .val (.int (0 : Int32)), .val (.ref w_PERMIT), .val (.ref w_INDETERMINATE_P)] [(.ref w_INDETERMINATE_P)])) _
    refine XS.iloadN X2.here hx rfl (hb hby at_19) rfl ?_
    show Steps p.tables e below (T2.setTop (mkF m 20 #[.val (.int p1), .val (.int (0 : Int32)), .val (.ref w_PERMIT), .val (.ref w_INDETERMINATE_P)] [(.int (0 : Int32)), (.ref w_INDETERMINATE_P)])) _
    refine st3 _ ?_
    show Steps p.tables e below (T3.setTop (mkF m 23 #[.val (.int p1), .val (.int (0 : Int32)), .val (.ref w_PERMIT), .val (.ref w_INDETERMINATE_P)] [(.ref w_INDETERMINATE_P), (.ref w_INDETERMINATE_P)])) _
    refine Jvm.RoadKit.acmp (g := (mkF m 23 #[.val (.int p1), .val (.int (0 : Int32)), .val (.ref w_PERMIT), .val (.ref w_INDETERMINATE_P)] [(.ref w_INDETERMINATE_P), (.ref w_INDETERMINATE_P)])) X3 hx rfl rfl rfl (pc0 := 23) (pc' := 28) (same := true) rfl (hb hby at_23) rfl (decide_eq_true rfl) (by decide) (by decide) ?_
    show Steps p.tables e below (T3.setTop (mkF m 28 #[.val (.int p1), .val (.int (0 : Int32)), .val (.ref w_PERMIT), .val (.ref w_INDETERMINATE_P)] [])) _
    refine XS.aloadN X3.here hx rfl (hb hby at_28) rfl rfl ?_
    show Steps p.tables e below (T3.setTop (mkF m 29 #[.val (.int p1), .val (.int (0 : Int32)), .val (.ref w_PERMIT), .val (.ref w_INDETERMINATE_P)] [(.ref w_INDETERMINATE_P)])) _
    refine st4 _ ?_
    show Steps p.tables e below (T4.setTop (mkF m 32 #[.val (.int p1), .val (.int (0 : Int32)), .val (.ref w_PERMIT), .val (.ref w_INDETERMINATE_P)] [(.ref w_PERMIT), (.ref w_INDETERMINATE_P)])) _
    refine Jvm.RoadKit.acmp (g := (mkF m 32 #[.val (.int p1), .val (.int (0 : Int32)), .val (.ref w_PERMIT), .val (.ref w_INDETERMINATE_P)] [(.ref w_PERMIT), (.ref w_INDETERMINATE_P)])) X4 hx rfl rfl rfl (pc0 := 32) (pc' := 35) (same := false) rfl (hb hby at_32) rfl (decide_eq_false fun q => ne_w_PERMIT_w_INDETERMINATE_P (Value.ref.inj q).symm) (by decide) (by decide) ?_
    show Steps p.tables e below (T4.setTop (mkF m 35 #[.val (.int p1), .val (.int (0 : Int32)), .val (.ref w_PERMIT), .val (.ref w_INDETERMINATE_P)] [])) _
    refine XS.aloadN X4.here hx rfl (hb hby at_35) rfl rfl ?_
    show Steps p.tables e below (T4.setTop (mkF m 36 #[.val (.int p1), .val (.int (0 : Int32)), .val (.ref w_PERMIT), .val (.ref w_INDETERMINATE_P)] [(.ref w_INDETERMINATE_P)])) _
    refine st5 _ ?_
    show Steps p.tables e below (T5.setTop (mkF m 39 #[.val (.int p1), .val (.int (0 : Int32)), .val (.ref w_PERMIT), .val (.ref w_INDETERMINATE_P)] [(.ref w_DENY), (.ref w_INDETERMINATE_P)])) _
    refine Jvm.RoadKit.acmp (g := (mkF m 39 #[.val (.int p1), .val (.int (0 : Int32)), .val (.ref w_PERMIT), .val (.ref w_INDETERMINATE_P)] [(.ref w_DENY), (.ref w_INDETERMINATE_P)])) X5 hx rfl rfl rfl (pc0 := 39) (pc' := 44) (same := false) rfl (hb hby at_39) rfl (decide_eq_false fun q => ne_w_INDETERMINATE_P_w_DENY (Value.ref.inj q)) (by decide) (by decide) ?_
    show Steps p.tables e below (T5.setTop (mkF m 44 #[.val (.int p1), .val (.int (0 : Int32)), .val (.ref w_PERMIT), .val (.ref w_INDETERMINATE_P)] [])) _
    refine XS.aloadN X5.here hx rfl (hb hby at_44) rfl rfl ?_
    show Steps p.tables e below (T5.setTop (mkF m 45 #[.val (.int p1), .val (.int (0 : Int32)), .val (.ref w_PERMIT), .val (.ref w_INDETERMINATE_P)] [(.ref w_INDETERMINATE_P)])) _
    refine st6.trans ?_
    show Steps p.tables e below (T6.setTop (mkF m 48 #[.val (.int p1), .val (.int (0 : Int32)), .val (.ref w_PERMIT), .val (.ref w_INDETERMINATE_P)] [(.ref w_INDETERMINATE_P)])) _
    refine XS.aloadN X6.here hx rfl (hb hby at_48) rfl rfl ?_
    show Steps p.tables e below (T6.setTop (mkF m 49 #[.val (.int p1), .val (.int (0 : Int32)), .val (.ref w_PERMIT), .val (.ref w_INDETERMINATE_P)] [(.ref w_INDETERMINATE_P), (.ref w_INDETERMINATE_P)])) _
    refine Jvm.RoadKit.acmp (g := (mkF m 49 #[.val (.int p1), .val (.int (0 : Int32)), .val (.ref w_PERMIT), .val (.ref w_INDETERMINATE_P)] [(.ref w_INDETERMINATE_P), (.ref w_INDETERMINATE_P)])) X6 hx rfl rfl rfl (pc0 := 49) (pc' := 52) (same := true) rfl (hb hby at_49) rfl (decide_eq_true rfl) (by decide) (by decide) ?_
    show Steps p.tables e below (T6.setTop (mkF m 52 #[.val (.int p1), .val (.int (0 : Int32)), .val (.ref w_PERMIT), .val (.ref w_INDETERMINATE_P)] [])) _
    refine XS.iconst X6.here hx rfl (hb hby at_52) ?_
    show Steps p.tables e below (T6.setTop (mkF m 53 #[.val (.int p1), .val (.int (0 : Int32)), .val (.ref w_PERMIT), .val (.ref w_INDETERMINATE_P)] [(.int (1 : Int32))])) _
    refine XS.goto X6.here hx rfl (pc0 := 53) (pc' := 57) rfl (hb hby at_53) (by decide) (by decide) ?_
    show Steps p.tables e below (T6.setTop (mkF m 57 #[.val (.int p1), .val (.int (0 : Int32)), .val (.ref w_PERMIT), .val (.ref w_INDETERMINATE_P)] [(.int (1 : Int32))])) _
    exact retN X6 hx (t := .boolean) Bd.returns (by simp) (hb hby at_57) hr
  · exact ⟨rfl, N6⟩
theorem d1_8 : decode method_2_code 8 = .ok (.iload_n 0, 1) := by decide +kernel
theorem d1_9 : decode method_2_code 9 = .ok (.iconst 1, 1) := by decide +kernel
theorem d1_10 : decode method_2_code 10 = .ok (.if_icmp .ne 7, 3) := by decide +kernel
theorem d1_13 : decode method_2_code 13 = .ok (.getstatic 13, 3) := by decide +kernel
theorem d1_16 : decode method_2_code 16 = .ok (.areturn, 1) := by decide +kernel
def Q1_5 (Z : State) (w_PERMIT : Addr) (w_INDETERMINATE_P : Addr) (w_DENY : Addr) (w_NOT_APPLICABLE : Addr) (w_INDETERMINATE_D : Addr) (w_INDETERMINATE_DP : Addr) (h0 : Heap) (n0 : Nat) (v : Option Value) (h : Heap) (L : List Loc) : Prop := v = some (.ref w_DENY) ∧ Fr n0 L ∧ h = h0
set_option maxRecDepth 65536 in
set_option maxHeartbeats 40000000 in
theorem rm1_5 (l : Launch) (Z : State) (a0 : Array Value) (hw : ∀ d ∈ tables_1, d.before a0 Z = true) (ws : List Jvm.Cond) (w_PERMIT : Addr) (w_INDETERMINATE_P : Addr) (w_DENY : Addr) (w_NOT_APPLICABLE : Addr) (w_INDETERMINATE_D : Addr) (w_INDETERMINATE_DP : Addr) (h0 : Heap) (n0 : Nat) (Z0 : n0 ≤ h0.size) (HW : World Z h0 w_PERMIT w_INDETERMINATE_P w_DENY w_NOT_APPLICABLE w_INDETERMINATE_D w_INDETERMINATE_DP) :
    MetFree l (⟨"com/example/minos/minos/xacml/DecisionUnderIndeterminateTargetPinLaw", "pick", "(I)Lcom/example/minos/minos/xacml/Decision;"⟩ : MethodName) (head1 (Jvm.Cond.code (⟨"com/example/minos/minos/xacml/DecisionUnderIndeterminateTargetPinLaw", "pick", "(I)Lcom/example/minos/minos/xacml/Decision;"⟩ : MethodName) method_2_code 1 (some (.object "com/example/minos/minos/xacml/Decision")) :: ws) ({ frames := 0, cells := 0, slots := 0, locals := 0 } : Room)) (fun a U => a = #[(.int (1 : Int32))] ∧ Z.Warmed39 U.vm ∧ U.heap = h0) (fun _ _ _ _ _ => True) (fun _ U o U' => ∃ v L, o = .returned v ∧ Q1_5 Z w_PERMIT w_INDETERMINATE_P w_DENY w_NOT_APPLICABLE w_INDETERMINATE_D w_INDETERMINATE_DP h0 n0 v U'.heap L ∧ FrameEnd U o U' L ({ frames := 0, cells := 0, slots := 0, locals := 0 } : Room).cells ({ frames := 0, cells := 0, slots := 0, locals := 0 } : Room).slots) := by
  refine MetFree.of_bodySF (plainFor_of_name pn6) hisR ?_
  intro p e s m args below meth c s₁ Bd hml0 hP hK
  obtain ⟨rfl, hZ, hh⟩ := hP
  have hx := Bd.exec
  have hby := Bd.bytes
  have hml : c.maxLocals = 1 := hml0
  have hown : s.vm.findClass "com/example/minos/minos/xacml/DecisionUnderIndeterminateTargetPinLaw" = some m.cls := findClass_of_methodNamed Bd.named
  have X0 : Stand p l e ({ frames := 0, cells := 0, slots := 0, locals := 0 } : Room) s m #[(.int (1 : Int32))] below meth c s₁ [] 0 0 := Stand.of_body Bd
  have e0 : s₁.heap = h0 := by rw [← hh, Bd.state]; rfl
  have N0 := Fr.nil n0
  have pre0 : ∀ t, Steps p.tables e below (s₁.setTop (mkF m 0 #[.val (.int (1 : Int32))] [])) t → Steps p.tables e below (s₁.setTop (entryFrame m #[(.int (1 : Int32))] 1)) t := fun t k => castTop (ef5 m (1 : Int32)) k
  obtain ⟨S_w_PERMIT, E_w_PERMIT, S_w_INDETERMINATE_P, E_w_INDETERMINATE_P, S_w_DENY, E_w_DENY, S_w_NOT_APPLICABLE, E_w_NOT_APPLICABLE, S_w_INDETERMINATE_D, E_w_INDETERMINATE_D, S_w_INDETERMINATE_DP, E_w_INDETERMINATE_DP, F_ordinal_w_INDETERMINATE_P, F_ordinal_w_PERMIT, F_ordinal_w_DENY, F_ordinal_w_NOT_APPLICABLE, F_ordinal_w_INDETERMINATE_D, F_ordinal_w_INDETERMINATE_DP, ne_w_PERMIT_w_INDETERMINATE_P, ne_w_PERMIT_w_DENY, ne_w_PERMIT_w_NOT_APPLICABLE, ne_w_PERMIT_w_INDETERMINATE_D, ne_w_PERMIT_w_INDETERMINATE_DP, ne_w_INDETERMINATE_P_w_DENY, ne_w_INDETERMINATE_P_w_NOT_APPLICABLE, ne_w_INDETERMINATE_P_w_INDETERMINATE_D, ne_w_INDETERMINATE_P_w_INDETERMINATE_DP, ne_w_DENY_w_NOT_APPLICABLE, ne_w_DENY_w_INDETERMINATE_D, ne_w_DENY_w_INDETERMINATE_DP, ne_w_NOT_APPLICABLE_w_INDETERMINATE_D, ne_w_NOT_APPLICABLE_w_INDETERMINATE_DP, ne_w_INDETERMINATE_D_w_INDETERMINATE_DP, -⟩ := id HW
  obtain ⟨T1, X1, e1, st1⟩ := getS2 X0 hx hZ hown (host := "") (Or.inl (hw _ (List.mem_of_getElem? (i := 20) rfl))) Via.refl e0 S_w_DENY (g := (mkF m 13 #[.val (.int (1 : Int32))] [])) rfl (hb hby d1_13)
  obtain ⟨fs, hr, hrun, hended, hW, hsame⟩ := X1.leave (v := some (.ref w_DENY)) (fun h => by rw [Bd.returns] at h; cases h)
  refine ⟨_, _, pre0 _ ?_, hrun, hended, _, _, rfl, ?_, ⟨_, rfl⟩, hW, hsame.mono (by decide) (by decide)⟩
  · show Steps p.tables e below (s₁.setTop (mkF m 0 #[.val (.int (1 : Int32))] [])) _
    refine XS.iloadN X0.here hx rfl (hb hby d1_0) rfl ?_
    show Steps p.tables e below (s₁.setTop (mkF m 1 #[.val (.int (1 : Int32))] [(.int (1 : Int32))])) _
    refine XS.ifYes X0.here hx rfl (pc0 := 1) (pc' := 8) rfl (hb hby d1_1) rfl ((if0 _ _).trans (feq (by decide : ¬ ((1 : Int32) = (0 : Int32)))).2) (by decide) (by decide) ?_
    show Steps p.tables e below (s₁.setTop (mkF m 8 #[.val (.int (1 : Int32))] [])) _
    refine XS.iloadN X0.here hx rfl (hb hby d1_8) rfl ?_
    show Steps p.tables e below (s₁.setTop (mkF m 9 #[.val (.int (1 : Int32))] [(.int (1 : Int32))])) _
    refine XS.iconst X0.here hx rfl (hb hby d1_9) ?_
    show Steps p.tables e below (s₁.setTop (mkF m 10 #[.val (.int (1 : Int32))] [(.int (1 : Int32)), (.int (1 : Int32))])) _
    refine XS.icmpNo X0.here hx rfl (hb hby d1_10) rfl (teq (by decide : (1 : Int32) = (1 : Int32))).2 ?_
    show Steps p.tables e below (s₁.setTop (mkF m 13 #[.val (.int (1 : Int32))] [])) _
    refine st1 _ ?_
    show Steps p.tables e below (T1.setTop (mkF m 16 #[.val (.int (1 : Int32))] [(.ref w_DENY)])) _
    jvm_step X1.here [X1.here.top, hx, (hb hby d1_16), X1.method', Bd.returns, Value.isRef, FieldType.isReference]
    first | (intro acts; rw [hr _ acts rfl rfl rfl]) | rw [hr _ _ rfl rfl rfl]
    exact Steps.refl _
  · exact ⟨rfl, N0, e1⟩
theorem d2_21 : decode prog_55_method_5_code 21 = .ok (.getstatic 16, 3) := by decide +kernel
theorem d2_24 : decode prog_55_method_5_code 24 = .ok (.astore_n 1, 1) := by decide +kernel
theorem d2_25 : decode prog_55_method_5_code 25 = .ok (.goto 5, 3) := by decide +kernel
def Q2_6 (Z : State) (w_PERMIT : Addr) (w_INDETERMINATE_P : Addr) (w_DENY : Addr) (w_NOT_APPLICABLE : Addr) (w_INDETERMINATE_D : Addr) (w_INDETERMINATE_DP : Addr) (h0 : Heap) (n0 : Nat) (v : Option Value) (h : Heap) (L : List Loc) : Prop := v = some (.ref w_INDETERMINATE_D) ∧ Fr n0 L ∧ h = h0
set_option maxRecDepth 65536 in
set_option maxHeartbeats 40000000 in
theorem rm2_6 (l : Launch) (Z : State) (a0 : Array Value) (hw : ∀ d ∈ tables_1, d.before a0 Z = true) (ws : List Jvm.Cond) (w_PERMIT : Addr) (w_INDETERMINATE_P : Addr) (w_DENY : Addr) (w_NOT_APPLICABLE : Addr) (w_INDETERMINATE_D : Addr) (w_INDETERMINATE_DP : Addr) (h0 : Heap) (n0 : Nat) (Z0 : n0 ≤ h0.size) (HW : World Z h0 w_PERMIT w_INDETERMINATE_P w_DENY w_NOT_APPLICABLE w_INDETERMINATE_D w_INDETERMINATE_DP) :
    MetFree l (⟨"com/example/minos/minos/xacml/Decision", "underIndeterminateTarget", "()Lcom/example/minos/minos/xacml/Decision;"⟩ : MethodName) (head1 (Jvm.Cond.code (⟨"com/example/minos/minos/xacml/Decision", "underIndeterminateTarget", "()Lcom/example/minos/minos/xacml/Decision;"⟩ : MethodName) prog_55_method_5_code 2 (some (.object "com/example/minos/minos/xacml/Decision")) :: ws) ({ frames := 0, cells := 0, slots := 0, locals := 0 } : Room)) (fun a U => a = #[(.ref w_DENY)] ∧ Z.Warmed39 U.vm ∧ U.heap = h0) (fun _ _ _ _ _ => True) (fun _ U o U' => ∃ v L, o = .returned v ∧ Q2_6 Z w_PERMIT w_INDETERMINATE_P w_DENY w_NOT_APPLICABLE w_INDETERMINATE_D w_INDETERMINATE_DP h0 n0 v U'.heap L ∧ FrameEnd U o U' L ({ frames := 0, cells := 0, slots := 0, locals := 0 } : Room).cells ({ frames := 0, cells := 0, slots := 0, locals := 0 } : Room).slots) := by
  refine MetFree.of_bodySF (plainFor_of_name pn18) hisR ?_
  intro p e s m args below meth c s₁ Bd hml0 hP hK
  obtain ⟨rfl, hZ, hh⟩ := hP
  have hx := Bd.exec
  have hby := Bd.bytes
  have hml : c.maxLocals = 2 := hml0
  have hown : s.vm.findClass "com/example/minos/minos/xacml/Decision" = some m.cls := findClass_of_methodNamed Bd.named
  have X0 : Stand p l e ({ frames := 0, cells := 0, slots := 0, locals := 0 } : Room) s m #[(.ref w_DENY)] below meth c s₁ [] 0 0 := Stand.of_body Bd
  have e0 : s₁.heap = h0 := by rw [← hh, Bd.state]; rfl
  have N0 := Fr.nil n0
  have pre0 : ∀ t, Steps p.tables e below (s₁.setTop (mkF m 0 #[.val (.ref w_DENY), .unset] [])) t → Steps p.tables e below (s₁.setTop (entryFrame m #[(.ref w_DENY)] 2)) t := fun t k => castTop (ef17 m w_DENY) k
  obtain ⟨S_w_PERMIT, E_w_PERMIT, S_w_INDETERMINATE_P, E_w_INDETERMINATE_P, S_w_DENY, E_w_DENY, S_w_NOT_APPLICABLE, E_w_NOT_APPLICABLE, S_w_INDETERMINATE_D, E_w_INDETERMINATE_D, S_w_INDETERMINATE_DP, E_w_INDETERMINATE_DP, F_ordinal_w_INDETERMINATE_P, F_ordinal_w_PERMIT, F_ordinal_w_DENY, F_ordinal_w_NOT_APPLICABLE, F_ordinal_w_INDETERMINATE_D, F_ordinal_w_INDETERMINATE_DP, ne_w_PERMIT_w_INDETERMINATE_P, ne_w_PERMIT_w_DENY, ne_w_PERMIT_w_NOT_APPLICABLE, ne_w_PERMIT_w_INDETERMINATE_D, ne_w_PERMIT_w_INDETERMINATE_DP, ne_w_INDETERMINATE_P_w_DENY, ne_w_INDETERMINATE_P_w_NOT_APPLICABLE, ne_w_INDETERMINATE_P_w_INDETERMINATE_D, ne_w_INDETERMINATE_P_w_INDETERMINATE_DP, ne_w_DENY_w_NOT_APPLICABLE, ne_w_DENY_w_INDETERMINATE_D, ne_w_DENY_w_INDETERMINATE_DP, ne_w_NOT_APPLICABLE_w_INDETERMINATE_D, ne_w_NOT_APPLICABLE_w_INDETERMINATE_DP, ne_w_INDETERMINATE_D_w_INDETERMINATE_DP, -⟩ := id HW
  obtain ⟨T1, X1, e1, st1⟩ := getS2 X0 hx hZ hown (host := "") (Or.inl (hw _ (List.mem_of_getElem? (i := 13) rfl))) Via.refl e0 S_w_PERMIT (g := (mkF m 1 #[.val (.ref w_DENY), .unset] [(.ref w_DENY)])) rfl (hb hby d2_1)
  obtain ⟨T2, X2, e2, st2⟩ := getS2 X1 hx hZ hown (host := "") (Or.inl (hw _ (List.mem_of_getElem? (i := 22) rfl))) Via.refl e1 S_w_DENY (g := (mkF m 15 #[.val (.ref w_DENY), .unset] [(.ref w_DENY)])) rfl (hb hby d2_15)
  obtain ⟨T3, X3, e3, st3⟩ := getS2 X2 hx hZ hown (host := "") (Or.inl (hw _ (List.mem_of_getElem? (i := 25) rfl))) Via.refl e2 S_w_INDETERMINATE_D (g := (mkF m 21 #[.val (.ref w_DENY), .unset] [])) rfl (hb hby d2_21)
  obtain ⟨fs, hr, hrun, hended, hW, hsame⟩ := X3.leave (v := some (.ref w_INDETERMINATE_D)) (fun h => by rw [Bd.returns] at h; cases h)
  refine ⟨_, _, pre0 _ ?_, hrun, hended, _, _, rfl, ?_, ⟨_, rfl⟩, hW, hsame.mono (by decide) (by decide)⟩
  · show Steps p.tables e below (s₁.setTop (mkF m 0 #[.val (.ref w_DENY), .unset] [])) _
    refine XS.aloadN X0.here hx rfl (hb hby d2_0) rfl rfl ?_
    show Steps p.tables e below (s₁.setTop (mkF m 1 #[.val (.ref w_DENY), .unset] [(.ref w_DENY)])) _
    refine st1 _ ?_
    show Steps p.tables e below (T1.setTop (mkF m 4 #[.val (.ref w_DENY), .unset] [(.ref w_PERMIT), (.ref w_DENY)])) _
    refine Jvm.RoadKit.acmp (g := (mkF m 4 #[.val (.ref w_DENY), .unset] [(.ref w_PERMIT), (.ref w_DENY)])) X1 hx rfl rfl rfl (pc0 := 4) (pc' := 14) (same := false) rfl (hb hby d2_4) rfl (decide_eq_false fun q => ne_w_PERMIT_w_DENY (Value.ref.inj q).symm) (by decide) (by decide) ?_
    show Steps p.tables e below (T1.setTop (mkF m 14 #[.val (.ref w_DENY), .unset] [])) _
    refine XS.aloadN X1.here hx rfl (hb hby d2_14) rfl rfl ?_
    show Steps p.tables e below (T1.setTop (mkF m 15 #[.val (.ref w_DENY), .unset] [(.ref w_DENY)])) _
    refine st2 _ ?_
    show Steps p.tables e below (T2.setTop (mkF m 18 #[.val (.ref w_DENY), .unset] [(.ref w_DENY), (.ref w_DENY)])) _
    refine Jvm.RoadKit.acmp (g := (mkF m 18 #[.val (.ref w_DENY), .unset] [(.ref w_DENY), (.ref w_DENY)])) X2 hx rfl rfl rfl (pc0 := 18) (pc' := 21) (same := true) rfl (hb hby d2_18) rfl (decide_eq_true rfl) (by decide) (by decide) ?_
    show Steps p.tables e below (T2.setTop (mkF m 21 #[.val (.ref w_DENY), .unset] [])) _
    refine st3 _ ?_
    show Steps p.tables e below (T3.setTop (mkF m 24 #[.val (.ref w_DENY), .unset] [(.ref w_INDETERMINATE_D)])) _
    refine XS.astoreN X3.here hx rfl (hb hby d2_24) rfl rfl (l' := #[.val (.ref w_DENY), .val (.ref w_INDETERMINATE_D)]) rfl ?_
    show Steps p.tables e below (T3.setTop (mkF m 25 #[.val (.ref w_DENY), .val (.ref w_INDETERMINATE_D)] [])) _
    refine XS.goto X3.here hx rfl (pc0 := 25) (pc' := 30) rfl (hb hby d2_25) (by decide) (by decide) ?_
    show Steps p.tables e below (T3.setTop (mkF m 30 #[.val (.ref w_DENY), .val (.ref w_INDETERMINATE_D)] [])) _
    refine XS.aloadN X3.here hx rfl (hb hby d2_30) rfl rfl ?_
    show Steps p.tables e below (T3.setTop (mkF m 31 #[.val (.ref w_DENY), .val (.ref w_INDETERMINATE_D)] [(.ref w_INDETERMINATE_D)])) _
    jvm_step X3.here [X3.here.top, hx, (hb hby d2_31), X3.method', Bd.returns, Value.isRef, FieldType.isReference]
    first | (intro acts; rw [hr _ acts rfl rfl rfl]) | rw [hr _ _ rfl rfl rfl]
    exact Steps.refl _
  · exact ⟨rfl, N0, e3⟩
theorem d3_8 : decode method_3_code 8 = .ok (.iload_n 0, 1) := by decide +kernel
theorem d3_9 : decode method_3_code 9 = .ok (.iconst 1, 1) := by decide +kernel
theorem d3_10 : decode method_3_code 10 = .ok (.if_icmp .ne 7, 3) := by decide +kernel
theorem d3_13 : decode method_3_code 13 = .ok (.getstatic 22, 3) := by decide +kernel
theorem d3_16 : decode method_3_code 16 = .ok (.areturn, 1) := by decide +kernel
def Q3_7 (Z : State) (w_PERMIT : Addr) (w_INDETERMINATE_P : Addr) (w_DENY : Addr) (w_NOT_APPLICABLE : Addr) (w_INDETERMINATE_D : Addr) (w_INDETERMINATE_DP : Addr) (h0 : Heap) (n0 : Nat) (v : Option Value) (h : Heap) (L : List Loc) : Prop := v = some (.ref w_INDETERMINATE_D) ∧ Fr n0 L ∧ h = h0
set_option maxRecDepth 65536 in
set_option maxHeartbeats 40000000 in
theorem rm3_7 (l : Launch) (Z : State) (a0 : Array Value) (hw : ∀ d ∈ tables_1, d.before a0 Z = true) (ws : List Jvm.Cond) (w_PERMIT : Addr) (w_INDETERMINATE_P : Addr) (w_DENY : Addr) (w_NOT_APPLICABLE : Addr) (w_INDETERMINATE_D : Addr) (w_INDETERMINATE_DP : Addr) (h0 : Heap) (n0 : Nat) (Z0 : n0 ≤ h0.size) (HW : World Z h0 w_PERMIT w_INDETERMINATE_P w_DENY w_NOT_APPLICABLE w_INDETERMINATE_D w_INDETERMINATE_DP) :
    MetFree l (⟨"com/example/minos/minos/xacml/DecisionUnderIndeterminateTargetPinLaw", "expected", "(I)Lcom/example/minos/minos/xacml/Decision;"⟩ : MethodName) (head1 (Jvm.Cond.code (⟨"com/example/minos/minos/xacml/DecisionUnderIndeterminateTargetPinLaw", "expected", "(I)Lcom/example/minos/minos/xacml/Decision;"⟩ : MethodName) method_3_code 1 (some (.object "com/example/minos/minos/xacml/Decision")) :: ws) ({ frames := 0, cells := 0, slots := 0, locals := 0 } : Room)) (fun a U => a = #[(.int (1 : Int32))] ∧ Z.Warmed39 U.vm ∧ U.heap = h0) (fun _ _ _ _ _ => True) (fun _ U o U' => ∃ v L, o = .returned v ∧ Q3_7 Z w_PERMIT w_INDETERMINATE_P w_DENY w_NOT_APPLICABLE w_INDETERMINATE_D w_INDETERMINATE_DP h0 n0 v U'.heap L ∧ FrameEnd U o U' L ({ frames := 0, cells := 0, slots := 0, locals := 0 } : Room).cells ({ frames := 0, cells := 0, slots := 0, locals := 0 } : Room).slots) := by
  refine MetFree.of_bodySF (plainFor_of_name pn6) hisR ?_
  intro p e s m args below meth c s₁ Bd hml0 hP hK
  obtain ⟨rfl, hZ, hh⟩ := hP
  have hx := Bd.exec
  have hby := Bd.bytes
  have hml : c.maxLocals = 1 := hml0
  have hown : s.vm.findClass "com/example/minos/minos/xacml/DecisionUnderIndeterminateTargetPinLaw" = some m.cls := findClass_of_methodNamed Bd.named
  have X0 : Stand p l e ({ frames := 0, cells := 0, slots := 0, locals := 0 } : Room) s m #[(.int (1 : Int32))] below meth c s₁ [] 0 0 := Stand.of_body Bd
  have e0 : s₁.heap = h0 := by rw [← hh, Bd.state]; rfl
  have N0 := Fr.nil n0
  have pre0 : ∀ t, Steps p.tables e below (s₁.setTop (mkF m 0 #[.val (.int (1 : Int32))] [])) t → Steps p.tables e below (s₁.setTop (entryFrame m #[(.int (1 : Int32))] 1)) t := fun t k => castTop (ef25 m (1 : Int32)) k
  obtain ⟨S_w_PERMIT, E_w_PERMIT, S_w_INDETERMINATE_P, E_w_INDETERMINATE_P, S_w_DENY, E_w_DENY, S_w_NOT_APPLICABLE, E_w_NOT_APPLICABLE, S_w_INDETERMINATE_D, E_w_INDETERMINATE_D, S_w_INDETERMINATE_DP, E_w_INDETERMINATE_DP, F_ordinal_w_INDETERMINATE_P, F_ordinal_w_PERMIT, F_ordinal_w_DENY, F_ordinal_w_NOT_APPLICABLE, F_ordinal_w_INDETERMINATE_D, F_ordinal_w_INDETERMINATE_DP, ne_w_PERMIT_w_INDETERMINATE_P, ne_w_PERMIT_w_DENY, ne_w_PERMIT_w_NOT_APPLICABLE, ne_w_PERMIT_w_INDETERMINATE_D, ne_w_PERMIT_w_INDETERMINATE_DP, ne_w_INDETERMINATE_P_w_DENY, ne_w_INDETERMINATE_P_w_NOT_APPLICABLE, ne_w_INDETERMINATE_P_w_INDETERMINATE_D, ne_w_INDETERMINATE_P_w_INDETERMINATE_DP, ne_w_DENY_w_NOT_APPLICABLE, ne_w_DENY_w_INDETERMINATE_D, ne_w_DENY_w_INDETERMINATE_DP, ne_w_NOT_APPLICABLE_w_INDETERMINATE_D, ne_w_NOT_APPLICABLE_w_INDETERMINATE_DP, ne_w_INDETERMINATE_D_w_INDETERMINATE_DP, -⟩ := id HW
  obtain ⟨T1, X1, e1, st1⟩ := getS2 X0 hx hZ hown (host := "") (Or.inl (hw _ (List.mem_of_getElem? (i := 27) rfl))) Via.refl e0 S_w_INDETERMINATE_D (g := (mkF m 13 #[.val (.int (1 : Int32))] [])) rfl (hb hby d3_13)
  obtain ⟨fs, hr, hrun, hended, hW, hsame⟩ := X1.leave (v := some (.ref w_INDETERMINATE_D)) (fun h => by rw [Bd.returns] at h; cases h)
  refine ⟨_, _, pre0 _ ?_, hrun, hended, _, _, rfl, ?_, ⟨_, rfl⟩, hW, hsame.mono (by decide) (by decide)⟩
  · show Steps p.tables e below (s₁.setTop (mkF m 0 #[.val (.int (1 : Int32))] [])) _
    refine XS.iloadN X0.here hx rfl (hb hby d3_0) rfl ?_
    show Steps p.tables e below (s₁.setTop (mkF m 1 #[.val (.int (1 : Int32))] [(.int (1 : Int32))])) _
    refine XS.ifYes X0.here hx rfl (pc0 := 1) (pc' := 8) rfl (hb hby d3_1) rfl ((if0 _ _).trans (feq (by decide : ¬ ((1 : Int32) = (0 : Int32)))).2) (by decide) (by decide) ?_
    show Steps p.tables e below (s₁.setTop (mkF m 8 #[.val (.int (1 : Int32))] [])) _
    refine XS.iloadN X0.here hx rfl (hb hby d3_8) rfl ?_
    show Steps p.tables e below (s₁.setTop (mkF m 9 #[.val (.int (1 : Int32))] [(.int (1 : Int32))])) _
    refine XS.iconst X0.here hx rfl (hb hby d3_9) ?_
    show Steps p.tables e below (s₁.setTop (mkF m 10 #[.val (.int (1 : Int32))] [(.int (1 : Int32)), (.int (1 : Int32))])) _
    refine XS.icmpNo X0.here hx rfl (hb hby d3_10) rfl (teq (by decide : (1 : Int32) = (1 : Int32))).2 ?_
    show Steps p.tables e below (s₁.setTop (mkF m 13 #[.val (.int (1 : Int32))] [])) _
    refine st1 _ ?_
    show Steps p.tables e below (T1.setTop (mkF m 16 #[.val (.int (1 : Int32))] [(.ref w_INDETERMINATE_D)])) _
    jvm_step X1.here [X1.here.top, hx, (hb hby d3_16), X1.method', Bd.returns, Value.isRef, FieldType.isReference]
    first | (intro acts; rw [hr _ acts rfl rfl rfl]) | rw [hr _ _ rfl rfl rfl]
    exact Steps.refl _
  · exact ⟨rfl, N0, e1⟩
def Q2_8 (Z : State) (w_PERMIT : Addr) (w_INDETERMINATE_P : Addr) (w_DENY : Addr) (w_NOT_APPLICABLE : Addr) (w_INDETERMINATE_D : Addr) (w_INDETERMINATE_DP : Addr) (h0 : Heap) (n0 : Nat) (v : Option Value) (h : Heap) (L : List Loc) : Prop := v = some (.ref w_INDETERMINATE_D) ∧ Fr n0 L ∧ h = h0
set_option maxRecDepth 65536 in
set_option maxHeartbeats 40000000 in
theorem rm2_8 (l : Launch) (Z : State) (a0 : Array Value) (hw : ∀ d ∈ tables_1, d.before a0 Z = true) (ws : List Jvm.Cond) (w_PERMIT : Addr) (w_INDETERMINATE_P : Addr) (w_DENY : Addr) (w_NOT_APPLICABLE : Addr) (w_INDETERMINATE_D : Addr) (w_INDETERMINATE_DP : Addr) (h0 : Heap) (n0 : Nat) (Z0 : n0 ≤ h0.size) (HW : World Z h0 w_PERMIT w_INDETERMINATE_P w_DENY w_NOT_APPLICABLE w_INDETERMINATE_D w_INDETERMINATE_DP) :
    MetFree l (⟨"com/example/minos/minos/xacml/Decision", "underIndeterminateTarget", "()Lcom/example/minos/minos/xacml/Decision;"⟩ : MethodName) (head1 (Jvm.Cond.code (⟨"com/example/minos/minos/xacml/Decision", "underIndeterminateTarget", "()Lcom/example/minos/minos/xacml/Decision;"⟩ : MethodName) prog_55_method_5_code 2 (some (.object "com/example/minos/minos/xacml/Decision")) :: ws) ({ frames := 0, cells := 0, slots := 0, locals := 0 } : Room)) (fun a U => a = #[(.ref w_INDETERMINATE_D)] ∧ Z.Warmed39 U.vm ∧ U.heap = h0) (fun _ _ _ _ _ => True) (fun _ U o U' => ∃ v L, o = .returned v ∧ Q2_8 Z w_PERMIT w_INDETERMINATE_P w_DENY w_NOT_APPLICABLE w_INDETERMINATE_D w_INDETERMINATE_DP h0 n0 v U'.heap L ∧ FrameEnd U o U' L ({ frames := 0, cells := 0, slots := 0, locals := 0 } : Room).cells ({ frames := 0, cells := 0, slots := 0, locals := 0 } : Room).slots) := by
  refine MetFree.of_bodySF (plainFor_of_name pn18) hisR ?_
  intro p e s m args below meth c s₁ Bd hml0 hP hK
  obtain ⟨rfl, hZ, hh⟩ := hP
  have hx := Bd.exec
  have hby := Bd.bytes
  have hml : c.maxLocals = 2 := hml0
  have hown : s.vm.findClass "com/example/minos/minos/xacml/Decision" = some m.cls := findClass_of_methodNamed Bd.named
  have X0 : Stand p l e ({ frames := 0, cells := 0, slots := 0, locals := 0 } : Room) s m #[(.ref w_INDETERMINATE_D)] below meth c s₁ [] 0 0 := Stand.of_body Bd
  have e0 : s₁.heap = h0 := by rw [← hh, Bd.state]; rfl
  have N0 := Fr.nil n0
  have pre0 : ∀ t, Steps p.tables e below (s₁.setTop (mkF m 0 #[.val (.ref w_INDETERMINATE_D), .unset] [])) t → Steps p.tables e below (s₁.setTop (entryFrame m #[(.ref w_INDETERMINATE_D)] 2)) t := fun t k => castTop (ef17 m w_INDETERMINATE_D) k
  obtain ⟨S_w_PERMIT, E_w_PERMIT, S_w_INDETERMINATE_P, E_w_INDETERMINATE_P, S_w_DENY, E_w_DENY, S_w_NOT_APPLICABLE, E_w_NOT_APPLICABLE, S_w_INDETERMINATE_D, E_w_INDETERMINATE_D, S_w_INDETERMINATE_DP, E_w_INDETERMINATE_DP, F_ordinal_w_INDETERMINATE_P, F_ordinal_w_PERMIT, F_ordinal_w_DENY, F_ordinal_w_NOT_APPLICABLE, F_ordinal_w_INDETERMINATE_D, F_ordinal_w_INDETERMINATE_DP, ne_w_PERMIT_w_INDETERMINATE_P, ne_w_PERMIT_w_DENY, ne_w_PERMIT_w_NOT_APPLICABLE, ne_w_PERMIT_w_INDETERMINATE_D, ne_w_PERMIT_w_INDETERMINATE_DP, ne_w_INDETERMINATE_P_w_DENY, ne_w_INDETERMINATE_P_w_NOT_APPLICABLE, ne_w_INDETERMINATE_P_w_INDETERMINATE_D, ne_w_INDETERMINATE_P_w_INDETERMINATE_DP, ne_w_DENY_w_NOT_APPLICABLE, ne_w_DENY_w_INDETERMINATE_D, ne_w_DENY_w_INDETERMINATE_DP, ne_w_NOT_APPLICABLE_w_INDETERMINATE_D, ne_w_NOT_APPLICABLE_w_INDETERMINATE_DP, ne_w_INDETERMINATE_D_w_INDETERMINATE_DP, -⟩ := id HW
  obtain ⟨T1, X1, e1, st1⟩ := getS2 X0 hx hZ hown (host := "") (Or.inl (hw _ (List.mem_of_getElem? (i := 13) rfl))) Via.refl e0 S_w_PERMIT (g := (mkF m 1 #[.val (.ref w_INDETERMINATE_D), .unset] [(.ref w_INDETERMINATE_D)])) rfl (hb hby d2_1)
  obtain ⟨T2, X2, e2, st2⟩ := getS2 X1 hx hZ hown (host := "") (Or.inl (hw _ (List.mem_of_getElem? (i := 22) rfl))) Via.refl e1 S_w_DENY (g := (mkF m 15 #[.val (.ref w_INDETERMINATE_D), .unset] [(.ref w_INDETERMINATE_D)])) rfl (hb hby d2_15)
  obtain ⟨fs, hr, hrun, hended, hW, hsame⟩ := X2.leave (v := some (.ref w_INDETERMINATE_D)) (fun h => by rw [Bd.returns] at h; cases h)
  refine ⟨_, _, pre0 _ ?_, hrun, hended, _, _, rfl, ?_, ⟨_, rfl⟩, hW, hsame.mono (by decide) (by decide)⟩
  · show Steps p.tables e below (s₁.setTop (mkF m 0 #[.val (.ref w_INDETERMINATE_D), .unset] [])) _
    refine XS.aloadN X0.here hx rfl (hb hby d2_0) rfl rfl ?_
    show Steps p.tables e below (s₁.setTop (mkF m 1 #[.val (.ref w_INDETERMINATE_D), .unset] [(.ref w_INDETERMINATE_D)])) _
    refine st1 _ ?_
    show Steps p.tables e below (T1.setTop (mkF m 4 #[.val (.ref w_INDETERMINATE_D), .unset] [(.ref w_PERMIT), (.ref w_INDETERMINATE_D)])) _
    refine Jvm.RoadKit.acmp (g := (mkF m 4 #[.val (.ref w_INDETERMINATE_D), .unset] [(.ref w_PERMIT), (.ref w_INDETERMINATE_D)])) X1 hx rfl rfl rfl (pc0 := 4) (pc' := 14) (same := false) rfl (hb hby d2_4) rfl (decide_eq_false fun q => ne_w_PERMIT_w_INDETERMINATE_D (Value.ref.inj q).symm) (by decide) (by decide) ?_
    show Steps p.tables e below (T1.setTop (mkF m 14 #[.val (.ref w_INDETERMINATE_D), .unset] [])) _
    refine XS.aloadN X1.here hx rfl (hb hby d2_14) rfl rfl ?_
    show Steps p.tables e below (T1.setTop (mkF m 15 #[.val (.ref w_INDETERMINATE_D), .unset] [(.ref w_INDETERMINATE_D)])) _
    refine st2 _ ?_
    show Steps p.tables e below (T2.setTop (mkF m 18 #[.val (.ref w_INDETERMINATE_D), .unset] [(.ref w_DENY), (.ref w_INDETERMINATE_D)])) _
    refine Jvm.RoadKit.acmp (g := (mkF m 18 #[.val (.ref w_INDETERMINATE_D), .unset] [(.ref w_DENY), (.ref w_INDETERMINATE_D)])) X2 hx rfl rfl rfl (pc0 := 18) (pc' := 28) (same := false) rfl (hb hby d2_18) rfl (decide_eq_false fun q => ne_w_DENY_w_INDETERMINATE_D (Value.ref.inj q).symm) (by decide) (by decide) ?_
    show Steps p.tables e below (T2.setTop (mkF m 28 #[.val (.ref w_INDETERMINATE_D), .unset] [])) _
    refine XS.aloadN X2.here hx rfl (hb hby d2_28) rfl rfl ?_
    show Steps p.tables e below (T2.setTop (mkF m 29 #[.val (.ref w_INDETERMINATE_D), .unset] [(.ref w_INDETERMINATE_D)])) _
    refine XS.astoreN X2.here hx rfl (hb hby d2_29) rfl rfl (l' := #[.val (.ref w_INDETERMINATE_D), .val (.ref w_INDETERMINATE_D)]) rfl ?_
    show Steps p.tables e below (T2.setTop (mkF m 30 #[.val (.ref w_INDETERMINATE_D), .val (.ref w_INDETERMINATE_D)] [])) _
    refine XS.aloadN X2.here hx rfl (hb hby d2_30) rfl rfl ?_
    show Steps p.tables e below (T2.setTop (mkF m 31 #[.val (.ref w_INDETERMINATE_D), .val (.ref w_INDETERMINATE_D)] [(.ref w_INDETERMINATE_D)])) _
    jvm_step X2.here [X2.here.top, hx, (hb hby d2_31), X2.method', Bd.returns, Value.isRef, FieldType.isReference]
    first | (intro acts; rw [hr _ acts rfl rfl rfl]) | rw [hr _ _ rfl rfl rfl]
    exact Steps.refl _
  · exact ⟨rfl, N0, e2⟩
set_option maxRecDepth 65536 in
set_option maxHeartbeats 40000000 in
theorem rm0_c1 (l : Launch) (Z : State) (a0 : Array Value) (hw : ∀ d ∈ tables_1, d.before a0 Z = true) (ws : List Jvm.Cond) (w_PERMIT : Addr) (w_INDETERMINATE_P : Addr) (w_DENY : Addr) (w_NOT_APPLICABLE : Addr) (w_INDETERMINATE_D : Addr) (w_INDETERMINATE_DP : Addr) (p1 : Int32) (h0 : Heap) (n0 : Nat) (Z0 : n0 ≤ h0.size) (HW : World Z h0 w_PERMIT w_INDETERMINATE_P w_DENY w_NOT_APPLICABLE w_INDETERMINATE_D w_INDETERMINATE_DP) (hk : ((p1 &&& (2147483647 : Int32)) % (6 : Int32)) = (1 : Int32)) :
    MetFree l x (head1 (Jvm.Cond.code x code maxLocals ret :: ws) room_1) (fun a U => a = #[(.int p1)] ∧ Z.Warmed39 U.vm ∧ U.heap = h0) (fun _ _ _ _ _ => True) (fun _ U o U' => ∃ v L, o = .returned v ∧ Q0 h0 n0 v U'.heap L ∧ FrameEnd U o U' L room_1.cells room_1.slots) := by
  refine MetFree.of_bodySF (plainFor_of_name pn6) hisR ?_
  intro p e s m args below meth c s₁ Bd hml0 hP hK
  obtain ⟨rfl, hZ, hh⟩ := hP
  have hx := Bd.exec
  have hby := Bd.bytes
  have hml : c.maxLocals = 4 := hml0
  have hown : s.vm.findClass "com/example/minos/minos/xacml/DecisionUnderIndeterminateTargetPinLaw" = some m.cls := findClass_of_methodNamed Bd.named
  have X0 : Stand p l e room_1 s m #[(.int p1)] below meth c s₁ [] 0 0 := Stand.of_body Bd
  have e0 : s₁.heap = h0 := by rw [← hh, Bd.state]; rfl
  have N0 := Fr.nil n0
  have pre0 : ∀ t, Steps p.tables e below (s₁.setTop (mkF m 0 #[.val (.int p1), .unset, .unset, .unset] [])) t → Steps p.tables e below (s₁.setTop (entryFrame m #[(.int p1)] maxLocals)) t := fun t k => castTop (ef33 m p1) k
  obtain ⟨S_w_PERMIT, E_w_PERMIT, S_w_INDETERMINATE_P, E_w_INDETERMINATE_P, S_w_DENY, E_w_DENY, S_w_NOT_APPLICABLE, E_w_NOT_APPLICABLE, S_w_INDETERMINATE_D, E_w_INDETERMINATE_D, S_w_INDETERMINATE_DP, E_w_INDETERMINATE_DP, F_ordinal_w_INDETERMINATE_P, F_ordinal_w_PERMIT, F_ordinal_w_DENY, F_ordinal_w_NOT_APPLICABLE, F_ordinal_w_INDETERMINATE_D, F_ordinal_w_INDETERMINATE_DP, ne_w_PERMIT_w_INDETERMINATE_P, ne_w_PERMIT_w_DENY, ne_w_PERMIT_w_NOT_APPLICABLE, ne_w_PERMIT_w_INDETERMINATE_D, ne_w_PERMIT_w_INDETERMINATE_DP, ne_w_INDETERMINATE_P_w_DENY, ne_w_INDETERMINATE_P_w_NOT_APPLICABLE, ne_w_INDETERMINATE_P_w_INDETERMINATE_D, ne_w_INDETERMINATE_P_w_INDETERMINATE_DP, ne_w_DENY_w_NOT_APPLICABLE, ne_w_DENY_w_INDETERMINATE_D, ne_w_DENY_w_INDETERMINATE_DP, ne_w_NOT_APPLICABLE_w_INDETERMINATE_D, ne_w_NOT_APPLICABLE_w_INDETERMINATE_DP, ne_w_INDETERMINATE_D_w_INDETERMINATE_DP, -⟩ := id HW
  obtain ⟨_, _, ⟨T1, L1, k1, n1⟩, -, X1, ⟨Lc1, hQ1, l1, y1, z1⟩, st1⟩ := Jvm.LawKit.callS X0 hx (y := (⟨"com/example/minos/minos/xacml/DecisionUnderIndeterminateTargetPinLaw", "pick", "(I)Lcom/example/minos/minos/xacml/Decision;"⟩ : MethodName)) hown (mvT hZ (hw _ (List.mem_of_getElem? (i := 1) rfl))) (mvT hZ (hw _ (List.mem_of_getElem? (i := 2) rfl))) (mvT hZ (hw _ (List.mem_of_getElem? (i := 3) rfl))) (mvT hZ (hw _ (List.mem_of_getElem? (i := 4) rfl))) (by decide) (backOf (W := 0) (rm1_5 l Z a0 hw [] w_PERMIT w_INDETERMINATE_P w_DENY w_NOT_APPLICABLE w_INDETERMINATE_D w_INDETERMINATE_DP h0 n0 Z0 HW) hZ (hw _ (List.mem_of_getElem? (i := 4) rfl)) (hw _ (List.mem_of_getElem? (i := 3) rfl)) (by decide) (by decide)) (g := (mkF m 9 #[.val (.int p1), .val (.int (1 : Int32)), .unset, .unset] [(.int (1 : Int32))])) rfl (by rw [hml]; rfl) (argsL := [(.int (1 : Int32))]) (rest := []) (lenOf pd7 rfl) rfl (by show 2 * 0 + _ ≤ _; exact Nat.le_of_eq rfl) (hb hby at_9) (fun _ _ => ⟨rfl, e0, (by decide : 0 + 0 ≤ _), (by decide : 0 + 0 ≤ _)⟩)
  dsimp only [Pt.U, Pt.locs, Pt.cells, Pt.slots] at X1 l1 y1 z1 st1 hQ1
  subst l1 y1 z1
  obtain ⟨rfl, N1q, e1⟩ := hQ1
  have N1 := Fr.app N0 N1q
  obtain ⟨cq2, kq2, q2a, q2b, q2c⟩ := isOf hZ e1 E_w_DENY
  obtain ⟨_, _, ⟨T2, L2, k2, n2⟩, -, X2, ⟨Lc2, hQ2, l2, y2, z2⟩, st2⟩ := X1.virtualBack hx (y := (⟨"com/example/minos/minos/xacml/Decision", "underIndeterminateTarget", "()Lcom/example/minos/minos/xacml/Decision;"⟩ : MethodName)) (z := (⟨"com/example/minos/minos/xacml/Decision", "underIndeterminateTarget", "()Lcom/example/minos/minos/xacml/Decision;"⟩ : MethodName)) hown (mvT hZ (hw _ (List.mem_of_getElem? (i := 8) rfl))) (mvT hZ (hw _ (List.mem_of_getElem? (i := 9) rfl))) (notFace_of_selects (args := #[]) (mvT hZ (hw _ (List.mem_of_getElem? (i := 11) rfl)))) (mvT hZ (hw _ (List.mem_of_getElem? (i := 11) rfl))) (mvT hZ (hw _ (List.mem_of_getElem? (i := 10) rfl))) (by decide) (backOf (W := 0) (rm2_6 l Z a0 hw [] w_PERMIT w_INDETERMINATE_P w_DENY w_NOT_APPLICABLE w_INDETERMINATE_D w_INDETERMINATE_DP h0 n0 Z0 HW) hZ (hw _ (List.mem_of_getElem? (i := 12) rfl)) (hw _ (List.mem_of_getElem? (i := 6) rfl)) (by decide) (by decide)) q2a q2c (g := (mkF m 14 #[.val (.int p1), .val (.int (1 : Int32)), .val (.ref w_DENY), .unset] [(.ref w_DENY)])) rfl (by rw [hml]; rfl) (Steps.refl _) (argsL := []) (rest := []) (lenOf pd19 rfl) rfl (by show 2 * 0 + _ ≤ _; exact Nat.le_of_eq rfl) (hb hby at_14) (fun _ _ => ⟨rfl, e1, (by decide : 0 + 0 ≤ _), (by decide : 0 + 0 ≤ _)⟩)
  dsimp only [Pt.U, Pt.locs, Pt.cells, Pt.slots] at X2 l2 y2 z2 st2 hQ2
  subst l2 y2 z2
  obtain ⟨rfl, N2q, e2⟩ := hQ2
  have N2 := Fr.app N1 N2q
  obtain ⟨_, _, ⟨T3, L3, k3, n3⟩, -, X3, ⟨Lc3, hQ3, l3, y3, z3⟩, st3⟩ := Jvm.LawKit.callS X2 hx (y := (⟨"com/example/minos/minos/xacml/DecisionUnderIndeterminateTargetPinLaw", "expected", "(I)Lcom/example/minos/minos/xacml/Decision;"⟩ : MethodName)) hown (mvT hZ (hw _ (List.mem_of_getElem? (i := 16) rfl))) (mvT hZ (hw _ (List.mem_of_getElem? (i := 17) rfl))) (mvT hZ (hw _ (List.mem_of_getElem? (i := 3) rfl))) (mvT hZ (hw _ (List.mem_of_getElem? (i := 18) rfl))) (by decide) (backOf (W := 1) (rm3_7 l Z a0 hw [] w_PERMIT w_INDETERMINATE_P w_DENY w_NOT_APPLICABLE w_INDETERMINATE_D w_INDETERMINATE_DP h0 n0 Z0 HW) hZ (hw _ (List.mem_of_getElem? (i := 18) rfl)) (hw _ (List.mem_of_getElem? (i := 3) rfl)) (by decide) (by decide)) (g := (mkF m 20 #[.val (.int p1), .val (.int (1 : Int32)), .val (.ref w_DENY), .val (.ref w_INDETERMINATE_D)] [(.int (1 : Int32)), (.ref w_INDETERMINATE_D)])) rfl (by rw [hml]; rfl) (argsL := [(.int (1 : Int32))]) (rest := [(.ref w_INDETERMINATE_D)]) (lenOf pd7 rfl) rfl (by show 2 * 0 + _ ≤ _; exact Nat.le_of_eq rfl) (hb hby at_20) (fun _ _ => ⟨rfl, e2, (by decide : 0 + 0 ≤ _), (by decide : 0 + 0 ≤ _)⟩)
  dsimp only [Pt.U, Pt.locs, Pt.cells, Pt.slots] at X3 l3 y3 z3 st3 hQ3
  subst l3 y3 z3
  obtain ⟨rfl, N3q, e3⟩ := hQ3
  have N3 := Fr.app N2 N3q
  obtain ⟨T4, X4, e4, st4⟩ := getS2 X3 hx hZ hown (host := "") (Or.inl (hw _ (List.mem_of_getElem? (i := 5) rfl))) Via.refl e3 S_w_PERMIT (g := (mkF m 29 #[.val (.int p1), .val (.int (1 : Int32)), .val (.ref w_DENY), .val (.ref w_INDETERMINATE_D)] [(.ref w_INDETERMINATE_D)])) rfl (hb hby at_29)
  obtain ⟨T5, X5, e5, st5⟩ := getS2 X4 hx hZ hown (host := "") (Or.inl (hw _ (List.mem_of_getElem? (i := 20) rfl))) Via.refl e4 S_w_DENY (g := (mkF m 36 #[.val (.int p1), .val (.int (1 : Int32)), .val (.ref w_DENY), .val (.ref w_INDETERMINATE_D)] [(.ref w_INDETERMINATE_D)])) rfl (hb hby at_36)
  obtain ⟨cq6, kq6, q6a, q6b, q6c⟩ := isOf hZ e5 E_w_INDETERMINATE_D
  obtain ⟨_, _, ⟨T6, L6, k6, n6⟩, -, X6, ⟨Lc6, hQ6, l6, y6, z6⟩, st6⟩ := X5.virtualBack hx (y := (⟨"com/example/minos/minos/xacml/Decision", "underIndeterminateTarget", "()Lcom/example/minos/minos/xacml/Decision;"⟩ : MethodName)) (z := (⟨"com/example/minos/minos/xacml/Decision", "underIndeterminateTarget", "()Lcom/example/minos/minos/xacml/Decision;"⟩ : MethodName)) hown (mvT hZ (hw _ (List.mem_of_getElem? (i := 8) rfl))) (mvT hZ (hw _ (List.mem_of_getElem? (i := 9) rfl))) (notFace_of_selects (args := #[]) (mvT hZ (hw _ (List.mem_of_getElem? (i := 11) rfl)))) (mvT hZ (hw _ (List.mem_of_getElem? (i := 11) rfl))) (mvT hZ (hw _ (List.mem_of_getElem? (i := 10) rfl))) (by decide) (backOf (W := 0) (rm2_8 l Z a0 hw [] w_PERMIT w_INDETERMINATE_P w_DENY w_NOT_APPLICABLE w_INDETERMINATE_D w_INDETERMINATE_DP h0 n0 Z0 HW) hZ (hw _ (List.mem_of_getElem? (i := 12) rfl)) (hw _ (List.mem_of_getElem? (i := 6) rfl)) (by decide) (by decide)) q6a q6c (g := (mkF m 45 #[.val (.int p1), .val (.int (1 : Int32)), .val (.ref w_DENY), .val (.ref w_INDETERMINATE_D)] [(.ref w_INDETERMINATE_D)])) rfl (by rw [hml]; rfl) (Steps.refl _) (argsL := []) (rest := []) (lenOf pd19 rfl) rfl (by show 2 * 0 + _ ≤ _; exact Nat.le_of_eq rfl) (hb hby at_45) (fun _ _ => ⟨rfl, e5, (by decide : 0 + 0 ≤ _), (by decide : 0 + 0 ≤ _)⟩)
  dsimp only [Pt.U, Pt.locs, Pt.cells, Pt.slots] at X6 l6 y6 z6 st6 hQ6
  subst l6 y6 z6
  obtain ⟨rfl, N6q, e6⟩ := hQ6
  have N6 := Fr.app N3 N6q
  obtain ⟨fs, hr, hrun, hended, hW, hsame⟩ := X6.leave (v := some (.int (1 : Int32))) (fun h => by rw [Bd.returns] at h; cases h)
  refine ⟨_, _, pre0 _ ?_, hrun, hended, _, _, rfl, ?_, ⟨_, rfl⟩, hW, hsame.mono (by decide) (by decide)⟩
  · show Steps p.tables e below (s₁.setTop (mkF m 0 #[.val (.int p1), .unset, .unset, .unset] [])) _
    refine XS.iloadN X0.here hx rfl (hb hby at_0) rfl ?_
    show Steps p.tables e below (s₁.setTop (mkF m 1 #[.val (.int p1), .unset, .unset, .unset] [(.int p1)])) _
    refine X0.ldcInt hx hown (mvT hZ (hw _ (List.mem_of_getElem? (i := 0) rfl))) (g := (mkF m 1 #[.val (.int p1), .unset, .unset, .unset] [(.int p1)])) rfl (hb hby at_1) _ ?_
    show Steps p.tables e below (s₁.setTop (mkF m 3 #[.val (.int p1), .unset, .unset, .unset] [(.int (2147483647 : Int32)), (.int p1)])) _
    refine XS.iand X0.here hx rfl (hb hby at_3) rfl ?_
    show Steps p.tables e below (s₁.setTop (mkF m 4 #[.val (.int p1), .unset, .unset, .unset] [(.int (p1 &&& (2147483647 : Int32)))])) _
    refine XS.bipush X0.here hx rfl (hb hby at_4) ?_
    show Steps p.tables e below (s₁.setTop (mkF m 6 #[.val (.int p1), .unset, .unset, .unset] [(.int (6 : Int32)), (.int (p1 &&& (2147483647 : Int32)))])) _
    refine iremM X0 hx rfl (hb hby at_6) rfl (by decide) ?_
    rw [hk]
    show Steps p.tables e below (s₁.setTop (mkF m 7 #[.val (.int p1), .unset, .unset, .unset] [(.int (1 : Int32))])) _
    refine XS.istoreN X0.here hx rfl (hb hby at_7) rfl (l' := #[.val (.int p1), .val (.int (1 : Int32)), .unset, .unset]) rfl ?_
    show Steps p.tables e below (s₁.setTop (mkF m 8 #[.val (.int p1), .val (.int (1 : Int32)), .unset, .unset] [])) _
    refine XS.iloadN X0.here hx rfl (hb hby at_8) rfl ?_
    show Steps p.tables e below (s₁.setTop (mkF m 9 #[.val (.int p1), .val (.int (1 : Int32)), .unset, .unset] [(.int (1 : Int32))])) _
    refine st1 _ ?_
    show Steps p.tables e below (T1.setTop (mkF m 12 #[.val (.int p1), .val (.int (1 : Int32)), .unset, .unset] [(.ref w_DENY)])) _
    refine XS.astoreN X1.here hx rfl (hb hby at_12) rfl rfl (l' := #[.val (.int p1), .val (.int (1 : Int32)), .val (.ref w_DENY), .unset]) rfl ?_
    show Steps p.tables e below (T1.setTop (mkF m 13 #[.val (.int p1), .val (.int (1 : Int32)), .val (.ref w_DENY), .unset] [])) _
    refine XS.aloadN X1.here hx rfl (hb hby at_13) rfl rfl ?_
    show Steps p.tables e below (T1.setTop (mkF m 14 #[.val (.int p1), .val (.int (1 : Int32)), .val (.ref w_DENY), .unset] [(.ref w_DENY)])) _
    refine st2.trans ?_
    show Steps p.tables e below (T2.setTop (mkF m 17 #[.val (.int p1), .val (.int (1 : Int32)), .val (.ref w_DENY), .unset] [(.ref w_INDETERMINATE_D)])) _
    refine XS.astoreN X2.here hx rfl (hb hby at_17) rfl rfl (l' := #[.val (.int p1), .val (.int (1 : Int32)), .val (.ref w_DENY), .val (.ref w_INDETERMINATE_D)]) rfl ?_
    show Steps p.tables e below (T2.setTop (mkF m 18 #[.val (.int p1), .val (.int (1 : Int32)), .val (.ref w_DENY), .val (.ref w_INDETERMINATE_D)] [])) _
    refine XS.aloadN X2.here hx rfl (hb hby at_18) rfl rfl ?_
    show Steps p.tables e below (T2.setTop (mkF m 19 #[.val (.int p1), .val (.int (1 : Int32)), .val (.ref w_DENY), .val (.ref w_INDETERMINATE_D)] [(.ref w_INDETERMINATE_D)])) _
    refine XS.iloadN X2.here hx rfl (hb hby at_19) rfl ?_
    show Steps p.tables e below (T2.setTop (mkF m 20 #[.val (.int p1), .val (.int (1 : Int32)), .val (.ref w_DENY), .val (.ref w_INDETERMINATE_D)] [(.int (1 : Int32)), (.ref w_INDETERMINATE_D)])) _
    refine st3 _ ?_
    show Steps p.tables e below (T3.setTop (mkF m 23 #[.val (.int p1), .val (.int (1 : Int32)), .val (.ref w_DENY), .val (.ref w_INDETERMINATE_D)] [(.ref w_INDETERMINATE_D), (.ref w_INDETERMINATE_D)])) _
    refine Jvm.RoadKit.acmp (g := (mkF m 23 #[.val (.int p1), .val (.int (1 : Int32)), .val (.ref w_DENY), .val (.ref w_INDETERMINATE_D)] [(.ref w_INDETERMINATE_D), (.ref w_INDETERMINATE_D)])) X3 hx rfl rfl rfl (pc0 := 23) (pc' := 28) (same := true) rfl (hb hby at_23) rfl (decide_eq_true rfl) (by decide) (by decide) ?_
    show Steps p.tables e below (T3.setTop (mkF m 28 #[.val (.int p1), .val (.int (1 : Int32)), .val (.ref w_DENY), .val (.ref w_INDETERMINATE_D)] [])) _
    refine XS.aloadN X3.here hx rfl (hb hby at_28) rfl rfl ?_
    show Steps p.tables e below (T3.setTop (mkF m 29 #[.val (.int p1), .val (.int (1 : Int32)), .val (.ref w_DENY), .val (.ref w_INDETERMINATE_D)] [(.ref w_INDETERMINATE_D)])) _
    refine st4 _ ?_
    show Steps p.tables e below (T4.setTop (mkF m 32 #[.val (.int p1), .val (.int (1 : Int32)), .val (.ref w_DENY), .val (.ref w_INDETERMINATE_D)] [(.ref w_PERMIT), (.ref w_INDETERMINATE_D)])) _
    refine Jvm.RoadKit.acmp (g := (mkF m 32 #[.val (.int p1), .val (.int (1 : Int32)), .val (.ref w_DENY), .val (.ref w_INDETERMINATE_D)] [(.ref w_PERMIT), (.ref w_INDETERMINATE_D)])) X4 hx rfl rfl rfl (pc0 := 32) (pc' := 35) (same := false) rfl (hb hby at_32) rfl (decide_eq_false fun q => ne_w_PERMIT_w_INDETERMINATE_D (Value.ref.inj q).symm) (by decide) (by decide) ?_
    show Steps p.tables e below (T4.setTop (mkF m 35 #[.val (.int p1), .val (.int (1 : Int32)), .val (.ref w_DENY), .val (.ref w_INDETERMINATE_D)] [])) _
    refine XS.aloadN X4.here hx rfl (hb hby at_35) rfl rfl ?_
    show Steps p.tables e below (T4.setTop (mkF m 36 #[.val (.int p1), .val (.int (1 : Int32)), .val (.ref w_DENY), .val (.ref w_INDETERMINATE_D)] [(.ref w_INDETERMINATE_D)])) _
    refine st5 _ ?_
    show Steps p.tables e below (T5.setTop (mkF m 39 #[.val (.int p1), .val (.int (1 : Int32)), .val (.ref w_DENY), .val (.ref w_INDETERMINATE_D)] [(.ref w_DENY), (.ref w_INDETERMINATE_D)])) _
    refine Jvm.RoadKit.acmp (g := (mkF m 39 #[.val (.int p1), .val (.int (1 : Int32)), .val (.ref w_DENY), .val (.ref w_INDETERMINATE_D)] [(.ref w_DENY), (.ref w_INDETERMINATE_D)])) X5 hx rfl rfl rfl (pc0 := 39) (pc' := 44) (same := false) rfl (hb hby at_39) rfl (decide_eq_false fun q => ne_w_DENY_w_INDETERMINATE_D (Value.ref.inj q).symm) (by decide) (by decide) ?_
    show Steps p.tables e below (T5.setTop (mkF m 44 #[.val (.int p1), .val (.int (1 : Int32)), .val (.ref w_DENY), .val (.ref w_INDETERMINATE_D)] [])) _
    refine XS.aloadN X5.here hx rfl (hb hby at_44) rfl rfl ?_
    show Steps p.tables e below (T5.setTop (mkF m 45 #[.val (.int p1), .val (.int (1 : Int32)), .val (.ref w_DENY), .val (.ref w_INDETERMINATE_D)] [(.ref w_INDETERMINATE_D)])) _
    refine st6.trans ?_
    show Steps p.tables e below (T6.setTop (mkF m 48 #[.val (.int p1), .val (.int (1 : Int32)), .val (.ref w_DENY), .val (.ref w_INDETERMINATE_D)] [(.ref w_INDETERMINATE_D)])) _
    refine XS.aloadN X6.here hx rfl (hb hby at_48) rfl rfl ?_
    show Steps p.tables e below (T6.setTop (mkF m 49 #[.val (.int p1), .val (.int (1 : Int32)), .val (.ref w_DENY), .val (.ref w_INDETERMINATE_D)] [(.ref w_INDETERMINATE_D), (.ref w_INDETERMINATE_D)])) _
    refine Jvm.RoadKit.acmp (g := (mkF m 49 #[.val (.int p1), .val (.int (1 : Int32)), .val (.ref w_DENY), .val (.ref w_INDETERMINATE_D)] [(.ref w_INDETERMINATE_D), (.ref w_INDETERMINATE_D)])) X6 hx rfl rfl rfl (pc0 := 49) (pc' := 52) (same := true) rfl (hb hby at_49) rfl (decide_eq_true rfl) (by decide) (by decide) ?_
    show Steps p.tables e below (T6.setTop (mkF m 52 #[.val (.int p1), .val (.int (1 : Int32)), .val (.ref w_DENY), .val (.ref w_INDETERMINATE_D)] [])) _
    refine XS.iconst X6.here hx rfl (hb hby at_52) ?_
    show Steps p.tables e below (T6.setTop (mkF m 53 #[.val (.int p1), .val (.int (1 : Int32)), .val (.ref w_DENY), .val (.ref w_INDETERMINATE_D)] [(.int (1 : Int32))])) _
    refine XS.goto X6.here hx rfl (pc0 := 53) (pc' := 57) rfl (hb hby at_53) (by decide) (by decide) ?_
    show Steps p.tables e below (T6.setTop (mkF m 57 #[.val (.int p1), .val (.int (1 : Int32)), .val (.ref w_DENY), .val (.ref w_INDETERMINATE_D)] [(.int (1 : Int32))])) _
    exact retN X6 hx (t := .boolean) Bd.returns (by simp) (hb hby at_57) hr
  · exact ⟨rfl, N6⟩
theorem d1_17 : decode method_2_code 17 = .ok (.iload_n 0, 1) := by decide +kernel
theorem d1_18 : decode method_2_code 18 = .ok (.iconst 2, 1) := by decide +kernel
theorem d1_19 : decode method_2_code 19 = .ok (.if_icmp .ne 7, 3) := by decide +kernel
theorem d1_22 : decode method_2_code 22 = .ok (.getstatic 16, 3) := by decide +kernel
theorem d1_25 : decode method_2_code 25 = .ok (.areturn, 1) := by decide +kernel
def Q1_10 (Z : State) (w_PERMIT : Addr) (w_INDETERMINATE_P : Addr) (w_DENY : Addr) (w_NOT_APPLICABLE : Addr) (w_INDETERMINATE_D : Addr) (w_INDETERMINATE_DP : Addr) (h0 : Heap) (n0 : Nat) (v : Option Value) (h : Heap) (L : List Loc) : Prop := v = some (.ref w_NOT_APPLICABLE) ∧ Fr n0 L ∧ h = h0
set_option maxRecDepth 65536 in
set_option maxHeartbeats 40000000 in
theorem rm1_10 (l : Launch) (Z : State) (a0 : Array Value) (hw : ∀ d ∈ tables_1, d.before a0 Z = true) (ws : List Jvm.Cond) (w_PERMIT : Addr) (w_INDETERMINATE_P : Addr) (w_DENY : Addr) (w_NOT_APPLICABLE : Addr) (w_INDETERMINATE_D : Addr) (w_INDETERMINATE_DP : Addr) (h0 : Heap) (n0 : Nat) (Z0 : n0 ≤ h0.size) (HW : World Z h0 w_PERMIT w_INDETERMINATE_P w_DENY w_NOT_APPLICABLE w_INDETERMINATE_D w_INDETERMINATE_DP) :
    MetFree l (⟨"com/example/minos/minos/xacml/DecisionUnderIndeterminateTargetPinLaw", "pick", "(I)Lcom/example/minos/minos/xacml/Decision;"⟩ : MethodName) (head1 (Jvm.Cond.code (⟨"com/example/minos/minos/xacml/DecisionUnderIndeterminateTargetPinLaw", "pick", "(I)Lcom/example/minos/minos/xacml/Decision;"⟩ : MethodName) method_2_code 1 (some (.object "com/example/minos/minos/xacml/Decision")) :: ws) ({ frames := 0, cells := 0, slots := 0, locals := 0 } : Room)) (fun a U => a = #[(.int (2 : Int32))] ∧ Z.Warmed39 U.vm ∧ U.heap = h0) (fun _ _ _ _ _ => True) (fun _ U o U' => ∃ v L, o = .returned v ∧ Q1_10 Z w_PERMIT w_INDETERMINATE_P w_DENY w_NOT_APPLICABLE w_INDETERMINATE_D w_INDETERMINATE_DP h0 n0 v U'.heap L ∧ FrameEnd U o U' L ({ frames := 0, cells := 0, slots := 0, locals := 0 } : Room).cells ({ frames := 0, cells := 0, slots := 0, locals := 0 } : Room).slots) := by
  refine MetFree.of_bodySF (plainFor_of_name pn6) hisR ?_
  intro p e s m args below meth c s₁ Bd hml0 hP hK
  obtain ⟨rfl, hZ, hh⟩ := hP
  have hx := Bd.exec
  have hby := Bd.bytes
  have hml : c.maxLocals = 1 := hml0
  have hown : s.vm.findClass "com/example/minos/minos/xacml/DecisionUnderIndeterminateTargetPinLaw" = some m.cls := findClass_of_methodNamed Bd.named
  have X0 : Stand p l e ({ frames := 0, cells := 0, slots := 0, locals := 0 } : Room) s m #[(.int (2 : Int32))] below meth c s₁ [] 0 0 := Stand.of_body Bd
  have e0 : s₁.heap = h0 := by rw [← hh, Bd.state]; rfl
  have N0 := Fr.nil n0
  have pre0 : ∀ t, Steps p.tables e below (s₁.setTop (mkF m 0 #[.val (.int (2 : Int32))] [])) t → Steps p.tables e below (s₁.setTop (entryFrame m #[(.int (2 : Int32))] 1)) t := fun t k => castTop (ef5 m (2 : Int32)) k
  obtain ⟨S_w_PERMIT, E_w_PERMIT, S_w_INDETERMINATE_P, E_w_INDETERMINATE_P, S_w_DENY, E_w_DENY, S_w_NOT_APPLICABLE, E_w_NOT_APPLICABLE, S_w_INDETERMINATE_D, E_w_INDETERMINATE_D, S_w_INDETERMINATE_DP, E_w_INDETERMINATE_DP, F_ordinal_w_INDETERMINATE_P, F_ordinal_w_PERMIT, F_ordinal_w_DENY, F_ordinal_w_NOT_APPLICABLE, F_ordinal_w_INDETERMINATE_D, F_ordinal_w_INDETERMINATE_DP, ne_w_PERMIT_w_INDETERMINATE_P, ne_w_PERMIT_w_DENY, ne_w_PERMIT_w_NOT_APPLICABLE, ne_w_PERMIT_w_INDETERMINATE_D, ne_w_PERMIT_w_INDETERMINATE_DP, ne_w_INDETERMINATE_P_w_DENY, ne_w_INDETERMINATE_P_w_NOT_APPLICABLE, ne_w_INDETERMINATE_P_w_INDETERMINATE_D, ne_w_INDETERMINATE_P_w_INDETERMINATE_DP, ne_w_DENY_w_NOT_APPLICABLE, ne_w_DENY_w_INDETERMINATE_D, ne_w_DENY_w_INDETERMINATE_DP, ne_w_NOT_APPLICABLE_w_INDETERMINATE_D, ne_w_NOT_APPLICABLE_w_INDETERMINATE_DP, ne_w_INDETERMINATE_D_w_INDETERMINATE_DP, -⟩ := id HW
  obtain ⟨T1, X1, e1, st1⟩ := getS2 X0 hx hZ hown (host := "") (Or.inl (hw _ (List.mem_of_getElem? (i := 23) rfl))) Via.refl e0 S_w_NOT_APPLICABLE (g := (mkF m 22 #[.val (.int (2 : Int32))] [])) rfl (hb hby d1_22)
  obtain ⟨fs, hr, hrun, hended, hW, hsame⟩ := X1.leave (v := some (.ref w_NOT_APPLICABLE)) (fun h => by rw [Bd.returns] at h; cases h)
  refine ⟨_, _, pre0 _ ?_, hrun, hended, _, _, rfl, ?_, ⟨_, rfl⟩, hW, hsame.mono (by decide) (by decide)⟩
  · show Steps p.tables e below (s₁.setTop (mkF m 0 #[.val (.int (2 : Int32))] [])) _
    refine XS.iloadN X0.here hx rfl (hb hby d1_0) rfl ?_
    show Steps p.tables e below (s₁.setTop (mkF m 1 #[.val (.int (2 : Int32))] [(.int (2 : Int32))])) _
    refine XS.ifYes X0.here hx rfl (pc0 := 1) (pc' := 8) rfl (hb hby d1_1) rfl ((if0 _ _).trans (feq (by decide : ¬ ((2 : Int32) = (0 : Int32)))).2) (by decide) (by decide) ?_
    show Steps p.tables e below (s₁.setTop (mkF m 8 #[.val (.int (2 : Int32))] [])) _
    refine XS.iloadN X0.here hx rfl (hb hby d1_8) rfl ?_
    show Steps p.tables e below (s₁.setTop (mkF m 9 #[.val (.int (2 : Int32))] [(.int (2 : Int32))])) _
    refine XS.iconst X0.here hx rfl (hb hby d1_9) ?_
    show Steps p.tables e below (s₁.setTop (mkF m 10 #[.val (.int (2 : Int32))] [(.int (1 : Int32)), (.int (2 : Int32))])) _
    refine XS.icmpYes X0.here hx rfl (pc0 := 10) (pc' := 17) rfl (hb hby d1_10) rfl (feq (by decide : ¬ ((2 : Int32) = (1 : Int32)))).2 (by decide) (by decide) ?_
    show Steps p.tables e below (s₁.setTop (mkF m 17 #[.val (.int (2 : Int32))] [])) _
    refine XS.iloadN X0.here hx rfl (hb hby d1_17) rfl ?_
    show Steps p.tables e below (s₁.setTop (mkF m 18 #[.val (.int (2 : Int32))] [(.int (2 : Int32))])) _
    refine XS.iconst X0.here hx rfl (hb hby d1_18) ?_
    show Steps p.tables e below (s₁.setTop (mkF m 19 #[.val (.int (2 : Int32))] [(.int (2 : Int32)), (.int (2 : Int32))])) _
    refine XS.icmpNo X0.here hx rfl (hb hby d1_19) rfl (teq (by decide : (2 : Int32) = (2 : Int32))).2 ?_
    show Steps p.tables e below (s₁.setTop (mkF m 22 #[.val (.int (2 : Int32))] [])) _
    refine st1 _ ?_
    show Steps p.tables e below (T1.setTop (mkF m 25 #[.val (.int (2 : Int32))] [(.ref w_NOT_APPLICABLE)])) _
    jvm_step X1.here [X1.here.top, hx, (hb hby d1_25), X1.method', Bd.returns, Value.isRef, FieldType.isReference]
    first | (intro acts; rw [hr _ acts rfl rfl rfl]) | rw [hr _ _ rfl rfl rfl]
    exact Steps.refl _
  · exact ⟨rfl, N0, e1⟩
def Q2_11 (Z : State) (w_PERMIT : Addr) (w_INDETERMINATE_P : Addr) (w_DENY : Addr) (w_NOT_APPLICABLE : Addr) (w_INDETERMINATE_D : Addr) (w_INDETERMINATE_DP : Addr) (h0 : Heap) (n0 : Nat) (v : Option Value) (h : Heap) (L : List Loc) : Prop := v = some (.ref w_NOT_APPLICABLE) ∧ Fr n0 L ∧ h = h0
set_option maxRecDepth 65536 in
set_option maxHeartbeats 40000000 in
theorem rm2_11 (l : Launch) (Z : State) (a0 : Array Value) (hw : ∀ d ∈ tables_1, d.before a0 Z = true) (ws : List Jvm.Cond) (w_PERMIT : Addr) (w_INDETERMINATE_P : Addr) (w_DENY : Addr) (w_NOT_APPLICABLE : Addr) (w_INDETERMINATE_D : Addr) (w_INDETERMINATE_DP : Addr) (h0 : Heap) (n0 : Nat) (Z0 : n0 ≤ h0.size) (HW : World Z h0 w_PERMIT w_INDETERMINATE_P w_DENY w_NOT_APPLICABLE w_INDETERMINATE_D w_INDETERMINATE_DP) :
    MetFree l (⟨"com/example/minos/minos/xacml/Decision", "underIndeterminateTarget", "()Lcom/example/minos/minos/xacml/Decision;"⟩ : MethodName) (head1 (Jvm.Cond.code (⟨"com/example/minos/minos/xacml/Decision", "underIndeterminateTarget", "()Lcom/example/minos/minos/xacml/Decision;"⟩ : MethodName) prog_55_method_5_code 2 (some (.object "com/example/minos/minos/xacml/Decision")) :: ws) ({ frames := 0, cells := 0, slots := 0, locals := 0 } : Room)) (fun a U => a = #[(.ref w_NOT_APPLICABLE)] ∧ Z.Warmed39 U.vm ∧ U.heap = h0) (fun _ _ _ _ _ => True) (fun _ U o U' => ∃ v L, o = .returned v ∧ Q2_11 Z w_PERMIT w_INDETERMINATE_P w_DENY w_NOT_APPLICABLE w_INDETERMINATE_D w_INDETERMINATE_DP h0 n0 v U'.heap L ∧ FrameEnd U o U' L ({ frames := 0, cells := 0, slots := 0, locals := 0 } : Room).cells ({ frames := 0, cells := 0, slots := 0, locals := 0 } : Room).slots) := by
  refine MetFree.of_bodySF (plainFor_of_name pn18) hisR ?_
  intro p e s m args below meth c s₁ Bd hml0 hP hK
  obtain ⟨rfl, hZ, hh⟩ := hP
  have hx := Bd.exec
  have hby := Bd.bytes
  have hml : c.maxLocals = 2 := hml0
  have hown : s.vm.findClass "com/example/minos/minos/xacml/Decision" = some m.cls := findClass_of_methodNamed Bd.named
  have X0 : Stand p l e ({ frames := 0, cells := 0, slots := 0, locals := 0 } : Room) s m #[(.ref w_NOT_APPLICABLE)] below meth c s₁ [] 0 0 := Stand.of_body Bd
  have e0 : s₁.heap = h0 := by rw [← hh, Bd.state]; rfl
  have N0 := Fr.nil n0
  have pre0 : ∀ t, Steps p.tables e below (s₁.setTop (mkF m 0 #[.val (.ref w_NOT_APPLICABLE), .unset] [])) t → Steps p.tables e below (s₁.setTop (entryFrame m #[(.ref w_NOT_APPLICABLE)] 2)) t := fun t k => castTop (ef17 m w_NOT_APPLICABLE) k
  obtain ⟨S_w_PERMIT, E_w_PERMIT, S_w_INDETERMINATE_P, E_w_INDETERMINATE_P, S_w_DENY, E_w_DENY, S_w_NOT_APPLICABLE, E_w_NOT_APPLICABLE, S_w_INDETERMINATE_D, E_w_INDETERMINATE_D, S_w_INDETERMINATE_DP, E_w_INDETERMINATE_DP, F_ordinal_w_INDETERMINATE_P, F_ordinal_w_PERMIT, F_ordinal_w_DENY, F_ordinal_w_NOT_APPLICABLE, F_ordinal_w_INDETERMINATE_D, F_ordinal_w_INDETERMINATE_DP, ne_w_PERMIT_w_INDETERMINATE_P, ne_w_PERMIT_w_DENY, ne_w_PERMIT_w_NOT_APPLICABLE, ne_w_PERMIT_w_INDETERMINATE_D, ne_w_PERMIT_w_INDETERMINATE_DP, ne_w_INDETERMINATE_P_w_DENY, ne_w_INDETERMINATE_P_w_NOT_APPLICABLE, ne_w_INDETERMINATE_P_w_INDETERMINATE_D, ne_w_INDETERMINATE_P_w_INDETERMINATE_DP, ne_w_DENY_w_NOT_APPLICABLE, ne_w_DENY_w_INDETERMINATE_D, ne_w_DENY_w_INDETERMINATE_DP, ne_w_NOT_APPLICABLE_w_INDETERMINATE_D, ne_w_NOT_APPLICABLE_w_INDETERMINATE_DP, ne_w_INDETERMINATE_D_w_INDETERMINATE_DP, -⟩ := id HW
  obtain ⟨T1, X1, e1, st1⟩ := getS2 X0 hx hZ hown (host := "") (Or.inl (hw _ (List.mem_of_getElem? (i := 13) rfl))) Via.refl e0 S_w_PERMIT (g := (mkF m 1 #[.val (.ref w_NOT_APPLICABLE), .unset] [(.ref w_NOT_APPLICABLE)])) rfl (hb hby d2_1)
  obtain ⟨T2, X2, e2, st2⟩ := getS2 X1 hx hZ hown (host := "") (Or.inl (hw _ (List.mem_of_getElem? (i := 22) rfl))) Via.refl e1 S_w_DENY (g := (mkF m 15 #[.val (.ref w_NOT_APPLICABLE), .unset] [(.ref w_NOT_APPLICABLE)])) rfl (hb hby d2_15)
  obtain ⟨fs, hr, hrun, hended, hW, hsame⟩ := X2.leave (v := some (.ref w_NOT_APPLICABLE)) (fun h => by rw [Bd.returns] at h; cases h)
  refine ⟨_, _, pre0 _ ?_, hrun, hended, _, _, rfl, ?_, ⟨_, rfl⟩, hW, hsame.mono (by decide) (by decide)⟩
  · show Steps p.tables e below (s₁.setTop (mkF m 0 #[.val (.ref w_NOT_APPLICABLE), .unset] [])) _
    refine XS.aloadN X0.here hx rfl (hb hby d2_0) rfl rfl ?_
    show Steps p.tables e below (s₁.setTop (mkF m 1 #[.val (.ref w_NOT_APPLICABLE), .unset] [(.ref w_NOT_APPLICABLE)])) _
    refine st1 _ ?_
    show Steps p.tables e below (T1.setTop (mkF m 4 #[.val (.ref w_NOT_APPLICABLE), .unset] [(.ref w_PERMIT), (.ref w_NOT_APPLICABLE)])) _
    refine Jvm.RoadKit.acmp (g := (mkF m 4 #[.val (.ref w_NOT_APPLICABLE), .unset] [(.ref w_PERMIT), (.ref w_NOT_APPLICABLE)])) X1 hx rfl rfl rfl (pc0 := 4) (pc' := 14) (same := false) rfl (hb hby d2_4) rfl (decide_eq_false fun q => ne_w_PERMIT_w_NOT_APPLICABLE (Value.ref.inj q).symm) (by decide) (by decide) ?_
    show Steps p.tables e below (T1.setTop (mkF m 14 #[.val (.ref w_NOT_APPLICABLE), .unset] [])) _
    refine XS.aloadN X1.here hx rfl (hb hby d2_14) rfl rfl ?_
    show Steps p.tables e below (T1.setTop (mkF m 15 #[.val (.ref w_NOT_APPLICABLE), .unset] [(.ref w_NOT_APPLICABLE)])) _
    refine st2 _ ?_
    show Steps p.tables e below (T2.setTop (mkF m 18 #[.val (.ref w_NOT_APPLICABLE), .unset] [(.ref w_DENY), (.ref w_NOT_APPLICABLE)])) _
    refine Jvm.RoadKit.acmp (g := (mkF m 18 #[.val (.ref w_NOT_APPLICABLE), .unset] [(.ref w_DENY), (.ref w_NOT_APPLICABLE)])) X2 hx rfl rfl rfl (pc0 := 18) (pc' := 28) (same := false) rfl (hb hby d2_18) rfl (decide_eq_false fun q => ne_w_DENY_w_NOT_APPLICABLE (Value.ref.inj q).symm) (by decide) (by decide) ?_
    show Steps p.tables e below (T2.setTop (mkF m 28 #[.val (.ref w_NOT_APPLICABLE), .unset] [])) _
    refine XS.aloadN X2.here hx rfl (hb hby d2_28) rfl rfl ?_
    show Steps p.tables e below (T2.setTop (mkF m 29 #[.val (.ref w_NOT_APPLICABLE), .unset] [(.ref w_NOT_APPLICABLE)])) _
    refine XS.astoreN X2.here hx rfl (hb hby d2_29) rfl rfl (l' := #[.val (.ref w_NOT_APPLICABLE), .val (.ref w_NOT_APPLICABLE)]) rfl ?_
    show Steps p.tables e below (T2.setTop (mkF m 30 #[.val (.ref w_NOT_APPLICABLE), .val (.ref w_NOT_APPLICABLE)] [])) _
    refine XS.aloadN X2.here hx rfl (hb hby d2_30) rfl rfl ?_
    show Steps p.tables e below (T2.setTop (mkF m 31 #[.val (.ref w_NOT_APPLICABLE), .val (.ref w_NOT_APPLICABLE)] [(.ref w_NOT_APPLICABLE)])) _
    jvm_step X2.here [X2.here.top, hx, (hb hby d2_31), X2.method', Bd.returns, Value.isRef, FieldType.isReference]
    first | (intro acts; rw [hr _ acts rfl rfl rfl]) | rw [hr _ _ rfl rfl rfl]
    exact Steps.refl _
  · exact ⟨rfl, N0, e2⟩
theorem d3_17 : decode method_3_code 17 = .ok (.iload_n 0, 1) := by decide +kernel
theorem d3_18 : decode method_3_code 18 = .ok (.iconst 2, 1) := by decide +kernel
theorem d3_19 : decode method_3_code 19 = .ok (.if_icmp .ne 7, 3) := by decide +kernel
theorem d3_22 : decode method_3_code 22 = .ok (.getstatic 16, 3) := by decide +kernel
theorem d3_25 : decode method_3_code 25 = .ok (.areturn, 1) := by decide +kernel
def Q3_12 (Z : State) (w_PERMIT : Addr) (w_INDETERMINATE_P : Addr) (w_DENY : Addr) (w_NOT_APPLICABLE : Addr) (w_INDETERMINATE_D : Addr) (w_INDETERMINATE_DP : Addr) (h0 : Heap) (n0 : Nat) (v : Option Value) (h : Heap) (L : List Loc) : Prop := v = some (.ref w_NOT_APPLICABLE) ∧ Fr n0 L ∧ h = h0
set_option maxRecDepth 65536 in
set_option maxHeartbeats 40000000 in
theorem rm3_12 (l : Launch) (Z : State) (a0 : Array Value) (hw : ∀ d ∈ tables_1, d.before a0 Z = true) (ws : List Jvm.Cond) (w_PERMIT : Addr) (w_INDETERMINATE_P : Addr) (w_DENY : Addr) (w_NOT_APPLICABLE : Addr) (w_INDETERMINATE_D : Addr) (w_INDETERMINATE_DP : Addr) (h0 : Heap) (n0 : Nat) (Z0 : n0 ≤ h0.size) (HW : World Z h0 w_PERMIT w_INDETERMINATE_P w_DENY w_NOT_APPLICABLE w_INDETERMINATE_D w_INDETERMINATE_DP) :
    MetFree l (⟨"com/example/minos/minos/xacml/DecisionUnderIndeterminateTargetPinLaw", "expected", "(I)Lcom/example/minos/minos/xacml/Decision;"⟩ : MethodName) (head1 (Jvm.Cond.code (⟨"com/example/minos/minos/xacml/DecisionUnderIndeterminateTargetPinLaw", "expected", "(I)Lcom/example/minos/minos/xacml/Decision;"⟩ : MethodName) method_3_code 1 (some (.object "com/example/minos/minos/xacml/Decision")) :: ws) ({ frames := 0, cells := 0, slots := 0, locals := 0 } : Room)) (fun a U => a = #[(.int (2 : Int32))] ∧ Z.Warmed39 U.vm ∧ U.heap = h0) (fun _ _ _ _ _ => True) (fun _ U o U' => ∃ v L, o = .returned v ∧ Q3_12 Z w_PERMIT w_INDETERMINATE_P w_DENY w_NOT_APPLICABLE w_INDETERMINATE_D w_INDETERMINATE_DP h0 n0 v U'.heap L ∧ FrameEnd U o U' L ({ frames := 0, cells := 0, slots := 0, locals := 0 } : Room).cells ({ frames := 0, cells := 0, slots := 0, locals := 0 } : Room).slots) := by
  refine MetFree.of_bodySF (plainFor_of_name pn6) hisR ?_
  intro p e s m args below meth c s₁ Bd hml0 hP hK
  obtain ⟨rfl, hZ, hh⟩ := hP
  have hx := Bd.exec
  have hby := Bd.bytes
  have hml : c.maxLocals = 1 := hml0
  have hown : s.vm.findClass "com/example/minos/minos/xacml/DecisionUnderIndeterminateTargetPinLaw" = some m.cls := findClass_of_methodNamed Bd.named
  have X0 : Stand p l e ({ frames := 0, cells := 0, slots := 0, locals := 0 } : Room) s m #[(.int (2 : Int32))] below meth c s₁ [] 0 0 := Stand.of_body Bd
  have e0 : s₁.heap = h0 := by rw [← hh, Bd.state]; rfl
  have N0 := Fr.nil n0
  have pre0 : ∀ t, Steps p.tables e below (s₁.setTop (mkF m 0 #[.val (.int (2 : Int32))] [])) t → Steps p.tables e below (s₁.setTop (entryFrame m #[(.int (2 : Int32))] 1)) t := fun t k => castTop (ef25 m (2 : Int32)) k
  obtain ⟨S_w_PERMIT, E_w_PERMIT, S_w_INDETERMINATE_P, E_w_INDETERMINATE_P, S_w_DENY, E_w_DENY, S_w_NOT_APPLICABLE, E_w_NOT_APPLICABLE, S_w_INDETERMINATE_D, E_w_INDETERMINATE_D, S_w_INDETERMINATE_DP, E_w_INDETERMINATE_DP, F_ordinal_w_INDETERMINATE_P, F_ordinal_w_PERMIT, F_ordinal_w_DENY, F_ordinal_w_NOT_APPLICABLE, F_ordinal_w_INDETERMINATE_D, F_ordinal_w_INDETERMINATE_DP, ne_w_PERMIT_w_INDETERMINATE_P, ne_w_PERMIT_w_DENY, ne_w_PERMIT_w_NOT_APPLICABLE, ne_w_PERMIT_w_INDETERMINATE_D, ne_w_PERMIT_w_INDETERMINATE_DP, ne_w_INDETERMINATE_P_w_DENY, ne_w_INDETERMINATE_P_w_NOT_APPLICABLE, ne_w_INDETERMINATE_P_w_INDETERMINATE_D, ne_w_INDETERMINATE_P_w_INDETERMINATE_DP, ne_w_DENY_w_NOT_APPLICABLE, ne_w_DENY_w_INDETERMINATE_D, ne_w_DENY_w_INDETERMINATE_DP, ne_w_NOT_APPLICABLE_w_INDETERMINATE_D, ne_w_NOT_APPLICABLE_w_INDETERMINATE_DP, ne_w_INDETERMINATE_D_w_INDETERMINATE_DP, -⟩ := id HW
  obtain ⟨T1, X1, e1, st1⟩ := getS2 X0 hx hZ hown (host := "") (Or.inl (hw _ (List.mem_of_getElem? (i := 23) rfl))) Via.refl e0 S_w_NOT_APPLICABLE (g := (mkF m 22 #[.val (.int (2 : Int32))] [])) rfl (hb hby d3_22)
  obtain ⟨fs, hr, hrun, hended, hW, hsame⟩ := X1.leave (v := some (.ref w_NOT_APPLICABLE)) (fun h => by rw [Bd.returns] at h; cases h)
  refine ⟨_, _, pre0 _ ?_, hrun, hended, _, _, rfl, ?_, ⟨_, rfl⟩, hW, hsame.mono (by decide) (by decide)⟩
  · show Steps p.tables e below (s₁.setTop (mkF m 0 #[.val (.int (2 : Int32))] [])) _
    refine XS.iloadN X0.here hx rfl (hb hby d3_0) rfl ?_
    show Steps p.tables e below (s₁.setTop (mkF m 1 #[.val (.int (2 : Int32))] [(.int (2 : Int32))])) _
    refine XS.ifYes X0.here hx rfl (pc0 := 1) (pc' := 8) rfl (hb hby d3_1) rfl ((if0 _ _).trans (feq (by decide : ¬ ((2 : Int32) = (0 : Int32)))).2) (by decide) (by decide) ?_
    show Steps p.tables e below (s₁.setTop (mkF m 8 #[.val (.int (2 : Int32))] [])) _
    refine XS.iloadN X0.here hx rfl (hb hby d3_8) rfl ?_
    show Steps p.tables e below (s₁.setTop (mkF m 9 #[.val (.int (2 : Int32))] [(.int (2 : Int32))])) _
    refine XS.iconst X0.here hx rfl (hb hby d3_9) ?_
    show Steps p.tables e below (s₁.setTop (mkF m 10 #[.val (.int (2 : Int32))] [(.int (1 : Int32)), (.int (2 : Int32))])) _
    refine XS.icmpYes X0.here hx rfl (pc0 := 10) (pc' := 17) rfl (hb hby d3_10) rfl (feq (by decide : ¬ ((2 : Int32) = (1 : Int32)))).2 (by decide) (by decide) ?_
    show Steps p.tables e below (s₁.setTop (mkF m 17 #[.val (.int (2 : Int32))] [])) _
    refine XS.iloadN X0.here hx rfl (hb hby d3_17) rfl ?_
    show Steps p.tables e below (s₁.setTop (mkF m 18 #[.val (.int (2 : Int32))] [(.int (2 : Int32))])) _
    refine XS.iconst X0.here hx rfl (hb hby d3_18) ?_
    show Steps p.tables e below (s₁.setTop (mkF m 19 #[.val (.int (2 : Int32))] [(.int (2 : Int32)), (.int (2 : Int32))])) _
    refine XS.icmpNo X0.here hx rfl (hb hby d3_19) rfl (teq (by decide : (2 : Int32) = (2 : Int32))).2 ?_
    show Steps p.tables e below (s₁.setTop (mkF m 22 #[.val (.int (2 : Int32))] [])) _
    refine st1 _ ?_
    show Steps p.tables e below (T1.setTop (mkF m 25 #[.val (.int (2 : Int32))] [(.ref w_NOT_APPLICABLE)])) _
    jvm_step X1.here [X1.here.top, hx, (hb hby d3_25), X1.method', Bd.returns, Value.isRef, FieldType.isReference]
    first | (intro acts; rw [hr _ acts rfl rfl rfl]) | rw [hr _ _ rfl rfl rfl]
    exact Steps.refl _
  · exact ⟨rfl, N0, e1⟩
set_option maxRecDepth 65536 in
set_option maxHeartbeats 40000000 in
theorem rm0_c2 (l : Launch) (Z : State) (a0 : Array Value) (hw : ∀ d ∈ tables_1, d.before a0 Z = true) (ws : List Jvm.Cond) (w_PERMIT : Addr) (w_INDETERMINATE_P : Addr) (w_DENY : Addr) (w_NOT_APPLICABLE : Addr) (w_INDETERMINATE_D : Addr) (w_INDETERMINATE_DP : Addr) (p1 : Int32) (h0 : Heap) (n0 : Nat) (Z0 : n0 ≤ h0.size) (HW : World Z h0 w_PERMIT w_INDETERMINATE_P w_DENY w_NOT_APPLICABLE w_INDETERMINATE_D w_INDETERMINATE_DP) (hk : ((p1 &&& (2147483647 : Int32)) % (6 : Int32)) = (2 : Int32)) :
    MetFree l x (head1 (Jvm.Cond.code x code maxLocals ret :: ws) room_1) (fun a U => a = #[(.int p1)] ∧ Z.Warmed39 U.vm ∧ U.heap = h0) (fun _ _ _ _ _ => True) (fun _ U o U' => ∃ v L, o = .returned v ∧ Q0 h0 n0 v U'.heap L ∧ FrameEnd U o U' L room_1.cells room_1.slots) := by
  refine MetFree.of_bodySF (plainFor_of_name pn6) hisR ?_
  intro p e s m args below meth c s₁ Bd hml0 hP hK
  obtain ⟨rfl, hZ, hh⟩ := hP
  have hx := Bd.exec
  have hby := Bd.bytes
  have hml : c.maxLocals = 4 := hml0
  have hown : s.vm.findClass "com/example/minos/minos/xacml/DecisionUnderIndeterminateTargetPinLaw" = some m.cls := findClass_of_methodNamed Bd.named
  have X0 : Stand p l e room_1 s m #[(.int p1)] below meth c s₁ [] 0 0 := Stand.of_body Bd
  have e0 : s₁.heap = h0 := by rw [← hh, Bd.state]; rfl
  have N0 := Fr.nil n0
  have pre0 : ∀ t, Steps p.tables e below (s₁.setTop (mkF m 0 #[.val (.int p1), .unset, .unset, .unset] [])) t → Steps p.tables e below (s₁.setTop (entryFrame m #[(.int p1)] maxLocals)) t := fun t k => castTop (ef33 m p1) k
  obtain ⟨S_w_PERMIT, E_w_PERMIT, S_w_INDETERMINATE_P, E_w_INDETERMINATE_P, S_w_DENY, E_w_DENY, S_w_NOT_APPLICABLE, E_w_NOT_APPLICABLE, S_w_INDETERMINATE_D, E_w_INDETERMINATE_D, S_w_INDETERMINATE_DP, E_w_INDETERMINATE_DP, F_ordinal_w_INDETERMINATE_P, F_ordinal_w_PERMIT, F_ordinal_w_DENY, F_ordinal_w_NOT_APPLICABLE, F_ordinal_w_INDETERMINATE_D, F_ordinal_w_INDETERMINATE_DP, ne_w_PERMIT_w_INDETERMINATE_P, ne_w_PERMIT_w_DENY, ne_w_PERMIT_w_NOT_APPLICABLE, ne_w_PERMIT_w_INDETERMINATE_D, ne_w_PERMIT_w_INDETERMINATE_DP, ne_w_INDETERMINATE_P_w_DENY, ne_w_INDETERMINATE_P_w_NOT_APPLICABLE, ne_w_INDETERMINATE_P_w_INDETERMINATE_D, ne_w_INDETERMINATE_P_w_INDETERMINATE_DP, ne_w_DENY_w_NOT_APPLICABLE, ne_w_DENY_w_INDETERMINATE_D, ne_w_DENY_w_INDETERMINATE_DP, ne_w_NOT_APPLICABLE_w_INDETERMINATE_D, ne_w_NOT_APPLICABLE_w_INDETERMINATE_DP, ne_w_INDETERMINATE_D_w_INDETERMINATE_DP, -⟩ := id HW
  obtain ⟨_, _, ⟨T1, L1, k1, n1⟩, -, X1, ⟨Lc1, hQ1, l1, y1, z1⟩, st1⟩ := Jvm.LawKit.callS X0 hx (y := (⟨"com/example/minos/minos/xacml/DecisionUnderIndeterminateTargetPinLaw", "pick", "(I)Lcom/example/minos/minos/xacml/Decision;"⟩ : MethodName)) hown (mvT hZ (hw _ (List.mem_of_getElem? (i := 1) rfl))) (mvT hZ (hw _ (List.mem_of_getElem? (i := 2) rfl))) (mvT hZ (hw _ (List.mem_of_getElem? (i := 3) rfl))) (mvT hZ (hw _ (List.mem_of_getElem? (i := 4) rfl))) (by decide) (backOf (W := 0) (rm1_10 l Z a0 hw [] w_PERMIT w_INDETERMINATE_P w_DENY w_NOT_APPLICABLE w_INDETERMINATE_D w_INDETERMINATE_DP h0 n0 Z0 HW) hZ (hw _ (List.mem_of_getElem? (i := 4) rfl)) (hw _ (List.mem_of_getElem? (i := 3) rfl)) (by decide) (by decide)) (g := (mkF m 9 #[.val (.int p1), .val (.int (2 : Int32)), .unset, .unset] [(.int (2 : Int32))])) rfl (by rw [hml]; rfl) (argsL := [(.int (2 : Int32))]) (rest := []) (lenOf pd7 rfl) rfl (by show 2 * 0 + _ ≤ _; exact Nat.le_of_eq rfl) (hb hby at_9) (fun _ _ => ⟨rfl, e0, (by decide : 0 + 0 ≤ _), (by decide : 0 + 0 ≤ _)⟩)
  dsimp only [Pt.U, Pt.locs, Pt.cells, Pt.slots] at X1 l1 y1 z1 st1 hQ1
  subst l1 y1 z1
  obtain ⟨rfl, N1q, e1⟩ := hQ1
  have N1 := Fr.app N0 N1q
  obtain ⟨cq2, kq2, q2a, q2b, q2c⟩ := isOf hZ e1 E_w_NOT_APPLICABLE
  obtain ⟨_, _, ⟨T2, L2, k2, n2⟩, -, X2, ⟨Lc2, hQ2, l2, y2, z2⟩, st2⟩ := X1.virtualBack hx (y := (⟨"com/example/minos/minos/xacml/Decision", "underIndeterminateTarget", "()Lcom/example/minos/minos/xacml/Decision;"⟩ : MethodName)) (z := (⟨"com/example/minos/minos/xacml/Decision", "underIndeterminateTarget", "()Lcom/example/minos/minos/xacml/Decision;"⟩ : MethodName)) hown (mvT hZ (hw _ (List.mem_of_getElem? (i := 8) rfl))) (mvT hZ (hw _ (List.mem_of_getElem? (i := 9) rfl))) (notFace_of_selects (args := #[]) (mvT hZ (hw _ (List.mem_of_getElem? (i := 11) rfl)))) (mvT hZ (hw _ (List.mem_of_getElem? (i := 11) rfl))) (mvT hZ (hw _ (List.mem_of_getElem? (i := 10) rfl))) (by decide) (backOf (W := 0) (rm2_11 l Z a0 hw [] w_PERMIT w_INDETERMINATE_P w_DENY w_NOT_APPLICABLE w_INDETERMINATE_D w_INDETERMINATE_DP h0 n0 Z0 HW) hZ (hw _ (List.mem_of_getElem? (i := 12) rfl)) (hw _ (List.mem_of_getElem? (i := 6) rfl)) (by decide) (by decide)) q2a q2c (g := (mkF m 14 #[.val (.int p1), .val (.int (2 : Int32)), .val (.ref w_NOT_APPLICABLE), .unset] [(.ref w_NOT_APPLICABLE)])) rfl (by rw [hml]; rfl) (Steps.refl _) (argsL := []) (rest := []) (lenOf pd19 rfl) rfl (by show 2 * 0 + _ ≤ _; exact Nat.le_of_eq rfl) (hb hby at_14) (fun _ _ => ⟨rfl, e1, (by decide : 0 + 0 ≤ _), (by decide : 0 + 0 ≤ _)⟩)
  dsimp only [Pt.U, Pt.locs, Pt.cells, Pt.slots] at X2 l2 y2 z2 st2 hQ2
  subst l2 y2 z2
  obtain ⟨rfl, N2q, e2⟩ := hQ2
  have N2 := Fr.app N1 N2q
  obtain ⟨_, _, ⟨T3, L3, k3, n3⟩, -, X3, ⟨Lc3, hQ3, l3, y3, z3⟩, st3⟩ := Jvm.LawKit.callS X2 hx (y := (⟨"com/example/minos/minos/xacml/DecisionUnderIndeterminateTargetPinLaw", "expected", "(I)Lcom/example/minos/minos/xacml/Decision;"⟩ : MethodName)) hown (mvT hZ (hw _ (List.mem_of_getElem? (i := 16) rfl))) (mvT hZ (hw _ (List.mem_of_getElem? (i := 17) rfl))) (mvT hZ (hw _ (List.mem_of_getElem? (i := 3) rfl))) (mvT hZ (hw _ (List.mem_of_getElem? (i := 18) rfl))) (by decide) (backOf (W := 1) (rm3_12 l Z a0 hw [] w_PERMIT w_INDETERMINATE_P w_DENY w_NOT_APPLICABLE w_INDETERMINATE_D w_INDETERMINATE_DP h0 n0 Z0 HW) hZ (hw _ (List.mem_of_getElem? (i := 18) rfl)) (hw _ (List.mem_of_getElem? (i := 3) rfl)) (by decide) (by decide)) (g := (mkF m 20 #[.val (.int p1), .val (.int (2 : Int32)), .val (.ref w_NOT_APPLICABLE), .val (.ref w_NOT_APPLICABLE)] [(.int (2 : Int32)), (.ref w_NOT_APPLICABLE)])) rfl (by rw [hml]; rfl) (argsL := [(.int (2 : Int32))]) (rest := [(.ref w_NOT_APPLICABLE)]) (lenOf pd7 rfl) rfl (by show 2 * 0 + _ ≤ _; exact Nat.le_of_eq rfl) (hb hby at_20) (fun _ _ => ⟨rfl, e2, (by decide : 0 + 0 ≤ _), (by decide : 0 + 0 ≤ _)⟩)
  dsimp only [Pt.U, Pt.locs, Pt.cells, Pt.slots] at X3 l3 y3 z3 st3 hQ3
  subst l3 y3 z3
  obtain ⟨rfl, N3q, e3⟩ := hQ3
  have N3 := Fr.app N2 N3q
  obtain ⟨T4, X4, e4, st4⟩ := getS2 X3 hx hZ hown (host := "") (Or.inl (hw _ (List.mem_of_getElem? (i := 5) rfl))) Via.refl e3 S_w_PERMIT (g := (mkF m 29 #[.val (.int p1), .val (.int (2 : Int32)), .val (.ref w_NOT_APPLICABLE), .val (.ref w_NOT_APPLICABLE)] [(.ref w_NOT_APPLICABLE)])) rfl (hb hby at_29)
  obtain ⟨T5, X5, e5, st5⟩ := getS2 X4 hx hZ hown (host := "") (Or.inl (hw _ (List.mem_of_getElem? (i := 20) rfl))) Via.refl e4 S_w_DENY (g := (mkF m 36 #[.val (.int p1), .val (.int (2 : Int32)), .val (.ref w_NOT_APPLICABLE), .val (.ref w_NOT_APPLICABLE)] [(.ref w_NOT_APPLICABLE)])) rfl (hb hby at_36)
  obtain ⟨cq6, kq6, q6a, q6b, q6c⟩ := isOf hZ e5 E_w_NOT_APPLICABLE
  obtain ⟨_, _, ⟨T6, L6, k6, n6⟩, -, X6, ⟨Lc6, hQ6, l6, y6, z6⟩, st6⟩ := X5.virtualBack hx (y := (⟨"com/example/minos/minos/xacml/Decision", "underIndeterminateTarget", "()Lcom/example/minos/minos/xacml/Decision;"⟩ : MethodName)) (z := (⟨"com/example/minos/minos/xacml/Decision", "underIndeterminateTarget", "()Lcom/example/minos/minos/xacml/Decision;"⟩ : MethodName)) hown (mvT hZ (hw _ (List.mem_of_getElem? (i := 8) rfl))) (mvT hZ (hw _ (List.mem_of_getElem? (i := 9) rfl))) (notFace_of_selects (args := #[]) (mvT hZ (hw _ (List.mem_of_getElem? (i := 11) rfl)))) (mvT hZ (hw _ (List.mem_of_getElem? (i := 11) rfl))) (mvT hZ (hw _ (List.mem_of_getElem? (i := 10) rfl))) (by decide) (backOf (W := 0) (rm2_11 l Z a0 hw [] w_PERMIT w_INDETERMINATE_P w_DENY w_NOT_APPLICABLE w_INDETERMINATE_D w_INDETERMINATE_DP h0 n0 Z0 HW) hZ (hw _ (List.mem_of_getElem? (i := 12) rfl)) (hw _ (List.mem_of_getElem? (i := 6) rfl)) (by decide) (by decide)) q6a q6c (g := (mkF m 45 #[.val (.int p1), .val (.int (2 : Int32)), .val (.ref w_NOT_APPLICABLE), .val (.ref w_NOT_APPLICABLE)] [(.ref w_NOT_APPLICABLE)])) rfl (by rw [hml]; rfl) (Steps.refl _) (argsL := []) (rest := []) (lenOf pd19 rfl) rfl (by show 2 * 0 + _ ≤ _; exact Nat.le_of_eq rfl) (hb hby at_45) (fun _ _ => ⟨rfl, e5, (by decide : 0 + 0 ≤ _), (by decide : 0 + 0 ≤ _)⟩)
  dsimp only [Pt.U, Pt.locs, Pt.cells, Pt.slots] at X6 l6 y6 z6 st6 hQ6
  subst l6 y6 z6
  obtain ⟨rfl, N6q, e6⟩ := hQ6
  have N6 := Fr.app N3 N6q
  obtain ⟨fs, hr, hrun, hended, hW, hsame⟩ := X6.leave (v := some (.int (1 : Int32))) (fun h => by rw [Bd.returns] at h; cases h)
  refine ⟨_, _, pre0 _ ?_, hrun, hended, _, _, rfl, ?_, ⟨_, rfl⟩, hW, hsame.mono (by decide) (by decide)⟩
  · show Steps p.tables e below (s₁.setTop (mkF m 0 #[.val (.int p1), .unset, .unset, .unset] [])) _
    refine XS.iloadN X0.here hx rfl (hb hby at_0) rfl ?_
    show Steps p.tables e below (s₁.setTop (mkF m 1 #[.val (.int p1), .unset, .unset, .unset] [(.int p1)])) _
    refine X0.ldcInt hx hown (mvT hZ (hw _ (List.mem_of_getElem? (i := 0) rfl))) (g := (mkF m 1 #[.val (.int p1), .unset, .unset, .unset] [(.int p1)])) rfl (hb hby at_1) _ ?_
    show Steps p.tables e below (s₁.setTop (mkF m 3 #[.val (.int p1), .unset, .unset, .unset] [(.int (2147483647 : Int32)), (.int p1)])) _
    refine XS.iand X0.here hx rfl (hb hby at_3) rfl ?_
    show Steps p.tables e below (s₁.setTop (mkF m 4 #[.val (.int p1), .unset, .unset, .unset] [(.int (p1 &&& (2147483647 : Int32)))])) _
    refine XS.bipush X0.here hx rfl (hb hby at_4) ?_
    show Steps p.tables e below (s₁.setTop (mkF m 6 #[.val (.int p1), .unset, .unset, .unset] [(.int (6 : Int32)), (.int (p1 &&& (2147483647 : Int32)))])) _
    refine iremM X0 hx rfl (hb hby at_6) rfl (by decide) ?_
    rw [hk]
    show Steps p.tables e below (s₁.setTop (mkF m 7 #[.val (.int p1), .unset, .unset, .unset] [(.int (2 : Int32))])) _
    refine XS.istoreN X0.here hx rfl (hb hby at_7) rfl (l' := #[.val (.int p1), .val (.int (2 : Int32)), .unset, .unset]) rfl ?_
    show Steps p.tables e below (s₁.setTop (mkF m 8 #[.val (.int p1), .val (.int (2 : Int32)), .unset, .unset] [])) _
    refine XS.iloadN X0.here hx rfl (hb hby at_8) rfl ?_
    show Steps p.tables e below (s₁.setTop (mkF m 9 #[.val (.int p1), .val (.int (2 : Int32)), .unset, .unset] [(.int (2 : Int32))])) _
    refine st1 _ ?_
    show Steps p.tables e below (T1.setTop (mkF m 12 #[.val (.int p1), .val (.int (2 : Int32)), .unset, .unset] [(.ref w_NOT_APPLICABLE)])) _
    refine XS.astoreN X1.here hx rfl (hb hby at_12) rfl rfl (l' := #[.val (.int p1), .val (.int (2 : Int32)), .val (.ref w_NOT_APPLICABLE), .unset]) rfl ?_
    show Steps p.tables e below (T1.setTop (mkF m 13 #[.val (.int p1), .val (.int (2 : Int32)), .val (.ref w_NOT_APPLICABLE), .unset] [])) _
    refine XS.aloadN X1.here hx rfl (hb hby at_13) rfl rfl ?_
    show Steps p.tables e below (T1.setTop (mkF m 14 #[.val (.int p1), .val (.int (2 : Int32)), .val (.ref w_NOT_APPLICABLE), .unset] [(.ref w_NOT_APPLICABLE)])) _
    refine st2.trans ?_
    show Steps p.tables e below (T2.setTop (mkF m 17 #[.val (.int p1), .val (.int (2 : Int32)), .val (.ref w_NOT_APPLICABLE), .unset] [(.ref w_NOT_APPLICABLE)])) _
    refine XS.astoreN X2.here hx rfl (hb hby at_17) rfl rfl (l' := #[.val (.int p1), .val (.int (2 : Int32)), .val (.ref w_NOT_APPLICABLE), .val (.ref w_NOT_APPLICABLE)]) rfl ?_
    show Steps p.tables e below (T2.setTop (mkF m 18 #[.val (.int p1), .val (.int (2 : Int32)), .val (.ref w_NOT_APPLICABLE), .val (.ref w_NOT_APPLICABLE)] [])) _
    refine XS.aloadN X2.here hx rfl (hb hby at_18) rfl rfl ?_
    show Steps p.tables e below (T2.setTop (mkF m 19 #[.val (.int p1), .val (.int (2 : Int32)), .val (.ref w_NOT_APPLICABLE), .val (.ref w_NOT_APPLICABLE)] [(.ref w_NOT_APPLICABLE)])) _
    refine XS.iloadN X2.here hx rfl (hb hby at_19) rfl ?_
    show Steps p.tables e below (T2.setTop (mkF m 20 #[.val (.int p1), .val (.int (2 : Int32)), .val (.ref w_NOT_APPLICABLE), .val (.ref w_NOT_APPLICABLE)] [(.int (2 : Int32)), (.ref w_NOT_APPLICABLE)])) _
    refine st3 _ ?_
    show Steps p.tables e below (T3.setTop (mkF m 23 #[.val (.int p1), .val (.int (2 : Int32)), .val (.ref w_NOT_APPLICABLE), .val (.ref w_NOT_APPLICABLE)] [(.ref w_NOT_APPLICABLE), (.ref w_NOT_APPLICABLE)])) _
    refine Jvm.RoadKit.acmp (g := (mkF m 23 #[.val (.int p1), .val (.int (2 : Int32)), .val (.ref w_NOT_APPLICABLE), .val (.ref w_NOT_APPLICABLE)] [(.ref w_NOT_APPLICABLE), (.ref w_NOT_APPLICABLE)])) X3 hx rfl rfl rfl (pc0 := 23) (pc' := 28) (same := true) rfl (hb hby at_23) rfl (decide_eq_true rfl) (by decide) (by decide) ?_
    show Steps p.tables e below (T3.setTop (mkF m 28 #[.val (.int p1), .val (.int (2 : Int32)), .val (.ref w_NOT_APPLICABLE), .val (.ref w_NOT_APPLICABLE)] [])) _
    refine XS.aloadN X3.here hx rfl (hb hby at_28) rfl rfl ?_
    show Steps p.tables e below (T3.setTop (mkF m 29 #[.val (.int p1), .val (.int (2 : Int32)), .val (.ref w_NOT_APPLICABLE), .val (.ref w_NOT_APPLICABLE)] [(.ref w_NOT_APPLICABLE)])) _
    refine st4 _ ?_
    show Steps p.tables e below (T4.setTop (mkF m 32 #[.val (.int p1), .val (.int (2 : Int32)), .val (.ref w_NOT_APPLICABLE), .val (.ref w_NOT_APPLICABLE)] [(.ref w_PERMIT), (.ref w_NOT_APPLICABLE)])) _
    refine Jvm.RoadKit.acmp (g := (mkF m 32 #[.val (.int p1), .val (.int (2 : Int32)), .val (.ref w_NOT_APPLICABLE), .val (.ref w_NOT_APPLICABLE)] [(.ref w_PERMIT), (.ref w_NOT_APPLICABLE)])) X4 hx rfl rfl rfl (pc0 := 32) (pc' := 35) (same := false) rfl (hb hby at_32) rfl (decide_eq_false fun q => ne_w_PERMIT_w_NOT_APPLICABLE (Value.ref.inj q).symm) (by decide) (by decide) ?_
    show Steps p.tables e below (T4.setTop (mkF m 35 #[.val (.int p1), .val (.int (2 : Int32)), .val (.ref w_NOT_APPLICABLE), .val (.ref w_NOT_APPLICABLE)] [])) _
    refine XS.aloadN X4.here hx rfl (hb hby at_35) rfl rfl ?_
    show Steps p.tables e below (T4.setTop (mkF m 36 #[.val (.int p1), .val (.int (2 : Int32)), .val (.ref w_NOT_APPLICABLE), .val (.ref w_NOT_APPLICABLE)] [(.ref w_NOT_APPLICABLE)])) _
    refine st5 _ ?_
    show Steps p.tables e below (T5.setTop (mkF m 39 #[.val (.int p1), .val (.int (2 : Int32)), .val (.ref w_NOT_APPLICABLE), .val (.ref w_NOT_APPLICABLE)] [(.ref w_DENY), (.ref w_NOT_APPLICABLE)])) _
    refine Jvm.RoadKit.acmp (g := (mkF m 39 #[.val (.int p1), .val (.int (2 : Int32)), .val (.ref w_NOT_APPLICABLE), .val (.ref w_NOT_APPLICABLE)] [(.ref w_DENY), (.ref w_NOT_APPLICABLE)])) X5 hx rfl rfl rfl (pc0 := 39) (pc' := 44) (same := false) rfl (hb hby at_39) rfl (decide_eq_false fun q => ne_w_DENY_w_NOT_APPLICABLE (Value.ref.inj q).symm) (by decide) (by decide) ?_
    show Steps p.tables e below (T5.setTop (mkF m 44 #[.val (.int p1), .val (.int (2 : Int32)), .val (.ref w_NOT_APPLICABLE), .val (.ref w_NOT_APPLICABLE)] [])) _
    refine XS.aloadN X5.here hx rfl (hb hby at_44) rfl rfl ?_
    show Steps p.tables e below (T5.setTop (mkF m 45 #[.val (.int p1), .val (.int (2 : Int32)), .val (.ref w_NOT_APPLICABLE), .val (.ref w_NOT_APPLICABLE)] [(.ref w_NOT_APPLICABLE)])) _
    refine st6.trans ?_
    show Steps p.tables e below (T6.setTop (mkF m 48 #[.val (.int p1), .val (.int (2 : Int32)), .val (.ref w_NOT_APPLICABLE), .val (.ref w_NOT_APPLICABLE)] [(.ref w_NOT_APPLICABLE)])) _
    refine XS.aloadN X6.here hx rfl (hb hby at_48) rfl rfl ?_
    show Steps p.tables e below (T6.setTop (mkF m 49 #[.val (.int p1), .val (.int (2 : Int32)), .val (.ref w_NOT_APPLICABLE), .val (.ref w_NOT_APPLICABLE)] [(.ref w_NOT_APPLICABLE), (.ref w_NOT_APPLICABLE)])) _
    refine Jvm.RoadKit.acmp (g := (mkF m 49 #[.val (.int p1), .val (.int (2 : Int32)), .val (.ref w_NOT_APPLICABLE), .val (.ref w_NOT_APPLICABLE)] [(.ref w_NOT_APPLICABLE), (.ref w_NOT_APPLICABLE)])) X6 hx rfl rfl rfl (pc0 := 49) (pc' := 52) (same := true) rfl (hb hby at_49) rfl (decide_eq_true rfl) (by decide) (by decide) ?_
    show Steps p.tables e below (T6.setTop (mkF m 52 #[.val (.int p1), .val (.int (2 : Int32)), .val (.ref w_NOT_APPLICABLE), .val (.ref w_NOT_APPLICABLE)] [])) _
    refine XS.iconst X6.here hx rfl (hb hby at_52) ?_
    show Steps p.tables e below (T6.setTop (mkF m 53 #[.val (.int p1), .val (.int (2 : Int32)), .val (.ref w_NOT_APPLICABLE), .val (.ref w_NOT_APPLICABLE)] [(.int (1 : Int32))])) _
    refine XS.goto X6.here hx rfl (pc0 := 53) (pc' := 57) rfl (hb hby at_53) (by decide) (by decide) ?_
    show Steps p.tables e below (T6.setTop (mkF m 57 #[.val (.int p1), .val (.int (2 : Int32)), .val (.ref w_NOT_APPLICABLE), .val (.ref w_NOT_APPLICABLE)] [(.int (1 : Int32))])) _
    exact retN X6 hx (t := .boolean) Bd.returns (by simp) (hb hby at_57) hr
  · exact ⟨rfl, N6⟩
theorem d1_26 : decode method_2_code 26 = .ok (.iload_n 0, 1) := by decide +kernel
theorem d1_27 : decode method_2_code 27 = .ok (.iconst 3, 1) := by decide +kernel
theorem d1_28 : decode method_2_code 28 = .ok (.if_icmp .ne 7, 3) := by decide +kernel
theorem d1_31 : decode method_2_code 31 = .ok (.getstatic 19, 3) := by decide +kernel
theorem d1_34 : decode method_2_code 34 = .ok (.areturn, 1) := by decide +kernel
def Q1_14 (Z : State) (w_PERMIT : Addr) (w_INDETERMINATE_P : Addr) (w_DENY : Addr) (w_NOT_APPLICABLE : Addr) (w_INDETERMINATE_D : Addr) (w_INDETERMINATE_DP : Addr) (h0 : Heap) (n0 : Nat) (v : Option Value) (h : Heap) (L : List Loc) : Prop := v = some (.ref w_INDETERMINATE_P) ∧ Fr n0 L ∧ h = h0
set_option maxRecDepth 65536 in
set_option maxHeartbeats 40000000 in
theorem rm1_14 (l : Launch) (Z : State) (a0 : Array Value) (hw : ∀ d ∈ tables_1, d.before a0 Z = true) (ws : List Jvm.Cond) (w_PERMIT : Addr) (w_INDETERMINATE_P : Addr) (w_DENY : Addr) (w_NOT_APPLICABLE : Addr) (w_INDETERMINATE_D : Addr) (w_INDETERMINATE_DP : Addr) (h0 : Heap) (n0 : Nat) (Z0 : n0 ≤ h0.size) (HW : World Z h0 w_PERMIT w_INDETERMINATE_P w_DENY w_NOT_APPLICABLE w_INDETERMINATE_D w_INDETERMINATE_DP) :
    MetFree l (⟨"com/example/minos/minos/xacml/DecisionUnderIndeterminateTargetPinLaw", "pick", "(I)Lcom/example/minos/minos/xacml/Decision;"⟩ : MethodName) (head1 (Jvm.Cond.code (⟨"com/example/minos/minos/xacml/DecisionUnderIndeterminateTargetPinLaw", "pick", "(I)Lcom/example/minos/minos/xacml/Decision;"⟩ : MethodName) method_2_code 1 (some (.object "com/example/minos/minos/xacml/Decision")) :: ws) ({ frames := 0, cells := 0, slots := 0, locals := 0 } : Room)) (fun a U => a = #[(.int (3 : Int32))] ∧ Z.Warmed39 U.vm ∧ U.heap = h0) (fun _ _ _ _ _ => True) (fun _ U o U' => ∃ v L, o = .returned v ∧ Q1_14 Z w_PERMIT w_INDETERMINATE_P w_DENY w_NOT_APPLICABLE w_INDETERMINATE_D w_INDETERMINATE_DP h0 n0 v U'.heap L ∧ FrameEnd U o U' L ({ frames := 0, cells := 0, slots := 0, locals := 0 } : Room).cells ({ frames := 0, cells := 0, slots := 0, locals := 0 } : Room).slots) := by
  refine MetFree.of_bodySF (plainFor_of_name pn6) hisR ?_
  intro p e s m args below meth c s₁ Bd hml0 hP hK
  obtain ⟨rfl, hZ, hh⟩ := hP
  have hx := Bd.exec
  have hby := Bd.bytes
  have hml : c.maxLocals = 1 := hml0
  have hown : s.vm.findClass "com/example/minos/minos/xacml/DecisionUnderIndeterminateTargetPinLaw" = some m.cls := findClass_of_methodNamed Bd.named
  have X0 : Stand p l e ({ frames := 0, cells := 0, slots := 0, locals := 0 } : Room) s m #[(.int (3 : Int32))] below meth c s₁ [] 0 0 := Stand.of_body Bd
  have e0 : s₁.heap = h0 := by rw [← hh, Bd.state]; rfl
  have N0 := Fr.nil n0
  have pre0 : ∀ t, Steps p.tables e below (s₁.setTop (mkF m 0 #[.val (.int (3 : Int32))] [])) t → Steps p.tables e below (s₁.setTop (entryFrame m #[(.int (3 : Int32))] 1)) t := fun t k => castTop (ef5 m (3 : Int32)) k
  obtain ⟨S_w_PERMIT, E_w_PERMIT, S_w_INDETERMINATE_P, E_w_INDETERMINATE_P, S_w_DENY, E_w_DENY, S_w_NOT_APPLICABLE, E_w_NOT_APPLICABLE, S_w_INDETERMINATE_D, E_w_INDETERMINATE_D, S_w_INDETERMINATE_DP, E_w_INDETERMINATE_DP, F_ordinal_w_INDETERMINATE_P, F_ordinal_w_PERMIT, F_ordinal_w_DENY, F_ordinal_w_NOT_APPLICABLE, F_ordinal_w_INDETERMINATE_D, F_ordinal_w_INDETERMINATE_DP, ne_w_PERMIT_w_INDETERMINATE_P, ne_w_PERMIT_w_DENY, ne_w_PERMIT_w_NOT_APPLICABLE, ne_w_PERMIT_w_INDETERMINATE_D, ne_w_PERMIT_w_INDETERMINATE_DP, ne_w_INDETERMINATE_P_w_DENY, ne_w_INDETERMINATE_P_w_NOT_APPLICABLE, ne_w_INDETERMINATE_P_w_INDETERMINATE_D, ne_w_INDETERMINATE_P_w_INDETERMINATE_DP, ne_w_DENY_w_NOT_APPLICABLE, ne_w_DENY_w_INDETERMINATE_D, ne_w_DENY_w_INDETERMINATE_DP, ne_w_NOT_APPLICABLE_w_INDETERMINATE_D, ne_w_NOT_APPLICABLE_w_INDETERMINATE_DP, ne_w_INDETERMINATE_D_w_INDETERMINATE_DP, -⟩ := id HW
  obtain ⟨T1, X1, e1, st1⟩ := getS2 X0 hx hZ hown (host := "") (Or.inl (hw _ (List.mem_of_getElem? (i := 19) rfl))) Via.refl e0 S_w_INDETERMINATE_P (g := (mkF m 31 #[.val (.int (3 : Int32))] [])) rfl (hb hby d1_31)
  obtain ⟨fs, hr, hrun, hended, hW, hsame⟩ := X1.leave (v := some (.ref w_INDETERMINATE_P)) (fun h => by rw [Bd.returns] at h; cases h)
  refine ⟨_, _, pre0 _ ?_, hrun, hended, _, _, rfl, ?_, ⟨_, rfl⟩, hW, hsame.mono (by decide) (by decide)⟩
  · show Steps p.tables e below (s₁.setTop (mkF m 0 #[.val (.int (3 : Int32))] [])) _
    refine XS.iloadN X0.here hx rfl (hb hby d1_0) rfl ?_
    show Steps p.tables e below (s₁.setTop (mkF m 1 #[.val (.int (3 : Int32))] [(.int (3 : Int32))])) _
    refine XS.ifYes X0.here hx rfl (pc0 := 1) (pc' := 8) rfl (hb hby d1_1) rfl ((if0 _ _).trans (feq (by decide : ¬ ((3 : Int32) = (0 : Int32)))).2) (by decide) (by decide) ?_
    show Steps p.tables e below (s₁.setTop (mkF m 8 #[.val (.int (3 : Int32))] [])) _
    refine XS.iloadN X0.here hx rfl (hb hby d1_8) rfl ?_
    show Steps p.tables e below (s₁.setTop (mkF m 9 #[.val (.int (3 : Int32))] [(.int (3 : Int32))])) _
    refine XS.iconst X0.here hx rfl (hb hby d1_9) ?_
    show Steps p.tables e below (s₁.setTop (mkF m 10 #[.val (.int (3 : Int32))] [(.int (1 : Int32)), (.int (3 : Int32))])) _
    refine XS.icmpYes X0.here hx rfl (pc0 := 10) (pc' := 17) rfl (hb hby d1_10) rfl (feq (by decide : ¬ ((3 : Int32) = (1 : Int32)))).2 (by decide) (by decide) ?_
    show Steps p.tables e below (s₁.setTop (mkF m 17 #[.val (.int (3 : Int32))] [])) _
    refine XS.iloadN X0.here hx rfl (hb hby d1_17) rfl ?_
    show Steps p.tables e below (s₁.setTop (mkF m 18 #[.val (.int (3 : Int32))] [(.int (3 : Int32))])) _
    refine XS.iconst X0.here hx rfl (hb hby d1_18) ?_
    show Steps p.tables e below (s₁.setTop (mkF m 19 #[.val (.int (3 : Int32))] [(.int (2 : Int32)), (.int (3 : Int32))])) _
    refine XS.icmpYes X0.here hx rfl (pc0 := 19) (pc' := 26) rfl (hb hby d1_19) rfl (feq (by decide : ¬ ((3 : Int32) = (2 : Int32)))).2 (by decide) (by decide) ?_
    show Steps p.tables e below (s₁.setTop (mkF m 26 #[.val (.int (3 : Int32))] [])) _
    refine XS.iloadN X0.here hx rfl (hb hby d1_26) rfl ?_
    show Steps p.tables e below (s₁.setTop (mkF m 27 #[.val (.int (3 : Int32))] [(.int (3 : Int32))])) _
    refine XS.iconst X0.here hx rfl (hb hby d1_27) ?_
    show Steps p.tables e below (s₁.setTop (mkF m 28 #[.val (.int (3 : Int32))] [(.int (3 : Int32)), (.int (3 : Int32))])) _
    refine XS.icmpNo X0.here hx rfl (hb hby d1_28) rfl (teq (by decide : (3 : Int32) = (3 : Int32))).2 ?_
    show Steps p.tables e below (s₁.setTop (mkF m 31 #[.val (.int (3 : Int32))] [])) _
    refine st1 _ ?_
    show Steps p.tables e below (T1.setTop (mkF m 34 #[.val (.int (3 : Int32))] [(.ref w_INDETERMINATE_P)])) _
    jvm_step X1.here [X1.here.top, hx, (hb hby d1_34), X1.method', Bd.returns, Value.isRef, FieldType.isReference]
    first | (intro acts; rw [hr _ acts rfl rfl rfl]) | rw [hr _ _ rfl rfl rfl]
    exact Steps.refl _
  · exact ⟨rfl, N0, e1⟩
theorem d3_26 : decode method_3_code 26 = .ok (.iload_n 0, 1) := by decide +kernel
theorem d3_27 : decode method_3_code 27 = .ok (.iconst 3, 1) := by decide +kernel
theorem d3_28 : decode method_3_code 28 = .ok (.if_icmp .ne 7, 3) := by decide +kernel
theorem d3_31 : decode method_3_code 31 = .ok (.getstatic 19, 3) := by decide +kernel
theorem d3_34 : decode method_3_code 34 = .ok (.areturn, 1) := by decide +kernel
def Q3_15 (Z : State) (w_PERMIT : Addr) (w_INDETERMINATE_P : Addr) (w_DENY : Addr) (w_NOT_APPLICABLE : Addr) (w_INDETERMINATE_D : Addr) (w_INDETERMINATE_DP : Addr) (h0 : Heap) (n0 : Nat) (v : Option Value) (h : Heap) (L : List Loc) : Prop := v = some (.ref w_INDETERMINATE_P) ∧ Fr n0 L ∧ h = h0
set_option maxRecDepth 65536 in
set_option maxHeartbeats 40000000 in
theorem rm3_15 (l : Launch) (Z : State) (a0 : Array Value) (hw : ∀ d ∈ tables_1, d.before a0 Z = true) (ws : List Jvm.Cond) (w_PERMIT : Addr) (w_INDETERMINATE_P : Addr) (w_DENY : Addr) (w_NOT_APPLICABLE : Addr) (w_INDETERMINATE_D : Addr) (w_INDETERMINATE_DP : Addr) (h0 : Heap) (n0 : Nat) (Z0 : n0 ≤ h0.size) (HW : World Z h0 w_PERMIT w_INDETERMINATE_P w_DENY w_NOT_APPLICABLE w_INDETERMINATE_D w_INDETERMINATE_DP) :
    MetFree l (⟨"com/example/minos/minos/xacml/DecisionUnderIndeterminateTargetPinLaw", "expected", "(I)Lcom/example/minos/minos/xacml/Decision;"⟩ : MethodName) (head1 (Jvm.Cond.code (⟨"com/example/minos/minos/xacml/DecisionUnderIndeterminateTargetPinLaw", "expected", "(I)Lcom/example/minos/minos/xacml/Decision;"⟩ : MethodName) method_3_code 1 (some (.object "com/example/minos/minos/xacml/Decision")) :: ws) ({ frames := 0, cells := 0, slots := 0, locals := 0 } : Room)) (fun a U => a = #[(.int (3 : Int32))] ∧ Z.Warmed39 U.vm ∧ U.heap = h0) (fun _ _ _ _ _ => True) (fun _ U o U' => ∃ v L, o = .returned v ∧ Q3_15 Z w_PERMIT w_INDETERMINATE_P w_DENY w_NOT_APPLICABLE w_INDETERMINATE_D w_INDETERMINATE_DP h0 n0 v U'.heap L ∧ FrameEnd U o U' L ({ frames := 0, cells := 0, slots := 0, locals := 0 } : Room).cells ({ frames := 0, cells := 0, slots := 0, locals := 0 } : Room).slots) := by
  refine MetFree.of_bodySF (plainFor_of_name pn6) hisR ?_
  intro p e s m args below meth c s₁ Bd hml0 hP hK
  obtain ⟨rfl, hZ, hh⟩ := hP
  have hx := Bd.exec
  have hby := Bd.bytes
  have hml : c.maxLocals = 1 := hml0
  have hown : s.vm.findClass "com/example/minos/minos/xacml/DecisionUnderIndeterminateTargetPinLaw" = some m.cls := findClass_of_methodNamed Bd.named
  have X0 : Stand p l e ({ frames := 0, cells := 0, slots := 0, locals := 0 } : Room) s m #[(.int (3 : Int32))] below meth c s₁ [] 0 0 := Stand.of_body Bd
  have e0 : s₁.heap = h0 := by rw [← hh, Bd.state]; rfl
  have N0 := Fr.nil n0
  have pre0 : ∀ t, Steps p.tables e below (s₁.setTop (mkF m 0 #[.val (.int (3 : Int32))] [])) t → Steps p.tables e below (s₁.setTop (entryFrame m #[(.int (3 : Int32))] 1)) t := fun t k => castTop (ef25 m (3 : Int32)) k
  obtain ⟨S_w_PERMIT, E_w_PERMIT, S_w_INDETERMINATE_P, E_w_INDETERMINATE_P, S_w_DENY, E_w_DENY, S_w_NOT_APPLICABLE, E_w_NOT_APPLICABLE, S_w_INDETERMINATE_D, E_w_INDETERMINATE_D, S_w_INDETERMINATE_DP, E_w_INDETERMINATE_DP, F_ordinal_w_INDETERMINATE_P, F_ordinal_w_PERMIT, F_ordinal_w_DENY, F_ordinal_w_NOT_APPLICABLE, F_ordinal_w_INDETERMINATE_D, F_ordinal_w_INDETERMINATE_DP, ne_w_PERMIT_w_INDETERMINATE_P, ne_w_PERMIT_w_DENY, ne_w_PERMIT_w_NOT_APPLICABLE, ne_w_PERMIT_w_INDETERMINATE_D, ne_w_PERMIT_w_INDETERMINATE_DP, ne_w_INDETERMINATE_P_w_DENY, ne_w_INDETERMINATE_P_w_NOT_APPLICABLE, ne_w_INDETERMINATE_P_w_INDETERMINATE_D, ne_w_INDETERMINATE_P_w_INDETERMINATE_DP, ne_w_DENY_w_NOT_APPLICABLE, ne_w_DENY_w_INDETERMINATE_D, ne_w_DENY_w_INDETERMINATE_DP, ne_w_NOT_APPLICABLE_w_INDETERMINATE_D, ne_w_NOT_APPLICABLE_w_INDETERMINATE_DP, ne_w_INDETERMINATE_D_w_INDETERMINATE_DP, -⟩ := id HW
  obtain ⟨T1, X1, e1, st1⟩ := getS2 X0 hx hZ hown (host := "") (Or.inl (hw _ (List.mem_of_getElem? (i := 19) rfl))) Via.refl e0 S_w_INDETERMINATE_P (g := (mkF m 31 #[.val (.int (3 : Int32))] [])) rfl (hb hby d3_31)
  obtain ⟨fs, hr, hrun, hended, hW, hsame⟩ := X1.leave (v := some (.ref w_INDETERMINATE_P)) (fun h => by rw [Bd.returns] at h; cases h)
  refine ⟨_, _, pre0 _ ?_, hrun, hended, _, _, rfl, ?_, ⟨_, rfl⟩, hW, hsame.mono (by decide) (by decide)⟩
  · show Steps p.tables e below (s₁.setTop (mkF m 0 #[.val (.int (3 : Int32))] [])) _
    refine XS.iloadN X0.here hx rfl (hb hby d3_0) rfl ?_
    show Steps p.tables e below (s₁.setTop (mkF m 1 #[.val (.int (3 : Int32))] [(.int (3 : Int32))])) _
    refine XS.ifYes X0.here hx rfl (pc0 := 1) (pc' := 8) rfl (hb hby d3_1) rfl ((if0 _ _).trans (feq (by decide : ¬ ((3 : Int32) = (0 : Int32)))).2) (by decide) (by decide) ?_
    show Steps p.tables e below (s₁.setTop (mkF m 8 #[.val (.int (3 : Int32))] [])) _
    refine XS.iloadN X0.here hx rfl (hb hby d3_8) rfl ?_
    show Steps p.tables e below (s₁.setTop (mkF m 9 #[.val (.int (3 : Int32))] [(.int (3 : Int32))])) _
    refine XS.iconst X0.here hx rfl (hb hby d3_9) ?_
    show Steps p.tables e below (s₁.setTop (mkF m 10 #[.val (.int (3 : Int32))] [(.int (1 : Int32)), (.int (3 : Int32))])) _
    refine XS.icmpYes X0.here hx rfl (pc0 := 10) (pc' := 17) rfl (hb hby d3_10) rfl (feq (by decide : ¬ ((3 : Int32) = (1 : Int32)))).2 (by decide) (by decide) ?_
    show Steps p.tables e below (s₁.setTop (mkF m 17 #[.val (.int (3 : Int32))] [])) _
    refine XS.iloadN X0.here hx rfl (hb hby d3_17) rfl ?_
    show Steps p.tables e below (s₁.setTop (mkF m 18 #[.val (.int (3 : Int32))] [(.int (3 : Int32))])) _
    refine XS.iconst X0.here hx rfl (hb hby d3_18) ?_
    show Steps p.tables e below (s₁.setTop (mkF m 19 #[.val (.int (3 : Int32))] [(.int (2 : Int32)), (.int (3 : Int32))])) _
    refine XS.icmpYes X0.here hx rfl (pc0 := 19) (pc' := 26) rfl (hb hby d3_19) rfl (feq (by decide : ¬ ((3 : Int32) = (2 : Int32)))).2 (by decide) (by decide) ?_
    show Steps p.tables e below (s₁.setTop (mkF m 26 #[.val (.int (3 : Int32))] [])) _
    refine XS.iloadN X0.here hx rfl (hb hby d3_26) rfl ?_
    show Steps p.tables e below (s₁.setTop (mkF m 27 #[.val (.int (3 : Int32))] [(.int (3 : Int32))])) _
    refine XS.iconst X0.here hx rfl (hb hby d3_27) ?_
    show Steps p.tables e below (s₁.setTop (mkF m 28 #[.val (.int (3 : Int32))] [(.int (3 : Int32)), (.int (3 : Int32))])) _
    refine XS.icmpNo X0.here hx rfl (hb hby d3_28) rfl (teq (by decide : (3 : Int32) = (3 : Int32))).2 ?_
    show Steps p.tables e below (s₁.setTop (mkF m 31 #[.val (.int (3 : Int32))] [])) _
    refine st1 _ ?_
    show Steps p.tables e below (T1.setTop (mkF m 34 #[.val (.int (3 : Int32))] [(.ref w_INDETERMINATE_P)])) _
    jvm_step X1.here [X1.here.top, hx, (hb hby d3_34), X1.method', Bd.returns, Value.isRef, FieldType.isReference]
    first | (intro acts; rw [hr _ acts rfl rfl rfl]) | rw [hr _ _ rfl rfl rfl]
    exact Steps.refl _
  · exact ⟨rfl, N0, e1⟩
set_option maxRecDepth 65536 in
set_option maxHeartbeats 40000000 in
theorem rm0_c3 (l : Launch) (Z : State) (a0 : Array Value) (hw : ∀ d ∈ tables_1, d.before a0 Z = true) (ws : List Jvm.Cond) (w_PERMIT : Addr) (w_INDETERMINATE_P : Addr) (w_DENY : Addr) (w_NOT_APPLICABLE : Addr) (w_INDETERMINATE_D : Addr) (w_INDETERMINATE_DP : Addr) (p1 : Int32) (h0 : Heap) (n0 : Nat) (Z0 : n0 ≤ h0.size) (HW : World Z h0 w_PERMIT w_INDETERMINATE_P w_DENY w_NOT_APPLICABLE w_INDETERMINATE_D w_INDETERMINATE_DP) (hk : ((p1 &&& (2147483647 : Int32)) % (6 : Int32)) = (3 : Int32)) :
    MetFree l x (head1 (Jvm.Cond.code x code maxLocals ret :: ws) room_1) (fun a U => a = #[(.int p1)] ∧ Z.Warmed39 U.vm ∧ U.heap = h0) (fun _ _ _ _ _ => True) (fun _ U o U' => ∃ v L, o = .returned v ∧ Q0 h0 n0 v U'.heap L ∧ FrameEnd U o U' L room_1.cells room_1.slots) := by
  refine MetFree.of_bodySF (plainFor_of_name pn6) hisR ?_
  intro p e s m args below meth c s₁ Bd hml0 hP hK
  obtain ⟨rfl, hZ, hh⟩ := hP
  have hx := Bd.exec
  have hby := Bd.bytes
  have hml : c.maxLocals = 4 := hml0
  have hown : s.vm.findClass "com/example/minos/minos/xacml/DecisionUnderIndeterminateTargetPinLaw" = some m.cls := findClass_of_methodNamed Bd.named
  have X0 : Stand p l e room_1 s m #[(.int p1)] below meth c s₁ [] 0 0 := Stand.of_body Bd
  have e0 : s₁.heap = h0 := by rw [← hh, Bd.state]; rfl
  have N0 := Fr.nil n0
  have pre0 : ∀ t, Steps p.tables e below (s₁.setTop (mkF m 0 #[.val (.int p1), .unset, .unset, .unset] [])) t → Steps p.tables e below (s₁.setTop (entryFrame m #[(.int p1)] maxLocals)) t := fun t k => castTop (ef33 m p1) k
  obtain ⟨S_w_PERMIT, E_w_PERMIT, S_w_INDETERMINATE_P, E_w_INDETERMINATE_P, S_w_DENY, E_w_DENY, S_w_NOT_APPLICABLE, E_w_NOT_APPLICABLE, S_w_INDETERMINATE_D, E_w_INDETERMINATE_D, S_w_INDETERMINATE_DP, E_w_INDETERMINATE_DP, F_ordinal_w_INDETERMINATE_P, F_ordinal_w_PERMIT, F_ordinal_w_DENY, F_ordinal_w_NOT_APPLICABLE, F_ordinal_w_INDETERMINATE_D, F_ordinal_w_INDETERMINATE_DP, ne_w_PERMIT_w_INDETERMINATE_P, ne_w_PERMIT_w_DENY, ne_w_PERMIT_w_NOT_APPLICABLE, ne_w_PERMIT_w_INDETERMINATE_D, ne_w_PERMIT_w_INDETERMINATE_DP, ne_w_INDETERMINATE_P_w_DENY, ne_w_INDETERMINATE_P_w_NOT_APPLICABLE, ne_w_INDETERMINATE_P_w_INDETERMINATE_D, ne_w_INDETERMINATE_P_w_INDETERMINATE_DP, ne_w_DENY_w_NOT_APPLICABLE, ne_w_DENY_w_INDETERMINATE_D, ne_w_DENY_w_INDETERMINATE_DP, ne_w_NOT_APPLICABLE_w_INDETERMINATE_D, ne_w_NOT_APPLICABLE_w_INDETERMINATE_DP, ne_w_INDETERMINATE_D_w_INDETERMINATE_DP, -⟩ := id HW
  obtain ⟨_, _, ⟨T1, L1, k1, n1⟩, -, X1, ⟨Lc1, hQ1, l1, y1, z1⟩, st1⟩ := Jvm.LawKit.callS X0 hx (y := (⟨"com/example/minos/minos/xacml/DecisionUnderIndeterminateTargetPinLaw", "pick", "(I)Lcom/example/minos/minos/xacml/Decision;"⟩ : MethodName)) hown (mvT hZ (hw _ (List.mem_of_getElem? (i := 1) rfl))) (mvT hZ (hw _ (List.mem_of_getElem? (i := 2) rfl))) (mvT hZ (hw _ (List.mem_of_getElem? (i := 3) rfl))) (mvT hZ (hw _ (List.mem_of_getElem? (i := 4) rfl))) (by decide) (backOf (W := 0) (rm1_14 l Z a0 hw [] w_PERMIT w_INDETERMINATE_P w_DENY w_NOT_APPLICABLE w_INDETERMINATE_D w_INDETERMINATE_DP h0 n0 Z0 HW) hZ (hw _ (List.mem_of_getElem? (i := 4) rfl)) (hw _ (List.mem_of_getElem? (i := 3) rfl)) (by decide) (by decide)) (g := (mkF m 9 #[.val (.int p1), .val (.int (3 : Int32)), .unset, .unset] [(.int (3 : Int32))])) rfl (by rw [hml]; rfl) (argsL := [(.int (3 : Int32))]) (rest := []) (lenOf pd7 rfl) rfl (by show 2 * 0 + _ ≤ _; exact Nat.le_of_eq rfl) (hb hby at_9) (fun _ _ => ⟨rfl, e0, (by decide : 0 + 0 ≤ _), (by decide : 0 + 0 ≤ _)⟩)
  dsimp only [Pt.U, Pt.locs, Pt.cells, Pt.slots] at X1 l1 y1 z1 st1 hQ1
  subst l1 y1 z1
  obtain ⟨rfl, N1q, e1⟩ := hQ1
  have N1 := Fr.app N0 N1q
  obtain ⟨cq2, kq2, q2a, q2b, q2c⟩ := isOf hZ e1 E_w_INDETERMINATE_P
  obtain ⟨_, _, ⟨T2, L2, k2, n2⟩, -, X2, ⟨Lc2, hQ2, l2, y2, z2⟩, st2⟩ := X1.virtualBack hx (y := (⟨"com/example/minos/minos/xacml/Decision", "underIndeterminateTarget", "()Lcom/example/minos/minos/xacml/Decision;"⟩ : MethodName)) (z := (⟨"com/example/minos/minos/xacml/Decision", "underIndeterminateTarget", "()Lcom/example/minos/minos/xacml/Decision;"⟩ : MethodName)) hown (mvT hZ (hw _ (List.mem_of_getElem? (i := 8) rfl))) (mvT hZ (hw _ (List.mem_of_getElem? (i := 9) rfl))) (notFace_of_selects (args := #[]) (mvT hZ (hw _ (List.mem_of_getElem? (i := 11) rfl)))) (mvT hZ (hw _ (List.mem_of_getElem? (i := 11) rfl))) (mvT hZ (hw _ (List.mem_of_getElem? (i := 10) rfl))) (by decide) (backOf (W := 0) (rm2_3 l Z a0 hw [] w_PERMIT w_INDETERMINATE_P w_DENY w_NOT_APPLICABLE w_INDETERMINATE_D w_INDETERMINATE_DP h0 n0 Z0 HW) hZ (hw _ (List.mem_of_getElem? (i := 12) rfl)) (hw _ (List.mem_of_getElem? (i := 6) rfl)) (by decide) (by decide)) q2a q2c (g := (mkF m 14 #[.val (.int p1), .val (.int (3 : Int32)), .val (.ref w_INDETERMINATE_P), .unset] [(.ref w_INDETERMINATE_P)])) rfl (by rw [hml]; rfl) (Steps.refl _) (argsL := []) (rest := []) (lenOf pd19 rfl) rfl (by show 2 * 0 + _ ≤ _; exact Nat.le_of_eq rfl) (hb hby at_14) (fun _ _ => ⟨rfl, e1, (by decide : 0 + 0 ≤ _), (by decide : 0 + 0 ≤ _)⟩)
  dsimp only [Pt.U, Pt.locs, Pt.cells, Pt.slots] at X2 l2 y2 z2 st2 hQ2
  subst l2 y2 z2
  obtain ⟨rfl, N2q, e2⟩ := hQ2
  have N2 := Fr.app N1 N2q
  obtain ⟨_, _, ⟨T3, L3, k3, n3⟩, -, X3, ⟨Lc3, hQ3, l3, y3, z3⟩, st3⟩ := Jvm.LawKit.callS X2 hx (y := (⟨"com/example/minos/minos/xacml/DecisionUnderIndeterminateTargetPinLaw", "expected", "(I)Lcom/example/minos/minos/xacml/Decision;"⟩ : MethodName)) hown (mvT hZ (hw _ (List.mem_of_getElem? (i := 16) rfl))) (mvT hZ (hw _ (List.mem_of_getElem? (i := 17) rfl))) (mvT hZ (hw _ (List.mem_of_getElem? (i := 3) rfl))) (mvT hZ (hw _ (List.mem_of_getElem? (i := 18) rfl))) (by decide) (backOf (W := 1) (rm3_15 l Z a0 hw [] w_PERMIT w_INDETERMINATE_P w_DENY w_NOT_APPLICABLE w_INDETERMINATE_D w_INDETERMINATE_DP h0 n0 Z0 HW) hZ (hw _ (List.mem_of_getElem? (i := 18) rfl)) (hw _ (List.mem_of_getElem? (i := 3) rfl)) (by decide) (by decide)) (g := (mkF m 20 #[.val (.int p1), .val (.int (3 : Int32)), .val (.ref w_INDETERMINATE_P), .val (.ref w_INDETERMINATE_P)] [(.int (3 : Int32)), (.ref w_INDETERMINATE_P)])) rfl (by rw [hml]; rfl) (argsL := [(.int (3 : Int32))]) (rest := [(.ref w_INDETERMINATE_P)]) (lenOf pd7 rfl) rfl (by show 2 * 0 + _ ≤ _; exact Nat.le_of_eq rfl) (hb hby at_20) (fun _ _ => ⟨rfl, e2, (by decide : 0 + 0 ≤ _), (by decide : 0 + 0 ≤ _)⟩)
  dsimp only [Pt.U, Pt.locs, Pt.cells, Pt.slots] at X3 l3 y3 z3 st3 hQ3
  subst l3 y3 z3
  obtain ⟨rfl, N3q, e3⟩ := hQ3
  have N3 := Fr.app N2 N3q
  obtain ⟨T4, X4, e4, st4⟩ := getS2 X3 hx hZ hown (host := "") (Or.inl (hw _ (List.mem_of_getElem? (i := 5) rfl))) Via.refl e3 S_w_PERMIT (g := (mkF m 29 #[.val (.int p1), .val (.int (3 : Int32)), .val (.ref w_INDETERMINATE_P), .val (.ref w_INDETERMINATE_P)] [(.ref w_INDETERMINATE_P)])) rfl (hb hby at_29)
  obtain ⟨T5, X5, e5, st5⟩ := getS2 X4 hx hZ hown (host := "") (Or.inl (hw _ (List.mem_of_getElem? (i := 20) rfl))) Via.refl e4 S_w_DENY (g := (mkF m 36 #[.val (.int p1), .val (.int (3 : Int32)), .val (.ref w_INDETERMINATE_P), .val (.ref w_INDETERMINATE_P)] [(.ref w_INDETERMINATE_P)])) rfl (hb hby at_36)
  obtain ⟨cq6, kq6, q6a, q6b, q6c⟩ := isOf hZ e5 E_w_INDETERMINATE_P
  obtain ⟨_, _, ⟨T6, L6, k6, n6⟩, -, X6, ⟨Lc6, hQ6, l6, y6, z6⟩, st6⟩ := X5.virtualBack hx (y := (⟨"com/example/minos/minos/xacml/Decision", "underIndeterminateTarget", "()Lcom/example/minos/minos/xacml/Decision;"⟩ : MethodName)) (z := (⟨"com/example/minos/minos/xacml/Decision", "underIndeterminateTarget", "()Lcom/example/minos/minos/xacml/Decision;"⟩ : MethodName)) hown (mvT hZ (hw _ (List.mem_of_getElem? (i := 8) rfl))) (mvT hZ (hw _ (List.mem_of_getElem? (i := 9) rfl))) (notFace_of_selects (args := #[]) (mvT hZ (hw _ (List.mem_of_getElem? (i := 11) rfl)))) (mvT hZ (hw _ (List.mem_of_getElem? (i := 11) rfl))) (mvT hZ (hw _ (List.mem_of_getElem? (i := 10) rfl))) (by decide) (backOf (W := 0) (rm2_3 l Z a0 hw [] w_PERMIT w_INDETERMINATE_P w_DENY w_NOT_APPLICABLE w_INDETERMINATE_D w_INDETERMINATE_DP h0 n0 Z0 HW) hZ (hw _ (List.mem_of_getElem? (i := 12) rfl)) (hw _ (List.mem_of_getElem? (i := 6) rfl)) (by decide) (by decide)) q6a q6c (g := (mkF m 45 #[.val (.int p1), .val (.int (3 : Int32)), .val (.ref w_INDETERMINATE_P), .val (.ref w_INDETERMINATE_P)] [(.ref w_INDETERMINATE_P)])) rfl (by rw [hml]; rfl) (Steps.refl _) (argsL := []) (rest := []) (lenOf pd19 rfl) rfl (by show 2 * 0 + _ ≤ _; exact Nat.le_of_eq rfl) (hb hby at_45) (fun _ _ => ⟨rfl, e5, (by decide : 0 + 0 ≤ _), (by decide : 0 + 0 ≤ _)⟩)
  dsimp only [Pt.U, Pt.locs, Pt.cells, Pt.slots] at X6 l6 y6 z6 st6 hQ6
  subst l6 y6 z6
  obtain ⟨rfl, N6q, e6⟩ := hQ6
  have N6 := Fr.app N3 N6q
  obtain ⟨fs, hr, hrun, hended, hW, hsame⟩ := X6.leave (v := some (.int (1 : Int32))) (fun h => by rw [Bd.returns] at h; cases h)
  refine ⟨_, _, pre0 _ ?_, hrun, hended, _, _, rfl, ?_, ⟨_, rfl⟩, hW, hsame.mono (by decide) (by decide)⟩
  · show Steps p.tables e below (s₁.setTop (mkF m 0 #[.val (.int p1), .unset, .unset, .unset] [])) _
    refine XS.iloadN X0.here hx rfl (hb hby at_0) rfl ?_
    show Steps p.tables e below (s₁.setTop (mkF m 1 #[.val (.int p1), .unset, .unset, .unset] [(.int p1)])) _
    refine X0.ldcInt hx hown (mvT hZ (hw _ (List.mem_of_getElem? (i := 0) rfl))) (g := (mkF m 1 #[.val (.int p1), .unset, .unset, .unset] [(.int p1)])) rfl (hb hby at_1) _ ?_
    show Steps p.tables e below (s₁.setTop (mkF m 3 #[.val (.int p1), .unset, .unset, .unset] [(.int (2147483647 : Int32)), (.int p1)])) _
    refine XS.iand X0.here hx rfl (hb hby at_3) rfl ?_
    show Steps p.tables e below (s₁.setTop (mkF m 4 #[.val (.int p1), .unset, .unset, .unset] [(.int (p1 &&& (2147483647 : Int32)))])) _
    refine XS.bipush X0.here hx rfl (hb hby at_4) ?_
    show Steps p.tables e below (s₁.setTop (mkF m 6 #[.val (.int p1), .unset, .unset, .unset] [(.int (6 : Int32)), (.int (p1 &&& (2147483647 : Int32)))])) _
    refine iremM X0 hx rfl (hb hby at_6) rfl (by decide) ?_
    rw [hk]
    show Steps p.tables e below (s₁.setTop (mkF m 7 #[.val (.int p1), .unset, .unset, .unset] [(.int (3 : Int32))])) _
    refine XS.istoreN X0.here hx rfl (hb hby at_7) rfl (l' := #[.val (.int p1), .val (.int (3 : Int32)), .unset, .unset]) rfl ?_
    show Steps p.tables e below (s₁.setTop (mkF m 8 #[.val (.int p1), .val (.int (3 : Int32)), .unset, .unset] [])) _
    refine XS.iloadN X0.here hx rfl (hb hby at_8) rfl ?_
    show Steps p.tables e below (s₁.setTop (mkF m 9 #[.val (.int p1), .val (.int (3 : Int32)), .unset, .unset] [(.int (3 : Int32))])) _
    refine st1 _ ?_
    show Steps p.tables e below (T1.setTop (mkF m 12 #[.val (.int p1), .val (.int (3 : Int32)), .unset, .unset] [(.ref w_INDETERMINATE_P)])) _
    refine XS.astoreN X1.here hx rfl (hb hby at_12) rfl rfl (l' := #[.val (.int p1), .val (.int (3 : Int32)), .val (.ref w_INDETERMINATE_P), .unset]) rfl ?_
    show Steps p.tables e below (T1.setTop (mkF m 13 #[.val (.int p1), .val (.int (3 : Int32)), .val (.ref w_INDETERMINATE_P), .unset] [])) _
    refine XS.aloadN X1.here hx rfl (hb hby at_13) rfl rfl ?_
    show Steps p.tables e below (T1.setTop (mkF m 14 #[.val (.int p1), .val (.int (3 : Int32)), .val (.ref w_INDETERMINATE_P), .unset] [(.ref w_INDETERMINATE_P)])) _
    refine st2.trans ?_
    show Steps p.tables e below (T2.setTop (mkF m 17 #[.val (.int p1), .val (.int (3 : Int32)), .val (.ref w_INDETERMINATE_P), .unset] [(.ref w_INDETERMINATE_P)])) _
    refine XS.astoreN X2.here hx rfl (hb hby at_17) rfl rfl (l' := #[.val (.int p1), .val (.int (3 : Int32)), .val (.ref w_INDETERMINATE_P), .val (.ref w_INDETERMINATE_P)]) rfl ?_
    show Steps p.tables e below (T2.setTop (mkF m 18 #[.val (.int p1), .val (.int (3 : Int32)), .val (.ref w_INDETERMINATE_P), .val (.ref w_INDETERMINATE_P)] [])) _
    refine XS.aloadN X2.here hx rfl (hb hby at_18) rfl rfl ?_
    show Steps p.tables e below (T2.setTop (mkF m 19 #[.val (.int p1), .val (.int (3 : Int32)), .val (.ref w_INDETERMINATE_P), .val (.ref w_INDETERMINATE_P)] [(.ref w_INDETERMINATE_P)])) _
    refine XS.iloadN X2.here hx rfl (hb hby at_19) rfl ?_
    show Steps p.tables e below (T2.setTop (mkF m 20 #[.val (.int p1), .val (.int (3 : Int32)), .val (.ref w_INDETERMINATE_P), .val (.ref w_INDETERMINATE_P)] [(.int (3 : Int32)), (.ref w_INDETERMINATE_P)])) _
    refine st3 _ ?_
    show Steps p.tables e below (T3.setTop (mkF m 23 #[.val (.int p1), .val (.int (3 : Int32)), .val (.ref w_INDETERMINATE_P), .val (.ref w_INDETERMINATE_P)] [(.ref w_INDETERMINATE_P), (.ref w_INDETERMINATE_P)])) _
    refine Jvm.RoadKit.acmp (g := (mkF m 23 #[.val (.int p1), .val (.int (3 : Int32)), .val (.ref w_INDETERMINATE_P), .val (.ref w_INDETERMINATE_P)] [(.ref w_INDETERMINATE_P), (.ref w_INDETERMINATE_P)])) X3 hx rfl rfl rfl (pc0 := 23) (pc' := 28) (same := true) rfl (hb hby at_23) rfl (decide_eq_true rfl) (by decide) (by decide) ?_
    show Steps p.tables e below (T3.setTop (mkF m 28 #[.val (.int p1), .val (.int (3 : Int32)), .val (.ref w_INDETERMINATE_P), .val (.ref w_INDETERMINATE_P)] [])) _
    refine XS.aloadN X3.here hx rfl (hb hby at_28) rfl rfl ?_
    show Steps p.tables e below (T3.setTop (mkF m 29 #[.val (.int p1), .val (.int (3 : Int32)), .val (.ref w_INDETERMINATE_P), .val (.ref w_INDETERMINATE_P)] [(.ref w_INDETERMINATE_P)])) _
    refine st4 _ ?_
    show Steps p.tables e below (T4.setTop (mkF m 32 #[.val (.int p1), .val (.int (3 : Int32)), .val (.ref w_INDETERMINATE_P), .val (.ref w_INDETERMINATE_P)] [(.ref w_PERMIT), (.ref w_INDETERMINATE_P)])) _
    refine Jvm.RoadKit.acmp (g := (mkF m 32 #[.val (.int p1), .val (.int (3 : Int32)), .val (.ref w_INDETERMINATE_P), .val (.ref w_INDETERMINATE_P)] [(.ref w_PERMIT), (.ref w_INDETERMINATE_P)])) X4 hx rfl rfl rfl (pc0 := 32) (pc' := 35) (same := false) rfl (hb hby at_32) rfl (decide_eq_false fun q => ne_w_PERMIT_w_INDETERMINATE_P (Value.ref.inj q).symm) (by decide) (by decide) ?_
    show Steps p.tables e below (T4.setTop (mkF m 35 #[.val (.int p1), .val (.int (3 : Int32)), .val (.ref w_INDETERMINATE_P), .val (.ref w_INDETERMINATE_P)] [])) _
    refine XS.aloadN X4.here hx rfl (hb hby at_35) rfl rfl ?_
    show Steps p.tables e below (T4.setTop (mkF m 36 #[.val (.int p1), .val (.int (3 : Int32)), .val (.ref w_INDETERMINATE_P), .val (.ref w_INDETERMINATE_P)] [(.ref w_INDETERMINATE_P)])) _
    refine st5 _ ?_
    show Steps p.tables e below (T5.setTop (mkF m 39 #[.val (.int p1), .val (.int (3 : Int32)), .val (.ref w_INDETERMINATE_P), .val (.ref w_INDETERMINATE_P)] [(.ref w_DENY), (.ref w_INDETERMINATE_P)])) _
    refine Jvm.RoadKit.acmp (g := (mkF m 39 #[.val (.int p1), .val (.int (3 : Int32)), .val (.ref w_INDETERMINATE_P), .val (.ref w_INDETERMINATE_P)] [(.ref w_DENY), (.ref w_INDETERMINATE_P)])) X5 hx rfl rfl rfl (pc0 := 39) (pc' := 44) (same := false) rfl (hb hby at_39) rfl (decide_eq_false fun q => ne_w_INDETERMINATE_P_w_DENY (Value.ref.inj q)) (by decide) (by decide) ?_
    show Steps p.tables e below (T5.setTop (mkF m 44 #[.val (.int p1), .val (.int (3 : Int32)), .val (.ref w_INDETERMINATE_P), .val (.ref w_INDETERMINATE_P)] [])) _
    refine XS.aloadN X5.here hx rfl (hb hby at_44) rfl rfl ?_
    show Steps p.tables e below (T5.setTop (mkF m 45 #[.val (.int p1), .val (.int (3 : Int32)), .val (.ref w_INDETERMINATE_P), .val (.ref w_INDETERMINATE_P)] [(.ref w_INDETERMINATE_P)])) _
    refine st6.trans ?_
    show Steps p.tables e below (T6.setTop (mkF m 48 #[.val (.int p1), .val (.int (3 : Int32)), .val (.ref w_INDETERMINATE_P), .val (.ref w_INDETERMINATE_P)] [(.ref w_INDETERMINATE_P)])) _
    refine XS.aloadN X6.here hx rfl (hb hby at_48) rfl rfl ?_
    show Steps p.tables e below (T6.setTop (mkF m 49 #[.val (.int p1), .val (.int (3 : Int32)), .val (.ref w_INDETERMINATE_P), .val (.ref w_INDETERMINATE_P)] [(.ref w_INDETERMINATE_P), (.ref w_INDETERMINATE_P)])) _
    refine Jvm.RoadKit.acmp (g := (mkF m 49 #[.val (.int p1), .val (.int (3 : Int32)), .val (.ref w_INDETERMINATE_P), .val (.ref w_INDETERMINATE_P)] [(.ref w_INDETERMINATE_P), (.ref w_INDETERMINATE_P)])) X6 hx rfl rfl rfl (pc0 := 49) (pc' := 52) (same := true) rfl (hb hby at_49) rfl (decide_eq_true rfl) (by decide) (by decide) ?_
    show Steps p.tables e below (T6.setTop (mkF m 52 #[.val (.int p1), .val (.int (3 : Int32)), .val (.ref w_INDETERMINATE_P), .val (.ref w_INDETERMINATE_P)] [])) _
    refine XS.iconst X6.here hx rfl (hb hby at_52) ?_
    show Steps p.tables e below (T6.setTop (mkF m 53 #[.val (.int p1), .val (.int (3 : Int32)), .val (.ref w_INDETERMINATE_P), .val (.ref w_INDETERMINATE_P)] [(.int (1 : Int32))])) _
    refine XS.goto X6.here hx rfl (pc0 := 53) (pc' := 57) rfl (hb hby at_53) (by decide) (by decide) ?_
    show Steps p.tables e below (T6.setTop (mkF m 57 #[.val (.int p1), .val (.int (3 : Int32)), .val (.ref w_INDETERMINATE_P), .val (.ref w_INDETERMINATE_P)] [(.int (1 : Int32))])) _
    exact retN X6 hx (t := .boolean) Bd.returns (by simp) (hb hby at_57) hr
  · exact ⟨rfl, N6⟩
theorem d1_35 : decode method_2_code 35 = .ok (.iload_n 0, 1) := by decide +kernel
theorem d1_36 : decode method_2_code 36 = .ok (.iconst 4, 1) := by decide +kernel
theorem d1_37 : decode method_2_code 37 = .ok (.if_icmp .ne 7, 3) := by decide +kernel
theorem d1_40 : decode method_2_code 40 = .ok (.getstatic 22, 3) := by decide +kernel
theorem d1_43 : decode method_2_code 43 = .ok (.areturn, 1) := by decide +kernel
def Q1_17 (Z : State) (w_PERMIT : Addr) (w_INDETERMINATE_P : Addr) (w_DENY : Addr) (w_NOT_APPLICABLE : Addr) (w_INDETERMINATE_D : Addr) (w_INDETERMINATE_DP : Addr) (h0 : Heap) (n0 : Nat) (v : Option Value) (h : Heap) (L : List Loc) : Prop := v = some (.ref w_INDETERMINATE_D) ∧ Fr n0 L ∧ h = h0
set_option maxRecDepth 65536 in
set_option maxHeartbeats 40000000 in
theorem rm1_17 (l : Launch) (Z : State) (a0 : Array Value) (hw : ∀ d ∈ tables_1, d.before a0 Z = true) (ws : List Jvm.Cond) (w_PERMIT : Addr) (w_INDETERMINATE_P : Addr) (w_DENY : Addr) (w_NOT_APPLICABLE : Addr) (w_INDETERMINATE_D : Addr) (w_INDETERMINATE_DP : Addr) (h0 : Heap) (n0 : Nat) (Z0 : n0 ≤ h0.size) (HW : World Z h0 w_PERMIT w_INDETERMINATE_P w_DENY w_NOT_APPLICABLE w_INDETERMINATE_D w_INDETERMINATE_DP) :
    MetFree l (⟨"com/example/minos/minos/xacml/DecisionUnderIndeterminateTargetPinLaw", "pick", "(I)Lcom/example/minos/minos/xacml/Decision;"⟩ : MethodName) (head1 (Jvm.Cond.code (⟨"com/example/minos/minos/xacml/DecisionUnderIndeterminateTargetPinLaw", "pick", "(I)Lcom/example/minos/minos/xacml/Decision;"⟩ : MethodName) method_2_code 1 (some (.object "com/example/minos/minos/xacml/Decision")) :: ws) ({ frames := 0, cells := 0, slots := 0, locals := 0 } : Room)) (fun a U => a = #[(.int (4 : Int32))] ∧ Z.Warmed39 U.vm ∧ U.heap = h0) (fun _ _ _ _ _ => True) (fun _ U o U' => ∃ v L, o = .returned v ∧ Q1_17 Z w_PERMIT w_INDETERMINATE_P w_DENY w_NOT_APPLICABLE w_INDETERMINATE_D w_INDETERMINATE_DP h0 n0 v U'.heap L ∧ FrameEnd U o U' L ({ frames := 0, cells := 0, slots := 0, locals := 0 } : Room).cells ({ frames := 0, cells := 0, slots := 0, locals := 0 } : Room).slots) := by
  refine MetFree.of_bodySF (plainFor_of_name pn6) hisR ?_
  intro p e s m args below meth c s₁ Bd hml0 hP hK
  obtain ⟨rfl, hZ, hh⟩ := hP
  have hx := Bd.exec
  have hby := Bd.bytes
  have hml : c.maxLocals = 1 := hml0
  have hown : s.vm.findClass "com/example/minos/minos/xacml/DecisionUnderIndeterminateTargetPinLaw" = some m.cls := findClass_of_methodNamed Bd.named
  have X0 : Stand p l e ({ frames := 0, cells := 0, slots := 0, locals := 0 } : Room) s m #[(.int (4 : Int32))] below meth c s₁ [] 0 0 := Stand.of_body Bd
  have e0 : s₁.heap = h0 := by rw [← hh, Bd.state]; rfl
  have N0 := Fr.nil n0
  have pre0 : ∀ t, Steps p.tables e below (s₁.setTop (mkF m 0 #[.val (.int (4 : Int32))] [])) t → Steps p.tables e below (s₁.setTop (entryFrame m #[(.int (4 : Int32))] 1)) t := fun t k => castTop (ef5 m (4 : Int32)) k
  obtain ⟨S_w_PERMIT, E_w_PERMIT, S_w_INDETERMINATE_P, E_w_INDETERMINATE_P, S_w_DENY, E_w_DENY, S_w_NOT_APPLICABLE, E_w_NOT_APPLICABLE, S_w_INDETERMINATE_D, E_w_INDETERMINATE_D, S_w_INDETERMINATE_DP, E_w_INDETERMINATE_DP, F_ordinal_w_INDETERMINATE_P, F_ordinal_w_PERMIT, F_ordinal_w_DENY, F_ordinal_w_NOT_APPLICABLE, F_ordinal_w_INDETERMINATE_D, F_ordinal_w_INDETERMINATE_DP, ne_w_PERMIT_w_INDETERMINATE_P, ne_w_PERMIT_w_DENY, ne_w_PERMIT_w_NOT_APPLICABLE, ne_w_PERMIT_w_INDETERMINATE_D, ne_w_PERMIT_w_INDETERMINATE_DP, ne_w_INDETERMINATE_P_w_DENY, ne_w_INDETERMINATE_P_w_NOT_APPLICABLE, ne_w_INDETERMINATE_P_w_INDETERMINATE_D, ne_w_INDETERMINATE_P_w_INDETERMINATE_DP, ne_w_DENY_w_NOT_APPLICABLE, ne_w_DENY_w_INDETERMINATE_D, ne_w_DENY_w_INDETERMINATE_DP, ne_w_NOT_APPLICABLE_w_INDETERMINATE_D, ne_w_NOT_APPLICABLE_w_INDETERMINATE_DP, ne_w_INDETERMINATE_D_w_INDETERMINATE_DP, -⟩ := id HW
  obtain ⟨T1, X1, e1, st1⟩ := getS2 X0 hx hZ hown (host := "") (Or.inl (hw _ (List.mem_of_getElem? (i := 27) rfl))) Via.refl e0 S_w_INDETERMINATE_D (g := (mkF m 40 #[.val (.int (4 : Int32))] [])) rfl (hb hby d1_40)
  obtain ⟨fs, hr, hrun, hended, hW, hsame⟩ := X1.leave (v := some (.ref w_INDETERMINATE_D)) (fun h => by rw [Bd.returns] at h; cases h)
  refine ⟨_, _, pre0 _ ?_, hrun, hended, _, _, rfl, ?_, ⟨_, rfl⟩, hW, hsame.mono (by decide) (by decide)⟩
  · show Steps p.tables e below (s₁.setTop (mkF m 0 #[.val (.int (4 : Int32))] [])) _
    refine XS.iloadN X0.here hx rfl (hb hby d1_0) rfl ?_
    show Steps p.tables e below (s₁.setTop (mkF m 1 #[.val (.int (4 : Int32))] [(.int (4 : Int32))])) _
    refine XS.ifYes X0.here hx rfl (pc0 := 1) (pc' := 8) rfl (hb hby d1_1) rfl ((if0 _ _).trans (feq (by decide : ¬ ((4 : Int32) = (0 : Int32)))).2) (by decide) (by decide) ?_
    show Steps p.tables e below (s₁.setTop (mkF m 8 #[.val (.int (4 : Int32))] [])) _
    refine XS.iloadN X0.here hx rfl (hb hby d1_8) rfl ?_
    show Steps p.tables e below (s₁.setTop (mkF m 9 #[.val (.int (4 : Int32))] [(.int (4 : Int32))])) _
    refine XS.iconst X0.here hx rfl (hb hby d1_9) ?_
    show Steps p.tables e below (s₁.setTop (mkF m 10 #[.val (.int (4 : Int32))] [(.int (1 : Int32)), (.int (4 : Int32))])) _
    refine XS.icmpYes X0.here hx rfl (pc0 := 10) (pc' := 17) rfl (hb hby d1_10) rfl (feq (by decide : ¬ ((4 : Int32) = (1 : Int32)))).2 (by decide) (by decide) ?_
    show Steps p.tables e below (s₁.setTop (mkF m 17 #[.val (.int (4 : Int32))] [])) _
    refine XS.iloadN X0.here hx rfl (hb hby d1_17) rfl ?_
    show Steps p.tables e below (s₁.setTop (mkF m 18 #[.val (.int (4 : Int32))] [(.int (4 : Int32))])) _
    refine XS.iconst X0.here hx rfl (hb hby d1_18) ?_
    show Steps p.tables e below (s₁.setTop (mkF m 19 #[.val (.int (4 : Int32))] [(.int (2 : Int32)), (.int (4 : Int32))])) _
    refine XS.icmpYes X0.here hx rfl (pc0 := 19) (pc' := 26) rfl (hb hby d1_19) rfl (feq (by decide : ¬ ((4 : Int32) = (2 : Int32)))).2 (by decide) (by decide) ?_
    show Steps p.tables e below (s₁.setTop (mkF m 26 #[.val (.int (4 : Int32))] [])) _
    refine XS.iloadN X0.here hx rfl (hb hby d1_26) rfl ?_
    show Steps p.tables e below (s₁.setTop (mkF m 27 #[.val (.int (4 : Int32))] [(.int (4 : Int32))])) _
    refine XS.iconst X0.here hx rfl (hb hby d1_27) ?_
    show Steps p.tables e below (s₁.setTop (mkF m 28 #[.val (.int (4 : Int32))] [(.int (3 : Int32)), (.int (4 : Int32))])) _
    refine XS.icmpYes X0.here hx rfl (pc0 := 28) (pc' := 35) rfl (hb hby d1_28) rfl (feq (by decide : ¬ ((4 : Int32) = (3 : Int32)))).2 (by decide) (by decide) ?_
    show Steps p.tables e below (s₁.setTop (mkF m 35 #[.val (.int (4 : Int32))] [])) _
    refine XS.iloadN X0.here hx rfl (hb hby d1_35) rfl ?_
    show Steps p.tables e below (s₁.setTop (mkF m 36 #[.val (.int (4 : Int32))] [(.int (4 : Int32))])) _
    refine XS.iconst X0.here hx rfl (hb hby d1_36) ?_
    show Steps p.tables e below (s₁.setTop (mkF m 37 #[.val (.int (4 : Int32))] [(.int (4 : Int32)), (.int (4 : Int32))])) _
    refine XS.icmpNo X0.here hx rfl (hb hby d1_37) rfl (teq (by decide : (4 : Int32) = (4 : Int32))).2 ?_
    show Steps p.tables e below (s₁.setTop (mkF m 40 #[.val (.int (4 : Int32))] [])) _
    refine st1 _ ?_
    show Steps p.tables e below (T1.setTop (mkF m 43 #[.val (.int (4 : Int32))] [(.ref w_INDETERMINATE_D)])) _
    jvm_step X1.here [X1.here.top, hx, (hb hby d1_43), X1.method', Bd.returns, Value.isRef, FieldType.isReference]
    first | (intro acts; rw [hr _ acts rfl rfl rfl]) | rw [hr _ _ rfl rfl rfl]
    exact Steps.refl _
  · exact ⟨rfl, N0, e1⟩
theorem d3_35 : decode method_3_code 35 = .ok (.iload_n 0, 1) := by decide +kernel
theorem d3_36 : decode method_3_code 36 = .ok (.iconst 4, 1) := by decide +kernel
theorem d3_37 : decode method_3_code 37 = .ok (.if_icmp .ne 7, 3) := by decide +kernel
theorem d3_40 : decode method_3_code 40 = .ok (.getstatic 22, 3) := by decide +kernel
theorem d3_43 : decode method_3_code 43 = .ok (.areturn, 1) := by decide +kernel
def Q3_18 (Z : State) (w_PERMIT : Addr) (w_INDETERMINATE_P : Addr) (w_DENY : Addr) (w_NOT_APPLICABLE : Addr) (w_INDETERMINATE_D : Addr) (w_INDETERMINATE_DP : Addr) (h0 : Heap) (n0 : Nat) (v : Option Value) (h : Heap) (L : List Loc) : Prop := v = some (.ref w_INDETERMINATE_D) ∧ Fr n0 L ∧ h = h0
set_option maxRecDepth 65536 in
set_option maxHeartbeats 40000000 in
theorem rm3_18 (l : Launch) (Z : State) (a0 : Array Value) (hw : ∀ d ∈ tables_1, d.before a0 Z = true) (ws : List Jvm.Cond) (w_PERMIT : Addr) (w_INDETERMINATE_P : Addr) (w_DENY : Addr) (w_NOT_APPLICABLE : Addr) (w_INDETERMINATE_D : Addr) (w_INDETERMINATE_DP : Addr) (h0 : Heap) (n0 : Nat) (Z0 : n0 ≤ h0.size) (HW : World Z h0 w_PERMIT w_INDETERMINATE_P w_DENY w_NOT_APPLICABLE w_INDETERMINATE_D w_INDETERMINATE_DP) :
    MetFree l (⟨"com/example/minos/minos/xacml/DecisionUnderIndeterminateTargetPinLaw", "expected", "(I)Lcom/example/minos/minos/xacml/Decision;"⟩ : MethodName) (head1 (Jvm.Cond.code (⟨"com/example/minos/minos/xacml/DecisionUnderIndeterminateTargetPinLaw", "expected", "(I)Lcom/example/minos/minos/xacml/Decision;"⟩ : MethodName) method_3_code 1 (some (.object "com/example/minos/minos/xacml/Decision")) :: ws) ({ frames := 0, cells := 0, slots := 0, locals := 0 } : Room)) (fun a U => a = #[(.int (4 : Int32))] ∧ Z.Warmed39 U.vm ∧ U.heap = h0) (fun _ _ _ _ _ => True) (fun _ U o U' => ∃ v L, o = .returned v ∧ Q3_18 Z w_PERMIT w_INDETERMINATE_P w_DENY w_NOT_APPLICABLE w_INDETERMINATE_D w_INDETERMINATE_DP h0 n0 v U'.heap L ∧ FrameEnd U o U' L ({ frames := 0, cells := 0, slots := 0, locals := 0 } : Room).cells ({ frames := 0, cells := 0, slots := 0, locals := 0 } : Room).slots) := by
  refine MetFree.of_bodySF (plainFor_of_name pn6) hisR ?_
  intro p e s m args below meth c s₁ Bd hml0 hP hK
  obtain ⟨rfl, hZ, hh⟩ := hP
  have hx := Bd.exec
  have hby := Bd.bytes
  have hml : c.maxLocals = 1 := hml0
  have hown : s.vm.findClass "com/example/minos/minos/xacml/DecisionUnderIndeterminateTargetPinLaw" = some m.cls := findClass_of_methodNamed Bd.named
  have X0 : Stand p l e ({ frames := 0, cells := 0, slots := 0, locals := 0 } : Room) s m #[(.int (4 : Int32))] below meth c s₁ [] 0 0 := Stand.of_body Bd
  have e0 : s₁.heap = h0 := by rw [← hh, Bd.state]; rfl
  have N0 := Fr.nil n0
  have pre0 : ∀ t, Steps p.tables e below (s₁.setTop (mkF m 0 #[.val (.int (4 : Int32))] [])) t → Steps p.tables e below (s₁.setTop (entryFrame m #[(.int (4 : Int32))] 1)) t := fun t k => castTop (ef25 m (4 : Int32)) k
  obtain ⟨S_w_PERMIT, E_w_PERMIT, S_w_INDETERMINATE_P, E_w_INDETERMINATE_P, S_w_DENY, E_w_DENY, S_w_NOT_APPLICABLE, E_w_NOT_APPLICABLE, S_w_INDETERMINATE_D, E_w_INDETERMINATE_D, S_w_INDETERMINATE_DP, E_w_INDETERMINATE_DP, F_ordinal_w_INDETERMINATE_P, F_ordinal_w_PERMIT, F_ordinal_w_DENY, F_ordinal_w_NOT_APPLICABLE, F_ordinal_w_INDETERMINATE_D, F_ordinal_w_INDETERMINATE_DP, ne_w_PERMIT_w_INDETERMINATE_P, ne_w_PERMIT_w_DENY, ne_w_PERMIT_w_NOT_APPLICABLE, ne_w_PERMIT_w_INDETERMINATE_D, ne_w_PERMIT_w_INDETERMINATE_DP, ne_w_INDETERMINATE_P_w_DENY, ne_w_INDETERMINATE_P_w_NOT_APPLICABLE, ne_w_INDETERMINATE_P_w_INDETERMINATE_D, ne_w_INDETERMINATE_P_w_INDETERMINATE_DP, ne_w_DENY_w_NOT_APPLICABLE, ne_w_DENY_w_INDETERMINATE_D, ne_w_DENY_w_INDETERMINATE_DP, ne_w_NOT_APPLICABLE_w_INDETERMINATE_D, ne_w_NOT_APPLICABLE_w_INDETERMINATE_DP, ne_w_INDETERMINATE_D_w_INDETERMINATE_DP, -⟩ := id HW
  obtain ⟨T1, X1, e1, st1⟩ := getS2 X0 hx hZ hown (host := "") (Or.inl (hw _ (List.mem_of_getElem? (i := 27) rfl))) Via.refl e0 S_w_INDETERMINATE_D (g := (mkF m 40 #[.val (.int (4 : Int32))] [])) rfl (hb hby d3_40)
  obtain ⟨fs, hr, hrun, hended, hW, hsame⟩ := X1.leave (v := some (.ref w_INDETERMINATE_D)) (fun h => by rw [Bd.returns] at h; cases h)
  refine ⟨_, _, pre0 _ ?_, hrun, hended, _, _, rfl, ?_, ⟨_, rfl⟩, hW, hsame.mono (by decide) (by decide)⟩
  · show Steps p.tables e below (s₁.setTop (mkF m 0 #[.val (.int (4 : Int32))] [])) _
    refine XS.iloadN X0.here hx rfl (hb hby d3_0) rfl ?_
    show Steps p.tables e below (s₁.setTop (mkF m 1 #[.val (.int (4 : Int32))] [(.int (4 : Int32))])) _
    refine XS.ifYes X0.here hx rfl (pc0 := 1) (pc' := 8) rfl (hb hby d3_1) rfl ((if0 _ _).trans (feq (by decide : ¬ ((4 : Int32) = (0 : Int32)))).2) (by decide) (by decide) ?_
    show Steps p.tables e below (s₁.setTop (mkF m 8 #[.val (.int (4 : Int32))] [])) _
    refine XS.iloadN X0.here hx rfl (hb hby d3_8) rfl ?_
    show Steps p.tables e below (s₁.setTop (mkF m 9 #[.val (.int (4 : Int32))] [(.int (4 : Int32))])) _
    refine XS.iconst X0.here hx rfl (hb hby d3_9) ?_
    show Steps p.tables e below (s₁.setTop (mkF m 10 #[.val (.int (4 : Int32))] [(.int (1 : Int32)), (.int (4 : Int32))])) _
    refine XS.icmpYes X0.here hx rfl (pc0 := 10) (pc' := 17) rfl (hb hby d3_10) rfl (feq (by decide : ¬ ((4 : Int32) = (1 : Int32)))).2 (by decide) (by decide) ?_
    show Steps p.tables e below (s₁.setTop (mkF m 17 #[.val (.int (4 : Int32))] [])) _
    refine XS.iloadN X0.here hx rfl (hb hby d3_17) rfl ?_
    show Steps p.tables e below (s₁.setTop (mkF m 18 #[.val (.int (4 : Int32))] [(.int (4 : Int32))])) _
    refine XS.iconst X0.here hx rfl (hb hby d3_18) ?_
    show Steps p.tables e below (s₁.setTop (mkF m 19 #[.val (.int (4 : Int32))] [(.int (2 : Int32)), (.int (4 : Int32))])) _
    refine XS.icmpYes X0.here hx rfl (pc0 := 19) (pc' := 26) rfl (hb hby d3_19) rfl (feq (by decide : ¬ ((4 : Int32) = (2 : Int32)))).2 (by decide) (by decide) ?_
    show Steps p.tables e below (s₁.setTop (mkF m 26 #[.val (.int (4 : Int32))] [])) _
    refine XS.iloadN X0.here hx rfl (hb hby d3_26) rfl ?_
    show Steps p.tables e below (s₁.setTop (mkF m 27 #[.val (.int (4 : Int32))] [(.int (4 : Int32))])) _
    refine XS.iconst X0.here hx rfl (hb hby d3_27) ?_
    show Steps p.tables e below (s₁.setTop (mkF m 28 #[.val (.int (4 : Int32))] [(.int (3 : Int32)), (.int (4 : Int32))])) _
    refine XS.icmpYes X0.here hx rfl (pc0 := 28) (pc' := 35) rfl (hb hby d3_28) rfl (feq (by decide : ¬ ((4 : Int32) = (3 : Int32)))).2 (by decide) (by decide) ?_
    show Steps p.tables e below (s₁.setTop (mkF m 35 #[.val (.int (4 : Int32))] [])) _
    refine XS.iloadN X0.here hx rfl (hb hby d3_35) rfl ?_
    show Steps p.tables e below (s₁.setTop (mkF m 36 #[.val (.int (4 : Int32))] [(.int (4 : Int32))])) _
    refine XS.iconst X0.here hx rfl (hb hby d3_36) ?_
    show Steps p.tables e below (s₁.setTop (mkF m 37 #[.val (.int (4 : Int32))] [(.int (4 : Int32)), (.int (4 : Int32))])) _
    refine XS.icmpNo X0.here hx rfl (hb hby d3_37) rfl (teq (by decide : (4 : Int32) = (4 : Int32))).2 ?_
    show Steps p.tables e below (s₁.setTop (mkF m 40 #[.val (.int (4 : Int32))] [])) _
    refine st1 _ ?_
    show Steps p.tables e below (T1.setTop (mkF m 43 #[.val (.int (4 : Int32))] [(.ref w_INDETERMINATE_D)])) _
    jvm_step X1.here [X1.here.top, hx, (hb hby d3_43), X1.method', Bd.returns, Value.isRef, FieldType.isReference]
    first | (intro acts; rw [hr _ acts rfl rfl rfl]) | rw [hr _ _ rfl rfl rfl]
    exact Steps.refl _
  · exact ⟨rfl, N0, e1⟩
set_option maxRecDepth 65536 in
set_option maxHeartbeats 40000000 in
theorem rm0_c4 (l : Launch) (Z : State) (a0 : Array Value) (hw : ∀ d ∈ tables_1, d.before a0 Z = true) (ws : List Jvm.Cond) (w_PERMIT : Addr) (w_INDETERMINATE_P : Addr) (w_DENY : Addr) (w_NOT_APPLICABLE : Addr) (w_INDETERMINATE_D : Addr) (w_INDETERMINATE_DP : Addr) (p1 : Int32) (h0 : Heap) (n0 : Nat) (Z0 : n0 ≤ h0.size) (HW : World Z h0 w_PERMIT w_INDETERMINATE_P w_DENY w_NOT_APPLICABLE w_INDETERMINATE_D w_INDETERMINATE_DP) (hk : ((p1 &&& (2147483647 : Int32)) % (6 : Int32)) = (4 : Int32)) :
    MetFree l x (head1 (Jvm.Cond.code x code maxLocals ret :: ws) room_1) (fun a U => a = #[(.int p1)] ∧ Z.Warmed39 U.vm ∧ U.heap = h0) (fun _ _ _ _ _ => True) (fun _ U o U' => ∃ v L, o = .returned v ∧ Q0 h0 n0 v U'.heap L ∧ FrameEnd U o U' L room_1.cells room_1.slots) := by
  refine MetFree.of_bodySF (plainFor_of_name pn6) hisR ?_
  intro p e s m args below meth c s₁ Bd hml0 hP hK
  obtain ⟨rfl, hZ, hh⟩ := hP
  have hx := Bd.exec
  have hby := Bd.bytes
  have hml : c.maxLocals = 4 := hml0
  have hown : s.vm.findClass "com/example/minos/minos/xacml/DecisionUnderIndeterminateTargetPinLaw" = some m.cls := findClass_of_methodNamed Bd.named
  have X0 : Stand p l e room_1 s m #[(.int p1)] below meth c s₁ [] 0 0 := Stand.of_body Bd
  have e0 : s₁.heap = h0 := by rw [← hh, Bd.state]; rfl
  have N0 := Fr.nil n0
  have pre0 : ∀ t, Steps p.tables e below (s₁.setTop (mkF m 0 #[.val (.int p1), .unset, .unset, .unset] [])) t → Steps p.tables e below (s₁.setTop (entryFrame m #[(.int p1)] maxLocals)) t := fun t k => castTop (ef33 m p1) k
  obtain ⟨S_w_PERMIT, E_w_PERMIT, S_w_INDETERMINATE_P, E_w_INDETERMINATE_P, S_w_DENY, E_w_DENY, S_w_NOT_APPLICABLE, E_w_NOT_APPLICABLE, S_w_INDETERMINATE_D, E_w_INDETERMINATE_D, S_w_INDETERMINATE_DP, E_w_INDETERMINATE_DP, F_ordinal_w_INDETERMINATE_P, F_ordinal_w_PERMIT, F_ordinal_w_DENY, F_ordinal_w_NOT_APPLICABLE, F_ordinal_w_INDETERMINATE_D, F_ordinal_w_INDETERMINATE_DP, ne_w_PERMIT_w_INDETERMINATE_P, ne_w_PERMIT_w_DENY, ne_w_PERMIT_w_NOT_APPLICABLE, ne_w_PERMIT_w_INDETERMINATE_D, ne_w_PERMIT_w_INDETERMINATE_DP, ne_w_INDETERMINATE_P_w_DENY, ne_w_INDETERMINATE_P_w_NOT_APPLICABLE, ne_w_INDETERMINATE_P_w_INDETERMINATE_D, ne_w_INDETERMINATE_P_w_INDETERMINATE_DP, ne_w_DENY_w_NOT_APPLICABLE, ne_w_DENY_w_INDETERMINATE_D, ne_w_DENY_w_INDETERMINATE_DP, ne_w_NOT_APPLICABLE_w_INDETERMINATE_D, ne_w_NOT_APPLICABLE_w_INDETERMINATE_DP, ne_w_INDETERMINATE_D_w_INDETERMINATE_DP, -⟩ := id HW
  obtain ⟨_, _, ⟨T1, L1, k1, n1⟩, -, X1, ⟨Lc1, hQ1, l1, y1, z1⟩, st1⟩ := Jvm.LawKit.callS X0 hx (y := (⟨"com/example/minos/minos/xacml/DecisionUnderIndeterminateTargetPinLaw", "pick", "(I)Lcom/example/minos/minos/xacml/Decision;"⟩ : MethodName)) hown (mvT hZ (hw _ (List.mem_of_getElem? (i := 1) rfl))) (mvT hZ (hw _ (List.mem_of_getElem? (i := 2) rfl))) (mvT hZ (hw _ (List.mem_of_getElem? (i := 3) rfl))) (mvT hZ (hw _ (List.mem_of_getElem? (i := 4) rfl))) (by decide) (backOf (W := 0) (rm1_17 l Z a0 hw [] w_PERMIT w_INDETERMINATE_P w_DENY w_NOT_APPLICABLE w_INDETERMINATE_D w_INDETERMINATE_DP h0 n0 Z0 HW) hZ (hw _ (List.mem_of_getElem? (i := 4) rfl)) (hw _ (List.mem_of_getElem? (i := 3) rfl)) (by decide) (by decide)) (g := (mkF m 9 #[.val (.int p1), .val (.int (4 : Int32)), .unset, .unset] [(.int (4 : Int32))])) rfl (by rw [hml]; rfl) (argsL := [(.int (4 : Int32))]) (rest := []) (lenOf pd7 rfl) rfl (by show 2 * 0 + _ ≤ _; exact Nat.le_of_eq rfl) (hb hby at_9) (fun _ _ => ⟨rfl, e0, (by decide : 0 + 0 ≤ _), (by decide : 0 + 0 ≤ _)⟩)
  dsimp only [Pt.U, Pt.locs, Pt.cells, Pt.slots] at X1 l1 y1 z1 st1 hQ1
  subst l1 y1 z1
  obtain ⟨rfl, N1q, e1⟩ := hQ1
  have N1 := Fr.app N0 N1q
  obtain ⟨cq2, kq2, q2a, q2b, q2c⟩ := isOf hZ e1 E_w_INDETERMINATE_D
  obtain ⟨_, _, ⟨T2, L2, k2, n2⟩, -, X2, ⟨Lc2, hQ2, l2, y2, z2⟩, st2⟩ := X1.virtualBack hx (y := (⟨"com/example/minos/minos/xacml/Decision", "underIndeterminateTarget", "()Lcom/example/minos/minos/xacml/Decision;"⟩ : MethodName)) (z := (⟨"com/example/minos/minos/xacml/Decision", "underIndeterminateTarget", "()Lcom/example/minos/minos/xacml/Decision;"⟩ : MethodName)) hown (mvT hZ (hw _ (List.mem_of_getElem? (i := 8) rfl))) (mvT hZ (hw _ (List.mem_of_getElem? (i := 9) rfl))) (notFace_of_selects (args := #[]) (mvT hZ (hw _ (List.mem_of_getElem? (i := 11) rfl)))) (mvT hZ (hw _ (List.mem_of_getElem? (i := 11) rfl))) (mvT hZ (hw _ (List.mem_of_getElem? (i := 10) rfl))) (by decide) (backOf (W := 0) (rm2_8 l Z a0 hw [] w_PERMIT w_INDETERMINATE_P w_DENY w_NOT_APPLICABLE w_INDETERMINATE_D w_INDETERMINATE_DP h0 n0 Z0 HW) hZ (hw _ (List.mem_of_getElem? (i := 12) rfl)) (hw _ (List.mem_of_getElem? (i := 6) rfl)) (by decide) (by decide)) q2a q2c (g := (mkF m 14 #[.val (.int p1), .val (.int (4 : Int32)), .val (.ref w_INDETERMINATE_D), .unset] [(.ref w_INDETERMINATE_D)])) rfl (by rw [hml]; rfl) (Steps.refl _) (argsL := []) (rest := []) (lenOf pd19 rfl) rfl (by show 2 * 0 + _ ≤ _; exact Nat.le_of_eq rfl) (hb hby at_14) (fun _ _ => ⟨rfl, e1, (by decide : 0 + 0 ≤ _), (by decide : 0 + 0 ≤ _)⟩)
  dsimp only [Pt.U, Pt.locs, Pt.cells, Pt.slots] at X2 l2 y2 z2 st2 hQ2
  subst l2 y2 z2
  obtain ⟨rfl, N2q, e2⟩ := hQ2
  have N2 := Fr.app N1 N2q
  obtain ⟨_, _, ⟨T3, L3, k3, n3⟩, -, X3, ⟨Lc3, hQ3, l3, y3, z3⟩, st3⟩ := Jvm.LawKit.callS X2 hx (y := (⟨"com/example/minos/minos/xacml/DecisionUnderIndeterminateTargetPinLaw", "expected", "(I)Lcom/example/minos/minos/xacml/Decision;"⟩ : MethodName)) hown (mvT hZ (hw _ (List.mem_of_getElem? (i := 16) rfl))) (mvT hZ (hw _ (List.mem_of_getElem? (i := 17) rfl))) (mvT hZ (hw _ (List.mem_of_getElem? (i := 3) rfl))) (mvT hZ (hw _ (List.mem_of_getElem? (i := 18) rfl))) (by decide) (backOf (W := 1) (rm3_18 l Z a0 hw [] w_PERMIT w_INDETERMINATE_P w_DENY w_NOT_APPLICABLE w_INDETERMINATE_D w_INDETERMINATE_DP h0 n0 Z0 HW) hZ (hw _ (List.mem_of_getElem? (i := 18) rfl)) (hw _ (List.mem_of_getElem? (i := 3) rfl)) (by decide) (by decide)) (g := (mkF m 20 #[.val (.int p1), .val (.int (4 : Int32)), .val (.ref w_INDETERMINATE_D), .val (.ref w_INDETERMINATE_D)] [(.int (4 : Int32)), (.ref w_INDETERMINATE_D)])) rfl (by rw [hml]; rfl) (argsL := [(.int (4 : Int32))]) (rest := [(.ref w_INDETERMINATE_D)]) (lenOf pd7 rfl) rfl (by show 2 * 0 + _ ≤ _; exact Nat.le_of_eq rfl) (hb hby at_20) (fun _ _ => ⟨rfl, e2, (by decide : 0 + 0 ≤ _), (by decide : 0 + 0 ≤ _)⟩)
  dsimp only [Pt.U, Pt.locs, Pt.cells, Pt.slots] at X3 l3 y3 z3 st3 hQ3
  subst l3 y3 z3
  obtain ⟨rfl, N3q, e3⟩ := hQ3
  have N3 := Fr.app N2 N3q
  obtain ⟨T4, X4, e4, st4⟩ := getS2 X3 hx hZ hown (host := "") (Or.inl (hw _ (List.mem_of_getElem? (i := 5) rfl))) Via.refl e3 S_w_PERMIT (g := (mkF m 29 #[.val (.int p1), .val (.int (4 : Int32)), .val (.ref w_INDETERMINATE_D), .val (.ref w_INDETERMINATE_D)] [(.ref w_INDETERMINATE_D)])) rfl (hb hby at_29)
  obtain ⟨T5, X5, e5, st5⟩ := getS2 X4 hx hZ hown (host := "") (Or.inl (hw _ (List.mem_of_getElem? (i := 20) rfl))) Via.refl e4 S_w_DENY (g := (mkF m 36 #[.val (.int p1), .val (.int (4 : Int32)), .val (.ref w_INDETERMINATE_D), .val (.ref w_INDETERMINATE_D)] [(.ref w_INDETERMINATE_D)])) rfl (hb hby at_36)
  obtain ⟨cq6, kq6, q6a, q6b, q6c⟩ := isOf hZ e5 E_w_INDETERMINATE_D
  obtain ⟨_, _, ⟨T6, L6, k6, n6⟩, -, X6, ⟨Lc6, hQ6, l6, y6, z6⟩, st6⟩ := X5.virtualBack hx (y := (⟨"com/example/minos/minos/xacml/Decision", "underIndeterminateTarget", "()Lcom/example/minos/minos/xacml/Decision;"⟩ : MethodName)) (z := (⟨"com/example/minos/minos/xacml/Decision", "underIndeterminateTarget", "()Lcom/example/minos/minos/xacml/Decision;"⟩ : MethodName)) hown (mvT hZ (hw _ (List.mem_of_getElem? (i := 8) rfl))) (mvT hZ (hw _ (List.mem_of_getElem? (i := 9) rfl))) (notFace_of_selects (args := #[]) (mvT hZ (hw _ (List.mem_of_getElem? (i := 11) rfl)))) (mvT hZ (hw _ (List.mem_of_getElem? (i := 11) rfl))) (mvT hZ (hw _ (List.mem_of_getElem? (i := 10) rfl))) (by decide) (backOf (W := 0) (rm2_8 l Z a0 hw [] w_PERMIT w_INDETERMINATE_P w_DENY w_NOT_APPLICABLE w_INDETERMINATE_D w_INDETERMINATE_DP h0 n0 Z0 HW) hZ (hw _ (List.mem_of_getElem? (i := 12) rfl)) (hw _ (List.mem_of_getElem? (i := 6) rfl)) (by decide) (by decide)) q6a q6c (g := (mkF m 45 #[.val (.int p1), .val (.int (4 : Int32)), .val (.ref w_INDETERMINATE_D), .val (.ref w_INDETERMINATE_D)] [(.ref w_INDETERMINATE_D)])) rfl (by rw [hml]; rfl) (Steps.refl _) (argsL := []) (rest := []) (lenOf pd19 rfl) rfl (by show 2 * 0 + _ ≤ _; exact Nat.le_of_eq rfl) (hb hby at_45) (fun _ _ => ⟨rfl, e5, (by decide : 0 + 0 ≤ _), (by decide : 0 + 0 ≤ _)⟩)
  dsimp only [Pt.U, Pt.locs, Pt.cells, Pt.slots] at X6 l6 y6 z6 st6 hQ6
  subst l6 y6 z6
  obtain ⟨rfl, N6q, e6⟩ := hQ6
  have N6 := Fr.app N3 N6q
  obtain ⟨fs, hr, hrun, hended, hW, hsame⟩ := X6.leave (v := some (.int (1 : Int32))) (fun h => by rw [Bd.returns] at h; cases h)
  refine ⟨_, _, pre0 _ ?_, hrun, hended, _, _, rfl, ?_, ⟨_, rfl⟩, hW, hsame.mono (by decide) (by decide)⟩
  · show Steps p.tables e below (s₁.setTop (mkF m 0 #[.val (.int p1), .unset, .unset, .unset] [])) _
    refine XS.iloadN X0.here hx rfl (hb hby at_0) rfl ?_
    show Steps p.tables e below (s₁.setTop (mkF m 1 #[.val (.int p1), .unset, .unset, .unset] [(.int p1)])) _
    refine X0.ldcInt hx hown (mvT hZ (hw _ (List.mem_of_getElem? (i := 0) rfl))) (g := (mkF m 1 #[.val (.int p1), .unset, .unset, .unset] [(.int p1)])) rfl (hb hby at_1) _ ?_
    show Steps p.tables e below (s₁.setTop (mkF m 3 #[.val (.int p1), .unset, .unset, .unset] [(.int (2147483647 : Int32)), (.int p1)])) _
    refine XS.iand X0.here hx rfl (hb hby at_3) rfl ?_
    show Steps p.tables e below (s₁.setTop (mkF m 4 #[.val (.int p1), .unset, .unset, .unset] [(.int (p1 &&& (2147483647 : Int32)))])) _
    refine XS.bipush X0.here hx rfl (hb hby at_4) ?_
    show Steps p.tables e below (s₁.setTop (mkF m 6 #[.val (.int p1), .unset, .unset, .unset] [(.int (6 : Int32)), (.int (p1 &&& (2147483647 : Int32)))])) _
    refine iremM X0 hx rfl (hb hby at_6) rfl (by decide) ?_
    rw [hk]
    show Steps p.tables e below (s₁.setTop (mkF m 7 #[.val (.int p1), .unset, .unset, .unset] [(.int (4 : Int32))])) _
    refine XS.istoreN X0.here hx rfl (hb hby at_7) rfl (l' := #[.val (.int p1), .val (.int (4 : Int32)), .unset, .unset]) rfl ?_
    show Steps p.tables e below (s₁.setTop (mkF m 8 #[.val (.int p1), .val (.int (4 : Int32)), .unset, .unset] [])) _
    refine XS.iloadN X0.here hx rfl (hb hby at_8) rfl ?_
    show Steps p.tables e below (s₁.setTop (mkF m 9 #[.val (.int p1), .val (.int (4 : Int32)), .unset, .unset] [(.int (4 : Int32))])) _
    refine st1 _ ?_
    show Steps p.tables e below (T1.setTop (mkF m 12 #[.val (.int p1), .val (.int (4 : Int32)), .unset, .unset] [(.ref w_INDETERMINATE_D)])) _
    refine XS.astoreN X1.here hx rfl (hb hby at_12) rfl rfl (l' := #[.val (.int p1), .val (.int (4 : Int32)), .val (.ref w_INDETERMINATE_D), .unset]) rfl ?_
    show Steps p.tables e below (T1.setTop (mkF m 13 #[.val (.int p1), .val (.int (4 : Int32)), .val (.ref w_INDETERMINATE_D), .unset] [])) _
    refine XS.aloadN X1.here hx rfl (hb hby at_13) rfl rfl ?_
    show Steps p.tables e below (T1.setTop (mkF m 14 #[.val (.int p1), .val (.int (4 : Int32)), .val (.ref w_INDETERMINATE_D), .unset] [(.ref w_INDETERMINATE_D)])) _
    refine st2.trans ?_
    show Steps p.tables e below (T2.setTop (mkF m 17 #[.val (.int p1), .val (.int (4 : Int32)), .val (.ref w_INDETERMINATE_D), .unset] [(.ref w_INDETERMINATE_D)])) _
    refine XS.astoreN X2.here hx rfl (hb hby at_17) rfl rfl (l' := #[.val (.int p1), .val (.int (4 : Int32)), .val (.ref w_INDETERMINATE_D), .val (.ref w_INDETERMINATE_D)]) rfl ?_
    show Steps p.tables e below (T2.setTop (mkF m 18 #[.val (.int p1), .val (.int (4 : Int32)), .val (.ref w_INDETERMINATE_D), .val (.ref w_INDETERMINATE_D)] [])) _
    refine XS.aloadN X2.here hx rfl (hb hby at_18) rfl rfl ?_
    show Steps p.tables e below (T2.setTop (mkF m 19 #[.val (.int p1), .val (.int (4 : Int32)), .val (.ref w_INDETERMINATE_D), .val (.ref w_INDETERMINATE_D)] [(.ref w_INDETERMINATE_D)])) _
    refine XS.iloadN X2.here hx rfl (hb hby at_19) rfl ?_
    show Steps p.tables e below (T2.setTop (mkF m 20 #[.val (.int p1), .val (.int (4 : Int32)), .val (.ref w_INDETERMINATE_D), .val (.ref w_INDETERMINATE_D)] [(.int (4 : Int32)), (.ref w_INDETERMINATE_D)])) _
    refine st3 _ ?_
    show Steps p.tables e below (T3.setTop (mkF m 23 #[.val (.int p1), .val (.int (4 : Int32)), .val (.ref w_INDETERMINATE_D), .val (.ref w_INDETERMINATE_D)] [(.ref w_INDETERMINATE_D), (.ref w_INDETERMINATE_D)])) _
    refine Jvm.RoadKit.acmp (g := (mkF m 23 #[.val (.int p1), .val (.int (4 : Int32)), .val (.ref w_INDETERMINATE_D), .val (.ref w_INDETERMINATE_D)] [(.ref w_INDETERMINATE_D), (.ref w_INDETERMINATE_D)])) X3 hx rfl rfl rfl (pc0 := 23) (pc' := 28) (same := true) rfl (hb hby at_23) rfl (decide_eq_true rfl) (by decide) (by decide) ?_
    show Steps p.tables e below (T3.setTop (mkF m 28 #[.val (.int p1), .val (.int (4 : Int32)), .val (.ref w_INDETERMINATE_D), .val (.ref w_INDETERMINATE_D)] [])) _
    refine XS.aloadN X3.here hx rfl (hb hby at_28) rfl rfl ?_
    show Steps p.tables e below (T3.setTop (mkF m 29 #[.val (.int p1), .val (.int (4 : Int32)), .val (.ref w_INDETERMINATE_D), .val (.ref w_INDETERMINATE_D)] [(.ref w_INDETERMINATE_D)])) _
    refine st4 _ ?_
    show Steps p.tables e below (T4.setTop (mkF m 32 #[.val (.int p1), .val (.int (4 : Int32)), .val (.ref w_INDETERMINATE_D), .val (.ref w_INDETERMINATE_D)] [(.ref w_PERMIT), (.ref w_INDETERMINATE_D)])) _
    refine Jvm.RoadKit.acmp (g := (mkF m 32 #[.val (.int p1), .val (.int (4 : Int32)), .val (.ref w_INDETERMINATE_D), .val (.ref w_INDETERMINATE_D)] [(.ref w_PERMIT), (.ref w_INDETERMINATE_D)])) X4 hx rfl rfl rfl (pc0 := 32) (pc' := 35) (same := false) rfl (hb hby at_32) rfl (decide_eq_false fun q => ne_w_PERMIT_w_INDETERMINATE_D (Value.ref.inj q).symm) (by decide) (by decide) ?_
    show Steps p.tables e below (T4.setTop (mkF m 35 #[.val (.int p1), .val (.int (4 : Int32)), .val (.ref w_INDETERMINATE_D), .val (.ref w_INDETERMINATE_D)] [])) _
    refine XS.aloadN X4.here hx rfl (hb hby at_35) rfl rfl ?_
    show Steps p.tables e below (T4.setTop (mkF m 36 #[.val (.int p1), .val (.int (4 : Int32)), .val (.ref w_INDETERMINATE_D), .val (.ref w_INDETERMINATE_D)] [(.ref w_INDETERMINATE_D)])) _
    refine st5 _ ?_
    show Steps p.tables e below (T5.setTop (mkF m 39 #[.val (.int p1), .val (.int (4 : Int32)), .val (.ref w_INDETERMINATE_D), .val (.ref w_INDETERMINATE_D)] [(.ref w_DENY), (.ref w_INDETERMINATE_D)])) _
    refine Jvm.RoadKit.acmp (g := (mkF m 39 #[.val (.int p1), .val (.int (4 : Int32)), .val (.ref w_INDETERMINATE_D), .val (.ref w_INDETERMINATE_D)] [(.ref w_DENY), (.ref w_INDETERMINATE_D)])) X5 hx rfl rfl rfl (pc0 := 39) (pc' := 44) (same := false) rfl (hb hby at_39) rfl (decide_eq_false fun q => ne_w_DENY_w_INDETERMINATE_D (Value.ref.inj q).symm) (by decide) (by decide) ?_
    show Steps p.tables e below (T5.setTop (mkF m 44 #[.val (.int p1), .val (.int (4 : Int32)), .val (.ref w_INDETERMINATE_D), .val (.ref w_INDETERMINATE_D)] [])) _
    refine XS.aloadN X5.here hx rfl (hb hby at_44) rfl rfl ?_
    show Steps p.tables e below (T5.setTop (mkF m 45 #[.val (.int p1), .val (.int (4 : Int32)), .val (.ref w_INDETERMINATE_D), .val (.ref w_INDETERMINATE_D)] [(.ref w_INDETERMINATE_D)])) _
    refine st6.trans ?_
    show Steps p.tables e below (T6.setTop (mkF m 48 #[.val (.int p1), .val (.int (4 : Int32)), .val (.ref w_INDETERMINATE_D), .val (.ref w_INDETERMINATE_D)] [(.ref w_INDETERMINATE_D)])) _
    refine XS.aloadN X6.here hx rfl (hb hby at_48) rfl rfl ?_
    show Steps p.tables e below (T6.setTop (mkF m 49 #[.val (.int p1), .val (.int (4 : Int32)), .val (.ref w_INDETERMINATE_D), .val (.ref w_INDETERMINATE_D)] [(.ref w_INDETERMINATE_D), (.ref w_INDETERMINATE_D)])) _
    refine Jvm.RoadKit.acmp (g := (mkF m 49 #[.val (.int p1), .val (.int (4 : Int32)), .val (.ref w_INDETERMINATE_D), .val (.ref w_INDETERMINATE_D)] [(.ref w_INDETERMINATE_D), (.ref w_INDETERMINATE_D)])) X6 hx rfl rfl rfl (pc0 := 49) (pc' := 52) (same := true) rfl (hb hby at_49) rfl (decide_eq_true rfl) (by decide) (by decide) ?_
    show Steps p.tables e below (T6.setTop (mkF m 52 #[.val (.int p1), .val (.int (4 : Int32)), .val (.ref w_INDETERMINATE_D), .val (.ref w_INDETERMINATE_D)] [])) _
    refine XS.iconst X6.here hx rfl (hb hby at_52) ?_
    show Steps p.tables e below (T6.setTop (mkF m 53 #[.val (.int p1), .val (.int (4 : Int32)), .val (.ref w_INDETERMINATE_D), .val (.ref w_INDETERMINATE_D)] [(.int (1 : Int32))])) _
    refine XS.goto X6.here hx rfl (pc0 := 53) (pc' := 57) rfl (hb hby at_53) (by decide) (by decide) ?_
    show Steps p.tables e below (T6.setTop (mkF m 57 #[.val (.int p1), .val (.int (4 : Int32)), .val (.ref w_INDETERMINATE_D), .val (.ref w_INDETERMINATE_D)] [(.int (1 : Int32))])) _
    exact retN X6 hx (t := .boolean) Bd.returns (by simp) (hb hby at_57) hr
  · exact ⟨rfl, N6⟩
theorem d1_44 : decode method_2_code 44 = .ok (.getstatic 25, 3) := by decide +kernel
theorem d1_47 : decode method_2_code 47 = .ok (.areturn, 1) := by decide +kernel
def Q1_20 (Z : State) (w_PERMIT : Addr) (w_INDETERMINATE_P : Addr) (w_DENY : Addr) (w_NOT_APPLICABLE : Addr) (w_INDETERMINATE_D : Addr) (w_INDETERMINATE_DP : Addr) (h0 : Heap) (n0 : Nat) (v : Option Value) (h : Heap) (L : List Loc) : Prop := v = some (.ref w_INDETERMINATE_DP) ∧ Fr n0 L ∧ h = h0
set_option maxRecDepth 65536 in
set_option maxHeartbeats 40000000 in
theorem rm1_20 (l : Launch) (Z : State) (a0 : Array Value) (hw : ∀ d ∈ tables_1, d.before a0 Z = true) (ws : List Jvm.Cond) (w_PERMIT : Addr) (w_INDETERMINATE_P : Addr) (w_DENY : Addr) (w_NOT_APPLICABLE : Addr) (w_INDETERMINATE_D : Addr) (w_INDETERMINATE_DP : Addr) (h0 : Heap) (n0 : Nat) (Z0 : n0 ≤ h0.size) (HW : World Z h0 w_PERMIT w_INDETERMINATE_P w_DENY w_NOT_APPLICABLE w_INDETERMINATE_D w_INDETERMINATE_DP) :
    MetFree l (⟨"com/example/minos/minos/xacml/DecisionUnderIndeterminateTargetPinLaw", "pick", "(I)Lcom/example/minos/minos/xacml/Decision;"⟩ : MethodName) (head1 (Jvm.Cond.code (⟨"com/example/minos/minos/xacml/DecisionUnderIndeterminateTargetPinLaw", "pick", "(I)Lcom/example/minos/minos/xacml/Decision;"⟩ : MethodName) method_2_code 1 (some (.object "com/example/minos/minos/xacml/Decision")) :: ws) ({ frames := 0, cells := 0, slots := 0, locals := 0 } : Room)) (fun a U => a = #[(.int (5 : Int32))] ∧ Z.Warmed39 U.vm ∧ U.heap = h0) (fun _ _ _ _ _ => True) (fun _ U o U' => ∃ v L, o = .returned v ∧ Q1_20 Z w_PERMIT w_INDETERMINATE_P w_DENY w_NOT_APPLICABLE w_INDETERMINATE_D w_INDETERMINATE_DP h0 n0 v U'.heap L ∧ FrameEnd U o U' L ({ frames := 0, cells := 0, slots := 0, locals := 0 } : Room).cells ({ frames := 0, cells := 0, slots := 0, locals := 0 } : Room).slots) := by
  refine MetFree.of_bodySF (plainFor_of_name pn6) hisR ?_
  intro p e s m args below meth c s₁ Bd hml0 hP hK
  obtain ⟨rfl, hZ, hh⟩ := hP
  have hx := Bd.exec
  have hby := Bd.bytes
  have hml : c.maxLocals = 1 := hml0
  have hown : s.vm.findClass "com/example/minos/minos/xacml/DecisionUnderIndeterminateTargetPinLaw" = some m.cls := findClass_of_methodNamed Bd.named
  have X0 : Stand p l e ({ frames := 0, cells := 0, slots := 0, locals := 0 } : Room) s m #[(.int (5 : Int32))] below meth c s₁ [] 0 0 := Stand.of_body Bd
  have e0 : s₁.heap = h0 := by rw [← hh, Bd.state]; rfl
  have N0 := Fr.nil n0
  have pre0 : ∀ t, Steps p.tables e below (s₁.setTop (mkF m 0 #[.val (.int (5 : Int32))] [])) t → Steps p.tables e below (s₁.setTop (entryFrame m #[(.int (5 : Int32))] 1)) t := fun t k => castTop (ef5 m (5 : Int32)) k
  obtain ⟨S_w_PERMIT, E_w_PERMIT, S_w_INDETERMINATE_P, E_w_INDETERMINATE_P, S_w_DENY, E_w_DENY, S_w_NOT_APPLICABLE, E_w_NOT_APPLICABLE, S_w_INDETERMINATE_D, E_w_INDETERMINATE_D, S_w_INDETERMINATE_DP, E_w_INDETERMINATE_DP, F_ordinal_w_INDETERMINATE_P, F_ordinal_w_PERMIT, F_ordinal_w_DENY, F_ordinal_w_NOT_APPLICABLE, F_ordinal_w_INDETERMINATE_D, F_ordinal_w_INDETERMINATE_DP, ne_w_PERMIT_w_INDETERMINATE_P, ne_w_PERMIT_w_DENY, ne_w_PERMIT_w_NOT_APPLICABLE, ne_w_PERMIT_w_INDETERMINATE_D, ne_w_PERMIT_w_INDETERMINATE_DP, ne_w_INDETERMINATE_P_w_DENY, ne_w_INDETERMINATE_P_w_NOT_APPLICABLE, ne_w_INDETERMINATE_P_w_INDETERMINATE_D, ne_w_INDETERMINATE_P_w_INDETERMINATE_DP, ne_w_DENY_w_NOT_APPLICABLE, ne_w_DENY_w_INDETERMINATE_D, ne_w_DENY_w_INDETERMINATE_DP, ne_w_NOT_APPLICABLE_w_INDETERMINATE_D, ne_w_NOT_APPLICABLE_w_INDETERMINATE_DP, ne_w_INDETERMINATE_D_w_INDETERMINATE_DP, -⟩ := id HW
  obtain ⟨T1, X1, e1, st1⟩ := getS2 X0 hx hZ hown (host := "") (Or.inl (hw _ (List.mem_of_getElem? (i := 28) rfl))) Via.refl e0 S_w_INDETERMINATE_DP (g := (mkF m 44 #[.val (.int (5 : Int32))] [])) rfl (hb hby d1_44)
  obtain ⟨fs, hr, hrun, hended, hW, hsame⟩ := X1.leave (v := some (.ref w_INDETERMINATE_DP)) (fun h => by rw [Bd.returns] at h; cases h)
  refine ⟨_, _, pre0 _ ?_, hrun, hended, _, _, rfl, ?_, ⟨_, rfl⟩, hW, hsame.mono (by decide) (by decide)⟩
  · show Steps p.tables e below (s₁.setTop (mkF m 0 #[.val (.int (5 : Int32))] [])) _
    refine XS.iloadN X0.here hx rfl (hb hby d1_0) rfl ?_
    show Steps p.tables e below (s₁.setTop (mkF m 1 #[.val (.int (5 : Int32))] [(.int (5 : Int32))])) _
    refine XS.ifYes X0.here hx rfl (pc0 := 1) (pc' := 8) rfl (hb hby d1_1) rfl ((if0 _ _).trans (feq (by decide : ¬ ((5 : Int32) = (0 : Int32)))).2) (by decide) (by decide) ?_
    show Steps p.tables e below (s₁.setTop (mkF m 8 #[.val (.int (5 : Int32))] [])) _
    refine XS.iloadN X0.here hx rfl (hb hby d1_8) rfl ?_
    show Steps p.tables e below (s₁.setTop (mkF m 9 #[.val (.int (5 : Int32))] [(.int (5 : Int32))])) _
    refine XS.iconst X0.here hx rfl (hb hby d1_9) ?_
    show Steps p.tables e below (s₁.setTop (mkF m 10 #[.val (.int (5 : Int32))] [(.int (1 : Int32)), (.int (5 : Int32))])) _
    refine XS.icmpYes X0.here hx rfl (pc0 := 10) (pc' := 17) rfl (hb hby d1_10) rfl (feq (by decide : ¬ ((5 : Int32) = (1 : Int32)))).2 (by decide) (by decide) ?_
    show Steps p.tables e below (s₁.setTop (mkF m 17 #[.val (.int (5 : Int32))] [])) _
    refine XS.iloadN X0.here hx rfl (hb hby d1_17) rfl ?_
    show Steps p.tables e below (s₁.setTop (mkF m 18 #[.val (.int (5 : Int32))] [(.int (5 : Int32))])) _
    refine XS.iconst X0.here hx rfl (hb hby d1_18) ?_
    show Steps p.tables e below (s₁.setTop (mkF m 19 #[.val (.int (5 : Int32))] [(.int (2 : Int32)), (.int (5 : Int32))])) _
    refine XS.icmpYes X0.here hx rfl (pc0 := 19) (pc' := 26) rfl (hb hby d1_19) rfl (feq (by decide : ¬ ((5 : Int32) = (2 : Int32)))).2 (by decide) (by decide) ?_
    show Steps p.tables e below (s₁.setTop (mkF m 26 #[.val (.int (5 : Int32))] [])) _
    refine XS.iloadN X0.here hx rfl (hb hby d1_26) rfl ?_
    show Steps p.tables e below (s₁.setTop (mkF m 27 #[.val (.int (5 : Int32))] [(.int (5 : Int32))])) _
    refine XS.iconst X0.here hx rfl (hb hby d1_27) ?_
    show Steps p.tables e below (s₁.setTop (mkF m 28 #[.val (.int (5 : Int32))] [(.int (3 : Int32)), (.int (5 : Int32))])) _
    refine XS.icmpYes X0.here hx rfl (pc0 := 28) (pc' := 35) rfl (hb hby d1_28) rfl (feq (by decide : ¬ ((5 : Int32) = (3 : Int32)))).2 (by decide) (by decide) ?_
    show Steps p.tables e below (s₁.setTop (mkF m 35 #[.val (.int (5 : Int32))] [])) _
    refine XS.iloadN X0.here hx rfl (hb hby d1_35) rfl ?_
    show Steps p.tables e below (s₁.setTop (mkF m 36 #[.val (.int (5 : Int32))] [(.int (5 : Int32))])) _
    refine XS.iconst X0.here hx rfl (hb hby d1_36) ?_
    show Steps p.tables e below (s₁.setTop (mkF m 37 #[.val (.int (5 : Int32))] [(.int (4 : Int32)), (.int (5 : Int32))])) _
    refine XS.icmpYes X0.here hx rfl (pc0 := 37) (pc' := 44) rfl (hb hby d1_37) rfl (feq (by decide : ¬ ((5 : Int32) = (4 : Int32)))).2 (by decide) (by decide) ?_
    show Steps p.tables e below (s₁.setTop (mkF m 44 #[.val (.int (5 : Int32))] [])) _
    refine st1 _ ?_
    show Steps p.tables e below (T1.setTop (mkF m 47 #[.val (.int (5 : Int32))] [(.ref w_INDETERMINATE_DP)])) _
    jvm_step X1.here [X1.here.top, hx, (hb hby d1_47), X1.method', Bd.returns, Value.isRef, FieldType.isReference]
    first | (intro acts; rw [hr _ acts rfl rfl rfl]) | rw [hr _ _ rfl rfl rfl]
    exact Steps.refl _
  · exact ⟨rfl, N0, e1⟩
def Q2_21 (Z : State) (w_PERMIT : Addr) (w_INDETERMINATE_P : Addr) (w_DENY : Addr) (w_NOT_APPLICABLE : Addr) (w_INDETERMINATE_D : Addr) (w_INDETERMINATE_DP : Addr) (h0 : Heap) (n0 : Nat) (v : Option Value) (h : Heap) (L : List Loc) : Prop := v = some (.ref w_INDETERMINATE_DP) ∧ Fr n0 L ∧ h = h0
set_option maxRecDepth 65536 in
set_option maxHeartbeats 40000000 in
theorem rm2_21 (l : Launch) (Z : State) (a0 : Array Value) (hw : ∀ d ∈ tables_1, d.before a0 Z = true) (ws : List Jvm.Cond) (w_PERMIT : Addr) (w_INDETERMINATE_P : Addr) (w_DENY : Addr) (w_NOT_APPLICABLE : Addr) (w_INDETERMINATE_D : Addr) (w_INDETERMINATE_DP : Addr) (h0 : Heap) (n0 : Nat) (Z0 : n0 ≤ h0.size) (HW : World Z h0 w_PERMIT w_INDETERMINATE_P w_DENY w_NOT_APPLICABLE w_INDETERMINATE_D w_INDETERMINATE_DP) :
    MetFree l (⟨"com/example/minos/minos/xacml/Decision", "underIndeterminateTarget", "()Lcom/example/minos/minos/xacml/Decision;"⟩ : MethodName) (head1 (Jvm.Cond.code (⟨"com/example/minos/minos/xacml/Decision", "underIndeterminateTarget", "()Lcom/example/minos/minos/xacml/Decision;"⟩ : MethodName) prog_55_method_5_code 2 (some (.object "com/example/minos/minos/xacml/Decision")) :: ws) ({ frames := 0, cells := 0, slots := 0, locals := 0 } : Room)) (fun a U => a = #[(.ref w_INDETERMINATE_DP)] ∧ Z.Warmed39 U.vm ∧ U.heap = h0) (fun _ _ _ _ _ => True) (fun _ U o U' => ∃ v L, o = .returned v ∧ Q2_21 Z w_PERMIT w_INDETERMINATE_P w_DENY w_NOT_APPLICABLE w_INDETERMINATE_D w_INDETERMINATE_DP h0 n0 v U'.heap L ∧ FrameEnd U o U' L ({ frames := 0, cells := 0, slots := 0, locals := 0 } : Room).cells ({ frames := 0, cells := 0, slots := 0, locals := 0 } : Room).slots) := by
  refine MetFree.of_bodySF (plainFor_of_name pn18) hisR ?_
  intro p e s m args below meth c s₁ Bd hml0 hP hK
  obtain ⟨rfl, hZ, hh⟩ := hP
  have hx := Bd.exec
  have hby := Bd.bytes
  have hml : c.maxLocals = 2 := hml0
  have hown : s.vm.findClass "com/example/minos/minos/xacml/Decision" = some m.cls := findClass_of_methodNamed Bd.named
  have X0 : Stand p l e ({ frames := 0, cells := 0, slots := 0, locals := 0 } : Room) s m #[(.ref w_INDETERMINATE_DP)] below meth c s₁ [] 0 0 := Stand.of_body Bd
  have e0 : s₁.heap = h0 := by rw [← hh, Bd.state]; rfl
  have N0 := Fr.nil n0
  have pre0 : ∀ t, Steps p.tables e below (s₁.setTop (mkF m 0 #[.val (.ref w_INDETERMINATE_DP), .unset] [])) t → Steps p.tables e below (s₁.setTop (entryFrame m #[(.ref w_INDETERMINATE_DP)] 2)) t := fun t k => castTop (ef17 m w_INDETERMINATE_DP) k
  obtain ⟨S_w_PERMIT, E_w_PERMIT, S_w_INDETERMINATE_P, E_w_INDETERMINATE_P, S_w_DENY, E_w_DENY, S_w_NOT_APPLICABLE, E_w_NOT_APPLICABLE, S_w_INDETERMINATE_D, E_w_INDETERMINATE_D, S_w_INDETERMINATE_DP, E_w_INDETERMINATE_DP, F_ordinal_w_INDETERMINATE_P, F_ordinal_w_PERMIT, F_ordinal_w_DENY, F_ordinal_w_NOT_APPLICABLE, F_ordinal_w_INDETERMINATE_D, F_ordinal_w_INDETERMINATE_DP, ne_w_PERMIT_w_INDETERMINATE_P, ne_w_PERMIT_w_DENY, ne_w_PERMIT_w_NOT_APPLICABLE, ne_w_PERMIT_w_INDETERMINATE_D, ne_w_PERMIT_w_INDETERMINATE_DP, ne_w_INDETERMINATE_P_w_DENY, ne_w_INDETERMINATE_P_w_NOT_APPLICABLE, ne_w_INDETERMINATE_P_w_INDETERMINATE_D, ne_w_INDETERMINATE_P_w_INDETERMINATE_DP, ne_w_DENY_w_NOT_APPLICABLE, ne_w_DENY_w_INDETERMINATE_D, ne_w_DENY_w_INDETERMINATE_DP, ne_w_NOT_APPLICABLE_w_INDETERMINATE_D, ne_w_NOT_APPLICABLE_w_INDETERMINATE_DP, ne_w_INDETERMINATE_D_w_INDETERMINATE_DP, -⟩ := id HW
  obtain ⟨T1, X1, e1, st1⟩ := getS2 X0 hx hZ hown (host := "") (Or.inl (hw _ (List.mem_of_getElem? (i := 13) rfl))) Via.refl e0 S_w_PERMIT (g := (mkF m 1 #[.val (.ref w_INDETERMINATE_DP), .unset] [(.ref w_INDETERMINATE_DP)])) rfl (hb hby d2_1)
  obtain ⟨T2, X2, e2, st2⟩ := getS2 X1 hx hZ hown (host := "") (Or.inl (hw _ (List.mem_of_getElem? (i := 22) rfl))) Via.refl e1 S_w_DENY (g := (mkF m 15 #[.val (.ref w_INDETERMINATE_DP), .unset] [(.ref w_INDETERMINATE_DP)])) rfl (hb hby d2_15)
  obtain ⟨fs, hr, hrun, hended, hW, hsame⟩ := X2.leave (v := some (.ref w_INDETERMINATE_DP)) (fun h => by rw [Bd.returns] at h; cases h)
  refine ⟨_, _, pre0 _ ?_, hrun, hended, _, _, rfl, ?_, ⟨_, rfl⟩, hW, hsame.mono (by decide) (by decide)⟩
  · show Steps p.tables e below (s₁.setTop (mkF m 0 #[.val (.ref w_INDETERMINATE_DP), .unset] [])) _
    refine XS.aloadN X0.here hx rfl (hb hby d2_0) rfl rfl ?_
    show Steps p.tables e below (s₁.setTop (mkF m 1 #[.val (.ref w_INDETERMINATE_DP), .unset] [(.ref w_INDETERMINATE_DP)])) _
    refine st1 _ ?_
    show Steps p.tables e below (T1.setTop (mkF m 4 #[.val (.ref w_INDETERMINATE_DP), .unset] [(.ref w_PERMIT), (.ref w_INDETERMINATE_DP)])) _
    refine Jvm.RoadKit.acmp (g := (mkF m 4 #[.val (.ref w_INDETERMINATE_DP), .unset] [(.ref w_PERMIT), (.ref w_INDETERMINATE_DP)])) X1 hx rfl rfl rfl (pc0 := 4) (pc' := 14) (same := false) rfl (hb hby d2_4) rfl (decide_eq_false fun q => ne_w_PERMIT_w_INDETERMINATE_DP (Value.ref.inj q).symm) (by decide) (by decide) ?_
    show Steps p.tables e below (T1.setTop (mkF m 14 #[.val (.ref w_INDETERMINATE_DP), .unset] [])) _
    refine XS.aloadN X1.here hx rfl (hb hby d2_14) rfl rfl ?_
    show Steps p.tables e below (T1.setTop (mkF m 15 #[.val (.ref w_INDETERMINATE_DP), .unset] [(.ref w_INDETERMINATE_DP)])) _
    refine st2 _ ?_
    show Steps p.tables e below (T2.setTop (mkF m 18 #[.val (.ref w_INDETERMINATE_DP), .unset] [(.ref w_DENY), (.ref w_INDETERMINATE_DP)])) _
    refine Jvm.RoadKit.acmp (g := (mkF m 18 #[.val (.ref w_INDETERMINATE_DP), .unset] [(.ref w_DENY), (.ref w_INDETERMINATE_DP)])) X2 hx rfl rfl rfl (pc0 := 18) (pc' := 28) (same := false) rfl (hb hby d2_18) rfl (decide_eq_false fun q => ne_w_DENY_w_INDETERMINATE_DP (Value.ref.inj q).symm) (by decide) (by decide) ?_
    show Steps p.tables e below (T2.setTop (mkF m 28 #[.val (.ref w_INDETERMINATE_DP), .unset] [])) _
    refine XS.aloadN X2.here hx rfl (hb hby d2_28) rfl rfl ?_
    show Steps p.tables e below (T2.setTop (mkF m 29 #[.val (.ref w_INDETERMINATE_DP), .unset] [(.ref w_INDETERMINATE_DP)])) _
    refine XS.astoreN X2.here hx rfl (hb hby d2_29) rfl rfl (l' := #[.val (.ref w_INDETERMINATE_DP), .val (.ref w_INDETERMINATE_DP)]) rfl ?_
    show Steps p.tables e below (T2.setTop (mkF m 30 #[.val (.ref w_INDETERMINATE_DP), .val (.ref w_INDETERMINATE_DP)] [])) _
    refine XS.aloadN X2.here hx rfl (hb hby d2_30) rfl rfl ?_
    show Steps p.tables e below (T2.setTop (mkF m 31 #[.val (.ref w_INDETERMINATE_DP), .val (.ref w_INDETERMINATE_DP)] [(.ref w_INDETERMINATE_DP)])) _
    jvm_step X2.here [X2.here.top, hx, (hb hby d2_31), X2.method', Bd.returns, Value.isRef, FieldType.isReference]
    first | (intro acts; rw [hr _ acts rfl rfl rfl]) | rw [hr _ _ rfl rfl rfl]
    exact Steps.refl _
  · exact ⟨rfl, N0, e2⟩
theorem d3_44 : decode method_3_code 44 = .ok (.getstatic 25, 3) := by decide +kernel
theorem d3_47 : decode method_3_code 47 = .ok (.areturn, 1) := by decide +kernel
def Q3_22 (Z : State) (w_PERMIT : Addr) (w_INDETERMINATE_P : Addr) (w_DENY : Addr) (w_NOT_APPLICABLE : Addr) (w_INDETERMINATE_D : Addr) (w_INDETERMINATE_DP : Addr) (h0 : Heap) (n0 : Nat) (v : Option Value) (h : Heap) (L : List Loc) : Prop := v = some (.ref w_INDETERMINATE_DP) ∧ Fr n0 L ∧ h = h0
set_option maxRecDepth 65536 in
set_option maxHeartbeats 40000000 in
theorem rm3_22 (l : Launch) (Z : State) (a0 : Array Value) (hw : ∀ d ∈ tables_1, d.before a0 Z = true) (ws : List Jvm.Cond) (w_PERMIT : Addr) (w_INDETERMINATE_P : Addr) (w_DENY : Addr) (w_NOT_APPLICABLE : Addr) (w_INDETERMINATE_D : Addr) (w_INDETERMINATE_DP : Addr) (h0 : Heap) (n0 : Nat) (Z0 : n0 ≤ h0.size) (HW : World Z h0 w_PERMIT w_INDETERMINATE_P w_DENY w_NOT_APPLICABLE w_INDETERMINATE_D w_INDETERMINATE_DP) :
    MetFree l (⟨"com/example/minos/minos/xacml/DecisionUnderIndeterminateTargetPinLaw", "expected", "(I)Lcom/example/minos/minos/xacml/Decision;"⟩ : MethodName) (head1 (Jvm.Cond.code (⟨"com/example/minos/minos/xacml/DecisionUnderIndeterminateTargetPinLaw", "expected", "(I)Lcom/example/minos/minos/xacml/Decision;"⟩ : MethodName) method_3_code 1 (some (.object "com/example/minos/minos/xacml/Decision")) :: ws) ({ frames := 0, cells := 0, slots := 0, locals := 0 } : Room)) (fun a U => a = #[(.int (5 : Int32))] ∧ Z.Warmed39 U.vm ∧ U.heap = h0) (fun _ _ _ _ _ => True) (fun _ U o U' => ∃ v L, o = .returned v ∧ Q3_22 Z w_PERMIT w_INDETERMINATE_P w_DENY w_NOT_APPLICABLE w_INDETERMINATE_D w_INDETERMINATE_DP h0 n0 v U'.heap L ∧ FrameEnd U o U' L ({ frames := 0, cells := 0, slots := 0, locals := 0 } : Room).cells ({ frames := 0, cells := 0, slots := 0, locals := 0 } : Room).slots) := by
  refine MetFree.of_bodySF (plainFor_of_name pn6) hisR ?_
  intro p e s m args below meth c s₁ Bd hml0 hP hK
  obtain ⟨rfl, hZ, hh⟩ := hP
  have hx := Bd.exec
  have hby := Bd.bytes
  have hml : c.maxLocals = 1 := hml0
  have hown : s.vm.findClass "com/example/minos/minos/xacml/DecisionUnderIndeterminateTargetPinLaw" = some m.cls := findClass_of_methodNamed Bd.named
  have X0 : Stand p l e ({ frames := 0, cells := 0, slots := 0, locals := 0 } : Room) s m #[(.int (5 : Int32))] below meth c s₁ [] 0 0 := Stand.of_body Bd
  have e0 : s₁.heap = h0 := by rw [← hh, Bd.state]; rfl
  have N0 := Fr.nil n0
  have pre0 : ∀ t, Steps p.tables e below (s₁.setTop (mkF m 0 #[.val (.int (5 : Int32))] [])) t → Steps p.tables e below (s₁.setTop (entryFrame m #[(.int (5 : Int32))] 1)) t := fun t k => castTop (ef25 m (5 : Int32)) k
  obtain ⟨S_w_PERMIT, E_w_PERMIT, S_w_INDETERMINATE_P, E_w_INDETERMINATE_P, S_w_DENY, E_w_DENY, S_w_NOT_APPLICABLE, E_w_NOT_APPLICABLE, S_w_INDETERMINATE_D, E_w_INDETERMINATE_D, S_w_INDETERMINATE_DP, E_w_INDETERMINATE_DP, F_ordinal_w_INDETERMINATE_P, F_ordinal_w_PERMIT, F_ordinal_w_DENY, F_ordinal_w_NOT_APPLICABLE, F_ordinal_w_INDETERMINATE_D, F_ordinal_w_INDETERMINATE_DP, ne_w_PERMIT_w_INDETERMINATE_P, ne_w_PERMIT_w_DENY, ne_w_PERMIT_w_NOT_APPLICABLE, ne_w_PERMIT_w_INDETERMINATE_D, ne_w_PERMIT_w_INDETERMINATE_DP, ne_w_INDETERMINATE_P_w_DENY, ne_w_INDETERMINATE_P_w_NOT_APPLICABLE, ne_w_INDETERMINATE_P_w_INDETERMINATE_D, ne_w_INDETERMINATE_P_w_INDETERMINATE_DP, ne_w_DENY_w_NOT_APPLICABLE, ne_w_DENY_w_INDETERMINATE_D, ne_w_DENY_w_INDETERMINATE_DP, ne_w_NOT_APPLICABLE_w_INDETERMINATE_D, ne_w_NOT_APPLICABLE_w_INDETERMINATE_DP, ne_w_INDETERMINATE_D_w_INDETERMINATE_DP, -⟩ := id HW
  obtain ⟨T1, X1, e1, st1⟩ := getS2 X0 hx hZ hown (host := "") (Or.inl (hw _ (List.mem_of_getElem? (i := 28) rfl))) Via.refl e0 S_w_INDETERMINATE_DP (g := (mkF m 44 #[.val (.int (5 : Int32))] [])) rfl (hb hby d3_44)
  obtain ⟨fs, hr, hrun, hended, hW, hsame⟩ := X1.leave (v := some (.ref w_INDETERMINATE_DP)) (fun h => by rw [Bd.returns] at h; cases h)
  refine ⟨_, _, pre0 _ ?_, hrun, hended, _, _, rfl, ?_, ⟨_, rfl⟩, hW, hsame.mono (by decide) (by decide)⟩
  · show Steps p.tables e below (s₁.setTop (mkF m 0 #[.val (.int (5 : Int32))] [])) _
    refine XS.iloadN X0.here hx rfl (hb hby d3_0) rfl ?_
    show Steps p.tables e below (s₁.setTop (mkF m 1 #[.val (.int (5 : Int32))] [(.int (5 : Int32))])) _
    refine XS.ifYes X0.here hx rfl (pc0 := 1) (pc' := 8) rfl (hb hby d3_1) rfl ((if0 _ _).trans (feq (by decide : ¬ ((5 : Int32) = (0 : Int32)))).2) (by decide) (by decide) ?_
    show Steps p.tables e below (s₁.setTop (mkF m 8 #[.val (.int (5 : Int32))] [])) _
    refine XS.iloadN X0.here hx rfl (hb hby d3_8) rfl ?_
    show Steps p.tables e below (s₁.setTop (mkF m 9 #[.val (.int (5 : Int32))] [(.int (5 : Int32))])) _
    refine XS.iconst X0.here hx rfl (hb hby d3_9) ?_
    show Steps p.tables e below (s₁.setTop (mkF m 10 #[.val (.int (5 : Int32))] [(.int (1 : Int32)), (.int (5 : Int32))])) _
    refine XS.icmpYes X0.here hx rfl (pc0 := 10) (pc' := 17) rfl (hb hby d3_10) rfl (feq (by decide : ¬ ((5 : Int32) = (1 : Int32)))).2 (by decide) (by decide) ?_
    show Steps p.tables e below (s₁.setTop (mkF m 17 #[.val (.int (5 : Int32))] [])) _
    refine XS.iloadN X0.here hx rfl (hb hby d3_17) rfl ?_
    show Steps p.tables e below (s₁.setTop (mkF m 18 #[.val (.int (5 : Int32))] [(.int (5 : Int32))])) _
    refine XS.iconst X0.here hx rfl (hb hby d3_18) ?_
    show Steps p.tables e below (s₁.setTop (mkF m 19 #[.val (.int (5 : Int32))] [(.int (2 : Int32)), (.int (5 : Int32))])) _
    refine XS.icmpYes X0.here hx rfl (pc0 := 19) (pc' := 26) rfl (hb hby d3_19) rfl (feq (by decide : ¬ ((5 : Int32) = (2 : Int32)))).2 (by decide) (by decide) ?_
    show Steps p.tables e below (s₁.setTop (mkF m 26 #[.val (.int (5 : Int32))] [])) _
    refine XS.iloadN X0.here hx rfl (hb hby d3_26) rfl ?_
    show Steps p.tables e below (s₁.setTop (mkF m 27 #[.val (.int (5 : Int32))] [(.int (5 : Int32))])) _
    refine XS.iconst X0.here hx rfl (hb hby d3_27) ?_
    show Steps p.tables e below (s₁.setTop (mkF m 28 #[.val (.int (5 : Int32))] [(.int (3 : Int32)), (.int (5 : Int32))])) _
    refine XS.icmpYes X0.here hx rfl (pc0 := 28) (pc' := 35) rfl (hb hby d3_28) rfl (feq (by decide : ¬ ((5 : Int32) = (3 : Int32)))).2 (by decide) (by decide) ?_
    show Steps p.tables e below (s₁.setTop (mkF m 35 #[.val (.int (5 : Int32))] [])) _
    refine XS.iloadN X0.here hx rfl (hb hby d3_35) rfl ?_
    show Steps p.tables e below (s₁.setTop (mkF m 36 #[.val (.int (5 : Int32))] [(.int (5 : Int32))])) _
    refine XS.iconst X0.here hx rfl (hb hby d3_36) ?_
    show Steps p.tables e below (s₁.setTop (mkF m 37 #[.val (.int (5 : Int32))] [(.int (4 : Int32)), (.int (5 : Int32))])) _
    refine XS.icmpYes X0.here hx rfl (pc0 := 37) (pc' := 44) rfl (hb hby d3_37) rfl (feq (by decide : ¬ ((5 : Int32) = (4 : Int32)))).2 (by decide) (by decide) ?_
    show Steps p.tables e below (s₁.setTop (mkF m 44 #[.val (.int (5 : Int32))] [])) _
    refine st1 _ ?_
    show Steps p.tables e below (T1.setTop (mkF m 47 #[.val (.int (5 : Int32))] [(.ref w_INDETERMINATE_DP)])) _
    jvm_step X1.here [X1.here.top, hx, (hb hby d3_47), X1.method', Bd.returns, Value.isRef, FieldType.isReference]
    first | (intro acts; rw [hr _ acts rfl rfl rfl]) | rw [hr _ _ rfl rfl rfl]
    exact Steps.refl _
  · exact ⟨rfl, N0, e1⟩
set_option maxRecDepth 65536 in
set_option maxHeartbeats 40000000 in
theorem rm0_c5 (l : Launch) (Z : State) (a0 : Array Value) (hw : ∀ d ∈ tables_1, d.before a0 Z = true) (ws : List Jvm.Cond) (w_PERMIT : Addr) (w_INDETERMINATE_P : Addr) (w_DENY : Addr) (w_NOT_APPLICABLE : Addr) (w_INDETERMINATE_D : Addr) (w_INDETERMINATE_DP : Addr) (p1 : Int32) (h0 : Heap) (n0 : Nat) (Z0 : n0 ≤ h0.size) (HW : World Z h0 w_PERMIT w_INDETERMINATE_P w_DENY w_NOT_APPLICABLE w_INDETERMINATE_D w_INDETERMINATE_DP) (hk : ((p1 &&& (2147483647 : Int32)) % (6 : Int32)) = (5 : Int32)) :
    MetFree l x (head1 (Jvm.Cond.code x code maxLocals ret :: ws) room_1) (fun a U => a = #[(.int p1)] ∧ Z.Warmed39 U.vm ∧ U.heap = h0) (fun _ _ _ _ _ => True) (fun _ U o U' => ∃ v L, o = .returned v ∧ Q0 h0 n0 v U'.heap L ∧ FrameEnd U o U' L room_1.cells room_1.slots) := by
  refine MetFree.of_bodySF (plainFor_of_name pn6) hisR ?_
  intro p e s m args below meth c s₁ Bd hml0 hP hK
  obtain ⟨rfl, hZ, hh⟩ := hP
  have hx := Bd.exec
  have hby := Bd.bytes
  have hml : c.maxLocals = 4 := hml0
  have hown : s.vm.findClass "com/example/minos/minos/xacml/DecisionUnderIndeterminateTargetPinLaw" = some m.cls := findClass_of_methodNamed Bd.named
  have X0 : Stand p l e room_1 s m #[(.int p1)] below meth c s₁ [] 0 0 := Stand.of_body Bd
  have e0 : s₁.heap = h0 := by rw [← hh, Bd.state]; rfl
  have N0 := Fr.nil n0
  have pre0 : ∀ t, Steps p.tables e below (s₁.setTop (mkF m 0 #[.val (.int p1), .unset, .unset, .unset] [])) t → Steps p.tables e below (s₁.setTop (entryFrame m #[(.int p1)] maxLocals)) t := fun t k => castTop (ef33 m p1) k
  obtain ⟨S_w_PERMIT, E_w_PERMIT, S_w_INDETERMINATE_P, E_w_INDETERMINATE_P, S_w_DENY, E_w_DENY, S_w_NOT_APPLICABLE, E_w_NOT_APPLICABLE, S_w_INDETERMINATE_D, E_w_INDETERMINATE_D, S_w_INDETERMINATE_DP, E_w_INDETERMINATE_DP, F_ordinal_w_INDETERMINATE_P, F_ordinal_w_PERMIT, F_ordinal_w_DENY, F_ordinal_w_NOT_APPLICABLE, F_ordinal_w_INDETERMINATE_D, F_ordinal_w_INDETERMINATE_DP, ne_w_PERMIT_w_INDETERMINATE_P, ne_w_PERMIT_w_DENY, ne_w_PERMIT_w_NOT_APPLICABLE, ne_w_PERMIT_w_INDETERMINATE_D, ne_w_PERMIT_w_INDETERMINATE_DP, ne_w_INDETERMINATE_P_w_DENY, ne_w_INDETERMINATE_P_w_NOT_APPLICABLE, ne_w_INDETERMINATE_P_w_INDETERMINATE_D, ne_w_INDETERMINATE_P_w_INDETERMINATE_DP, ne_w_DENY_w_NOT_APPLICABLE, ne_w_DENY_w_INDETERMINATE_D, ne_w_DENY_w_INDETERMINATE_DP, ne_w_NOT_APPLICABLE_w_INDETERMINATE_D, ne_w_NOT_APPLICABLE_w_INDETERMINATE_DP, ne_w_INDETERMINATE_D_w_INDETERMINATE_DP, -⟩ := id HW
  obtain ⟨_, _, ⟨T1, L1, k1, n1⟩, -, X1, ⟨Lc1, hQ1, l1, y1, z1⟩, st1⟩ := Jvm.LawKit.callS X0 hx (y := (⟨"com/example/minos/minos/xacml/DecisionUnderIndeterminateTargetPinLaw", "pick", "(I)Lcom/example/minos/minos/xacml/Decision;"⟩ : MethodName)) hown (mvT hZ (hw _ (List.mem_of_getElem? (i := 1) rfl))) (mvT hZ (hw _ (List.mem_of_getElem? (i := 2) rfl))) (mvT hZ (hw _ (List.mem_of_getElem? (i := 3) rfl))) (mvT hZ (hw _ (List.mem_of_getElem? (i := 4) rfl))) (by decide) (backOf (W := 0) (rm1_20 l Z a0 hw [] w_PERMIT w_INDETERMINATE_P w_DENY w_NOT_APPLICABLE w_INDETERMINATE_D w_INDETERMINATE_DP h0 n0 Z0 HW) hZ (hw _ (List.mem_of_getElem? (i := 4) rfl)) (hw _ (List.mem_of_getElem? (i := 3) rfl)) (by decide) (by decide)) (g := (mkF m 9 #[.val (.int p1), .val (.int (5 : Int32)), .unset, .unset] [(.int (5 : Int32))])) rfl (by rw [hml]; rfl) (argsL := [(.int (5 : Int32))]) (rest := []) (lenOf pd7 rfl) rfl (by show 2 * 0 + _ ≤ _; exact Nat.le_of_eq rfl) (hb hby at_9) (fun _ _ => ⟨rfl, e0, (by decide : 0 + 0 ≤ _), (by decide : 0 + 0 ≤ _)⟩)
  dsimp only [Pt.U, Pt.locs, Pt.cells, Pt.slots] at X1 l1 y1 z1 st1 hQ1
  subst l1 y1 z1
  obtain ⟨rfl, N1q, e1⟩ := hQ1
  have N1 := Fr.app N0 N1q
  obtain ⟨cq2, kq2, q2a, q2b, q2c⟩ := isOf hZ e1 E_w_INDETERMINATE_DP
  obtain ⟨_, _, ⟨T2, L2, k2, n2⟩, -, X2, ⟨Lc2, hQ2, l2, y2, z2⟩, st2⟩ := X1.virtualBack hx (y := (⟨"com/example/minos/minos/xacml/Decision", "underIndeterminateTarget", "()Lcom/example/minos/minos/xacml/Decision;"⟩ : MethodName)) (z := (⟨"com/example/minos/minos/xacml/Decision", "underIndeterminateTarget", "()Lcom/example/minos/minos/xacml/Decision;"⟩ : MethodName)) hown (mvT hZ (hw _ (List.mem_of_getElem? (i := 8) rfl))) (mvT hZ (hw _ (List.mem_of_getElem? (i := 9) rfl))) (notFace_of_selects (args := #[]) (mvT hZ (hw _ (List.mem_of_getElem? (i := 11) rfl)))) (mvT hZ (hw _ (List.mem_of_getElem? (i := 11) rfl))) (mvT hZ (hw _ (List.mem_of_getElem? (i := 10) rfl))) (by decide) (backOf (W := 0) (rm2_21 l Z a0 hw [] w_PERMIT w_INDETERMINATE_P w_DENY w_NOT_APPLICABLE w_INDETERMINATE_D w_INDETERMINATE_DP h0 n0 Z0 HW) hZ (hw _ (List.mem_of_getElem? (i := 12) rfl)) (hw _ (List.mem_of_getElem? (i := 6) rfl)) (by decide) (by decide)) q2a q2c (g := (mkF m 14 #[.val (.int p1), .val (.int (5 : Int32)), .val (.ref w_INDETERMINATE_DP), .unset] [(.ref w_INDETERMINATE_DP)])) rfl (by rw [hml]; rfl) (Steps.refl _) (argsL := []) (rest := []) (lenOf pd19 rfl) rfl (by show 2 * 0 + _ ≤ _; exact Nat.le_of_eq rfl) (hb hby at_14) (fun _ _ => ⟨rfl, e1, (by decide : 0 + 0 ≤ _), (by decide : 0 + 0 ≤ _)⟩)
  dsimp only [Pt.U, Pt.locs, Pt.cells, Pt.slots] at X2 l2 y2 z2 st2 hQ2
  subst l2 y2 z2
  obtain ⟨rfl, N2q, e2⟩ := hQ2
  have N2 := Fr.app N1 N2q
  obtain ⟨_, _, ⟨T3, L3, k3, n3⟩, -, X3, ⟨Lc3, hQ3, l3, y3, z3⟩, st3⟩ := Jvm.LawKit.callS X2 hx (y := (⟨"com/example/minos/minos/xacml/DecisionUnderIndeterminateTargetPinLaw", "expected", "(I)Lcom/example/minos/minos/xacml/Decision;"⟩ : MethodName)) hown (mvT hZ (hw _ (List.mem_of_getElem? (i := 16) rfl))) (mvT hZ (hw _ (List.mem_of_getElem? (i := 17) rfl))) (mvT hZ (hw _ (List.mem_of_getElem? (i := 3) rfl))) (mvT hZ (hw _ (List.mem_of_getElem? (i := 18) rfl))) (by decide) (backOf (W := 1) (rm3_22 l Z a0 hw [] w_PERMIT w_INDETERMINATE_P w_DENY w_NOT_APPLICABLE w_INDETERMINATE_D w_INDETERMINATE_DP h0 n0 Z0 HW) hZ (hw _ (List.mem_of_getElem? (i := 18) rfl)) (hw _ (List.mem_of_getElem? (i := 3) rfl)) (by decide) (by decide)) (g := (mkF m 20 #[.val (.int p1), .val (.int (5 : Int32)), .val (.ref w_INDETERMINATE_DP), .val (.ref w_INDETERMINATE_DP)] [(.int (5 : Int32)), (.ref w_INDETERMINATE_DP)])) rfl (by rw [hml]; rfl) (argsL := [(.int (5 : Int32))]) (rest := [(.ref w_INDETERMINATE_DP)]) (lenOf pd7 rfl) rfl (by show 2 * 0 + _ ≤ _; exact Nat.le_of_eq rfl) (hb hby at_20) (fun _ _ => ⟨rfl, e2, (by decide : 0 + 0 ≤ _), (by decide : 0 + 0 ≤ _)⟩)
  dsimp only [Pt.U, Pt.locs, Pt.cells, Pt.slots] at X3 l3 y3 z3 st3 hQ3
  subst l3 y3 z3
  obtain ⟨rfl, N3q, e3⟩ := hQ3
  have N3 := Fr.app N2 N3q
  obtain ⟨T4, X4, e4, st4⟩ := getS2 X3 hx hZ hown (host := "") (Or.inl (hw _ (List.mem_of_getElem? (i := 5) rfl))) Via.refl e3 S_w_PERMIT (g := (mkF m 29 #[.val (.int p1), .val (.int (5 : Int32)), .val (.ref w_INDETERMINATE_DP), .val (.ref w_INDETERMINATE_DP)] [(.ref w_INDETERMINATE_DP)])) rfl (hb hby at_29)
  obtain ⟨T5, X5, e5, st5⟩ := getS2 X4 hx hZ hown (host := "") (Or.inl (hw _ (List.mem_of_getElem? (i := 20) rfl))) Via.refl e4 S_w_DENY (g := (mkF m 36 #[.val (.int p1), .val (.int (5 : Int32)), .val (.ref w_INDETERMINATE_DP), .val (.ref w_INDETERMINATE_DP)] [(.ref w_INDETERMINATE_DP)])) rfl (hb hby at_36)
  obtain ⟨cq6, kq6, q6a, q6b, q6c⟩ := isOf hZ e5 E_w_INDETERMINATE_DP
  obtain ⟨_, _, ⟨T6, L6, k6, n6⟩, -, X6, ⟨Lc6, hQ6, l6, y6, z6⟩, st6⟩ := X5.virtualBack hx (y := (⟨"com/example/minos/minos/xacml/Decision", "underIndeterminateTarget", "()Lcom/example/minos/minos/xacml/Decision;"⟩ : MethodName)) (z := (⟨"com/example/minos/minos/xacml/Decision", "underIndeterminateTarget", "()Lcom/example/minos/minos/xacml/Decision;"⟩ : MethodName)) hown (mvT hZ (hw _ (List.mem_of_getElem? (i := 8) rfl))) (mvT hZ (hw _ (List.mem_of_getElem? (i := 9) rfl))) (notFace_of_selects (args := #[]) (mvT hZ (hw _ (List.mem_of_getElem? (i := 11) rfl)))) (mvT hZ (hw _ (List.mem_of_getElem? (i := 11) rfl))) (mvT hZ (hw _ (List.mem_of_getElem? (i := 10) rfl))) (by decide) (backOf (W := 0) (rm2_21 l Z a0 hw [] w_PERMIT w_INDETERMINATE_P w_DENY w_NOT_APPLICABLE w_INDETERMINATE_D w_INDETERMINATE_DP h0 n0 Z0 HW) hZ (hw _ (List.mem_of_getElem? (i := 12) rfl)) (hw _ (List.mem_of_getElem? (i := 6) rfl)) (by decide) (by decide)) q6a q6c (g := (mkF m 45 #[.val (.int p1), .val (.int (5 : Int32)), .val (.ref w_INDETERMINATE_DP), .val (.ref w_INDETERMINATE_DP)] [(.ref w_INDETERMINATE_DP)])) rfl (by rw [hml]; rfl) (Steps.refl _) (argsL := []) (rest := []) (lenOf pd19 rfl) rfl (by show 2 * 0 + _ ≤ _; exact Nat.le_of_eq rfl) (hb hby at_45) (fun _ _ => ⟨rfl, e5, (by decide : 0 + 0 ≤ _), (by decide : 0 + 0 ≤ _)⟩)
  dsimp only [Pt.U, Pt.locs, Pt.cells, Pt.slots] at X6 l6 y6 z6 st6 hQ6
  subst l6 y6 z6
  obtain ⟨rfl, N6q, e6⟩ := hQ6
  have N6 := Fr.app N3 N6q
  obtain ⟨fs, hr, hrun, hended, hW, hsame⟩ := X6.leave (v := some (.int (1 : Int32))) (fun h => by rw [Bd.returns] at h; cases h)
  refine ⟨_, _, pre0 _ ?_, hrun, hended, _, _, rfl, ?_, ⟨_, rfl⟩, hW, hsame.mono (by decide) (by decide)⟩
  · show Steps p.tables e below (s₁.setTop (mkF m 0 #[.val (.int p1), .unset, .unset, .unset] [])) _
    refine XS.iloadN X0.here hx rfl (hb hby at_0) rfl ?_
    show Steps p.tables e below (s₁.setTop (mkF m 1 #[.val (.int p1), .unset, .unset, .unset] [(.int p1)])) _
    refine X0.ldcInt hx hown (mvT hZ (hw _ (List.mem_of_getElem? (i := 0) rfl))) (g := (mkF m 1 #[.val (.int p1), .unset, .unset, .unset] [(.int p1)])) rfl (hb hby at_1) _ ?_
    show Steps p.tables e below (s₁.setTop (mkF m 3 #[.val (.int p1), .unset, .unset, .unset] [(.int (2147483647 : Int32)), (.int p1)])) _
    refine XS.iand X0.here hx rfl (hb hby at_3) rfl ?_
    show Steps p.tables e below (s₁.setTop (mkF m 4 #[.val (.int p1), .unset, .unset, .unset] [(.int (p1 &&& (2147483647 : Int32)))])) _
    refine XS.bipush X0.here hx rfl (hb hby at_4) ?_
    show Steps p.tables e below (s₁.setTop (mkF m 6 #[.val (.int p1), .unset, .unset, .unset] [(.int (6 : Int32)), (.int (p1 &&& (2147483647 : Int32)))])) _
    refine iremM X0 hx rfl (hb hby at_6) rfl (by decide) ?_
    rw [hk]
    show Steps p.tables e below (s₁.setTop (mkF m 7 #[.val (.int p1), .unset, .unset, .unset] [(.int (5 : Int32))])) _
    refine XS.istoreN X0.here hx rfl (hb hby at_7) rfl (l' := #[.val (.int p1), .val (.int (5 : Int32)), .unset, .unset]) rfl ?_
    show Steps p.tables e below (s₁.setTop (mkF m 8 #[.val (.int p1), .val (.int (5 : Int32)), .unset, .unset] [])) _
    refine XS.iloadN X0.here hx rfl (hb hby at_8) rfl ?_
    show Steps p.tables e below (s₁.setTop (mkF m 9 #[.val (.int p1), .val (.int (5 : Int32)), .unset, .unset] [(.int (5 : Int32))])) _
    refine st1 _ ?_
    show Steps p.tables e below (T1.setTop (mkF m 12 #[.val (.int p1), .val (.int (5 : Int32)), .unset, .unset] [(.ref w_INDETERMINATE_DP)])) _
    refine XS.astoreN X1.here hx rfl (hb hby at_12) rfl rfl (l' := #[.val (.int p1), .val (.int (5 : Int32)), .val (.ref w_INDETERMINATE_DP), .unset]) rfl ?_
    show Steps p.tables e below (T1.setTop (mkF m 13 #[.val (.int p1), .val (.int (5 : Int32)), .val (.ref w_INDETERMINATE_DP), .unset] [])) _
    refine XS.aloadN X1.here hx rfl (hb hby at_13) rfl rfl ?_
    show Steps p.tables e below (T1.setTop (mkF m 14 #[.val (.int p1), .val (.int (5 : Int32)), .val (.ref w_INDETERMINATE_DP), .unset] [(.ref w_INDETERMINATE_DP)])) _
    refine st2.trans ?_
    show Steps p.tables e below (T2.setTop (mkF m 17 #[.val (.int p1), .val (.int (5 : Int32)), .val (.ref w_INDETERMINATE_DP), .unset] [(.ref w_INDETERMINATE_DP)])) _
    refine XS.astoreN X2.here hx rfl (hb hby at_17) rfl rfl (l' := #[.val (.int p1), .val (.int (5 : Int32)), .val (.ref w_INDETERMINATE_DP), .val (.ref w_INDETERMINATE_DP)]) rfl ?_
    show Steps p.tables e below (T2.setTop (mkF m 18 #[.val (.int p1), .val (.int (5 : Int32)), .val (.ref w_INDETERMINATE_DP), .val (.ref w_INDETERMINATE_DP)] [])) _
    refine XS.aloadN X2.here hx rfl (hb hby at_18) rfl rfl ?_
    show Steps p.tables e below (T2.setTop (mkF m 19 #[.val (.int p1), .val (.int (5 : Int32)), .val (.ref w_INDETERMINATE_DP), .val (.ref w_INDETERMINATE_DP)] [(.ref w_INDETERMINATE_DP)])) _
    refine XS.iloadN X2.here hx rfl (hb hby at_19) rfl ?_
    show Steps p.tables e below (T2.setTop (mkF m 20 #[.val (.int p1), .val (.int (5 : Int32)), .val (.ref w_INDETERMINATE_DP), .val (.ref w_INDETERMINATE_DP)] [(.int (5 : Int32)), (.ref w_INDETERMINATE_DP)])) _
    refine st3 _ ?_
    show Steps p.tables e below (T3.setTop (mkF m 23 #[.val (.int p1), .val (.int (5 : Int32)), .val (.ref w_INDETERMINATE_DP), .val (.ref w_INDETERMINATE_DP)] [(.ref w_INDETERMINATE_DP), (.ref w_INDETERMINATE_DP)])) _
    refine Jvm.RoadKit.acmp (g := (mkF m 23 #[.val (.int p1), .val (.int (5 : Int32)), .val (.ref w_INDETERMINATE_DP), .val (.ref w_INDETERMINATE_DP)] [(.ref w_INDETERMINATE_DP), (.ref w_INDETERMINATE_DP)])) X3 hx rfl rfl rfl (pc0 := 23) (pc' := 28) (same := true) rfl (hb hby at_23) rfl (decide_eq_true rfl) (by decide) (by decide) ?_
    show Steps p.tables e below (T3.setTop (mkF m 28 #[.val (.int p1), .val (.int (5 : Int32)), .val (.ref w_INDETERMINATE_DP), .val (.ref w_INDETERMINATE_DP)] [])) _
    refine XS.aloadN X3.here hx rfl (hb hby at_28) rfl rfl ?_
    show Steps p.tables e below (T3.setTop (mkF m 29 #[.val (.int p1), .val (.int (5 : Int32)), .val (.ref w_INDETERMINATE_DP), .val (.ref w_INDETERMINATE_DP)] [(.ref w_INDETERMINATE_DP)])) _
    refine st4 _ ?_
    show Steps p.tables e below (T4.setTop (mkF m 32 #[.val (.int p1), .val (.int (5 : Int32)), .val (.ref w_INDETERMINATE_DP), .val (.ref w_INDETERMINATE_DP)] [(.ref w_PERMIT), (.ref w_INDETERMINATE_DP)])) _
    refine Jvm.RoadKit.acmp (g := (mkF m 32 #[.val (.int p1), .val (.int (5 : Int32)), .val (.ref w_INDETERMINATE_DP), .val (.ref w_INDETERMINATE_DP)] [(.ref w_PERMIT), (.ref w_INDETERMINATE_DP)])) X4 hx rfl rfl rfl (pc0 := 32) (pc' := 35) (same := false) rfl (hb hby at_32) rfl (decide_eq_false fun q => ne_w_PERMIT_w_INDETERMINATE_DP (Value.ref.inj q).symm) (by decide) (by decide) ?_
    show Steps p.tables e below (T4.setTop (mkF m 35 #[.val (.int p1), .val (.int (5 : Int32)), .val (.ref w_INDETERMINATE_DP), .val (.ref w_INDETERMINATE_DP)] [])) _
    refine XS.aloadN X4.here hx rfl (hb hby at_35) rfl rfl ?_
    show Steps p.tables e below (T4.setTop (mkF m 36 #[.val (.int p1), .val (.int (5 : Int32)), .val (.ref w_INDETERMINATE_DP), .val (.ref w_INDETERMINATE_DP)] [(.ref w_INDETERMINATE_DP)])) _
    refine st5 _ ?_
    show Steps p.tables e below (T5.setTop (mkF m 39 #[.val (.int p1), .val (.int (5 : Int32)), .val (.ref w_INDETERMINATE_DP), .val (.ref w_INDETERMINATE_DP)] [(.ref w_DENY), (.ref w_INDETERMINATE_DP)])) _
    refine Jvm.RoadKit.acmp (g := (mkF m 39 #[.val (.int p1), .val (.int (5 : Int32)), .val (.ref w_INDETERMINATE_DP), .val (.ref w_INDETERMINATE_DP)] [(.ref w_DENY), (.ref w_INDETERMINATE_DP)])) X5 hx rfl rfl rfl (pc0 := 39) (pc' := 44) (same := false) rfl (hb hby at_39) rfl (decide_eq_false fun q => ne_w_DENY_w_INDETERMINATE_DP (Value.ref.inj q).symm) (by decide) (by decide) ?_
    show Steps p.tables e below (T5.setTop (mkF m 44 #[.val (.int p1), .val (.int (5 : Int32)), .val (.ref w_INDETERMINATE_DP), .val (.ref w_INDETERMINATE_DP)] [])) _
    refine XS.aloadN X5.here hx rfl (hb hby at_44) rfl rfl ?_
    show Steps p.tables e below (T5.setTop (mkF m 45 #[.val (.int p1), .val (.int (5 : Int32)), .val (.ref w_INDETERMINATE_DP), .val (.ref w_INDETERMINATE_DP)] [(.ref w_INDETERMINATE_DP)])) _
    refine st6.trans ?_
    show Steps p.tables e below (T6.setTop (mkF m 48 #[.val (.int p1), .val (.int (5 : Int32)), .val (.ref w_INDETERMINATE_DP), .val (.ref w_INDETERMINATE_DP)] [(.ref w_INDETERMINATE_DP)])) _
    refine XS.aloadN X6.here hx rfl (hb hby at_48) rfl rfl ?_
    show Steps p.tables e below (T6.setTop (mkF m 49 #[.val (.int p1), .val (.int (5 : Int32)), .val (.ref w_INDETERMINATE_DP), .val (.ref w_INDETERMINATE_DP)] [(.ref w_INDETERMINATE_DP), (.ref w_INDETERMINATE_DP)])) _
    refine Jvm.RoadKit.acmp (g := (mkF m 49 #[.val (.int p1), .val (.int (5 : Int32)), .val (.ref w_INDETERMINATE_DP), .val (.ref w_INDETERMINATE_DP)] [(.ref w_INDETERMINATE_DP), (.ref w_INDETERMINATE_DP)])) X6 hx rfl rfl rfl (pc0 := 49) (pc' := 52) (same := true) rfl (hb hby at_49) rfl (decide_eq_true rfl) (by decide) (by decide) ?_
    show Steps p.tables e below (T6.setTop (mkF m 52 #[.val (.int p1), .val (.int (5 : Int32)), .val (.ref w_INDETERMINATE_DP), .val (.ref w_INDETERMINATE_DP)] [])) _
    refine XS.iconst X6.here hx rfl (hb hby at_52) ?_
    show Steps p.tables e below (T6.setTop (mkF m 53 #[.val (.int p1), .val (.int (5 : Int32)), .val (.ref w_INDETERMINATE_DP), .val (.ref w_INDETERMINATE_DP)] [(.int (1 : Int32))])) _
    refine XS.goto X6.here hx rfl (pc0 := 53) (pc' := 57) rfl (hb hby at_53) (by decide) (by decide) ?_
    show Steps p.tables e below (T6.setTop (mkF m 57 #[.val (.int p1), .val (.int (5 : Int32)), .val (.ref w_INDETERMINATE_DP), .val (.ref w_INDETERMINATE_DP)] [(.int (1 : Int32))])) _
    exact retN X6 hx (t := .boolean) Bd.returns (by simp) (hb hby at_57) hr
  · exact ⟨rfl, N6⟩
theorem rm0_all (l : Launch) (Z : State) (a0 : Array Value) (hw : ∀ d ∈ tables_1, d.before a0 Z = true) (ws : List Jvm.Cond) (w_PERMIT : Addr) (w_INDETERMINATE_P : Addr) (w_DENY : Addr) (w_NOT_APPLICABLE : Addr) (w_INDETERMINATE_D : Addr) (w_INDETERMINATE_DP : Addr) (p1 : Int32) (h0 : Heap) (n0 : Nat) (Z0 : n0 ≤ h0.size) (HW : World Z h0 w_PERMIT w_INDETERMINATE_P w_DENY w_NOT_APPLICABLE w_INDETERMINATE_D w_INDETERMINATE_DP) :
    MetFree l x (head1 (Jvm.Cond.code x code maxLocals ret :: ws) room_1) (fun a U => a = #[(.int p1)] ∧ Z.Warmed39 U.vm ∧ U.heap = h0) (fun _ _ _ _ _ => True) (fun _ U o U' => ∃ v L, o = .returned v ∧ Q0 h0 n0 v U'.heap L ∧ FrameEnd U o U' L room_1.cells room_1.slots) := by
  rcases own_rem p1 with hk | hk | hk | hk | hk | hk
  · skip
    exact rm0_c0 l Z a0 hw ws w_PERMIT w_INDETERMINATE_P w_DENY w_NOT_APPLICABLE w_INDETERMINATE_D w_INDETERMINATE_DP p1 h0 n0 Z0 HW hk
  · skip
    exact rm0_c1 l Z a0 hw ws w_PERMIT w_INDETERMINATE_P w_DENY w_NOT_APPLICABLE w_INDETERMINATE_D w_INDETERMINATE_DP p1 h0 n0 Z0 HW hk
  · skip
    exact rm0_c2 l Z a0 hw ws w_PERMIT w_INDETERMINATE_P w_DENY w_NOT_APPLICABLE w_INDETERMINATE_D w_INDETERMINATE_DP p1 h0 n0 Z0 HW hk
  · skip
    exact rm0_c3 l Z a0 hw ws w_PERMIT w_INDETERMINATE_P w_DENY w_NOT_APPLICABLE w_INDETERMINATE_D w_INDETERMINATE_DP p1 h0 n0 Z0 HW hk
  · skip
    exact rm0_c4 l Z a0 hw ws w_PERMIT w_INDETERMINATE_P w_DENY w_NOT_APPLICABLE w_INDETERMINATE_D w_INDETERMINATE_DP p1 h0 n0 Z0 HW hk
  · skip
    exact rm0_c5 l Z a0 hw ws w_PERMIT w_INDETERMINATE_P w_DENY w_NOT_APPLICABLE w_INDETERMINATE_D w_INDETERMINATE_DP p1 h0 n0 Z0 HW hk
set_option maxRecDepth 65536 in
set_option maxHeartbeats 40000000 in
theorem comes_1 {Post : Tables → Env → Array Value → State → Outcome → State → Prop} (hpost : ∀ tb e args s v u, (limb_1_1.after args s (.returned v) u = true ∧ limb_1_2.after args s (.returned v) u = true ∧ True) → FrameEnd s (.returned v) u (Jvm.fieldLocs frame_1_writes args s ++ Jvm.arrayLocs frame_1_arrays args s ++ Jvm.staticLocs frame_1_statics s) 0 0 → Post tb e args s (.returned v) u) :
    ArmFor flags0 classFile x code maxLocals ret World_1 tables_1 room_1 Calls_1 rest_1 Pre_1 Post := by
  intro l hfl _ _ p e ha hc hk s m args below hf hA hF happ hP
  obtain ⟨hcalls, hrest, hpre⟩ := hP
  obtain ⟨-, -, -, hnamed, -, -, -, hat⟩ := (Spec.applies_iff hf).mp happ
  obtain ⟨hg, hn⟩ := and_e (Cond.before_iff.mp (show (Jvm.Cond.and given_1 narrow_1).before args s = true from hpre))
  obtain ⟨hg1a, hg1b⟩ := and_e hg
  obtain ⟨w0, rfl⟩ : ∃ w0 : Value, args = #[w0] := by
    have hs : args.size = 1 := by simpa [Cond.value, given_1] using hg1a
    obtain ⟨L⟩ := args
    match L, hs with
    | [w0], _ => exact ⟨w0, rfl⟩
  have hw := fun d (hd : d ∈ tables_1) => atoms_spec (ws := Jvm.Cond.code x code maxLocals ret :: tables_1) hat d (List.mem_cons_of_mem _ hd)
  have hfit : Fit s := fun {y c} hc i hi => by
    obtain ⟨ha, rfl⟩ := Array.getElem?_eq_some_iff.mp hc
    have q := List.all_eq_true.mp ((Array.all_eq_true_iff_forall_mem.mp hF) _ (Array.getElem_mem ha)) i (List.mem_range.mpr hi)
    simpa [Array.getElem?_eq_getElem hi] using q
  obtain ⟨i0, ei0⟩ := is_v hg1b
  obtain rfl : w0 = (.int i0) := Option.some.inj ei0
  obtain ⟨hn1a, hn1b⟩ := and_e hn
  obtain ⟨hn2a, hn2b⟩ := and_e hn1b
  obtain ⟨hn3a, hn3b⟩ := and_e hn2b
  obtain ⟨hn4a, hn4b⟩ := and_e hn3b
  obtain ⟨hn5a, hn5b⟩ := and_e hn4b
  obtain ⟨hn6a, hn6b⟩ := and_e hn5b
  obtain ⟨hn7a, hn7b⟩ := and_e hn6b
  obtain ⟨hn8a, hn8b⟩ := and_e hn7b
  obtain ⟨hn9a, hn9b⟩ := and_e hn8b
  obtain ⟨hn10a, hn10b⟩ := and_e hn9b
  obtain ⟨hn11a, hn11b⟩ := and_e hn10b
  obtain ⟨w_PERMIT, ev_w_PERMIT⟩ := exa_v hn1a
  have S_w_PERMIT := Sta.start ev_w_PERMIT (Or.inr ⟨(hw _ (List.mem_of_getElem? (i := 6) rfl)), (hw _ (List.mem_of_getElem? (i := 7) rfl))⟩)
  have E_w_PERMIT := Exa.start ev_w_PERMIT hn1a
  obtain ⟨w_INDETERMINATE_P, ev_w_INDETERMINATE_P⟩ := exa_v hn2a
  have S_w_INDETERMINATE_P := Sta.start ev_w_INDETERMINATE_P (Or.inr ⟨(hw _ (List.mem_of_getElem? (i := 6) rfl)), (hw _ (List.mem_of_getElem? (i := 15) rfl))⟩)
  have E_w_INDETERMINATE_P := Exa.start ev_w_INDETERMINATE_P hn2a
  obtain ⟨w_DENY, ev_w_DENY⟩ := exa_v hn5a
  have S_w_DENY := Sta.start ev_w_DENY (Or.inr ⟨(hw _ (List.mem_of_getElem? (i := 6) rfl)), (hw _ (List.mem_of_getElem? (i := 21) rfl))⟩)
  have E_w_DENY := Exa.start ev_w_DENY hn5a
  obtain ⟨w_NOT_APPLICABLE, ev_w_NOT_APPLICABLE⟩ := exa_v hn7a
  have S_w_NOT_APPLICABLE := Sta.start ev_w_NOT_APPLICABLE (Or.inr ⟨(hw _ (List.mem_of_getElem? (i := 6) rfl)), (hw _ (List.mem_of_getElem? (i := 24) rfl))⟩)
  have E_w_NOT_APPLICABLE := Exa.start ev_w_NOT_APPLICABLE hn7a
  obtain ⟨w_INDETERMINATE_D, ev_w_INDETERMINATE_D⟩ := exa_v hn9a
  have S_w_INDETERMINATE_D := Sta.start ev_w_INDETERMINATE_D (Or.inr ⟨(hw _ (List.mem_of_getElem? (i := 6) rfl)), (hw _ (List.mem_of_getElem? (i := 26) rfl))⟩)
  have E_w_INDETERMINATE_D := Exa.start ev_w_INDETERMINATE_D hn9a
  obtain ⟨w_INDETERMINATE_DP, ev_w_INDETERMINATE_DP⟩ := exa_v hn11a
  have S_w_INDETERMINATE_DP := Sta.start ev_w_INDETERMINATE_DP (Or.inr ⟨(hw _ (List.mem_of_getElem? (i := 6) rfl)), (hw _ (List.mem_of_getElem? (i := 29) rfl))⟩)
  have E_w_INDETERMINATE_DP := Exa.start ev_w_INDETERMINATE_DP hn11a
  have F_ordinal_w_INDETERMINATE_P := own_fld (k := (3 : Int32)) hn3a ev_w_INDETERMINATE_P
  have F_ordinal_w_PERMIT := own_fld (k := (0 : Int32)) hn4a ev_w_PERMIT
  have F_ordinal_w_DENY := own_fld (k := (1 : Int32)) hn6a ev_w_DENY
  have F_ordinal_w_NOT_APPLICABLE := own_fld (k := (2 : Int32)) hn8a ev_w_NOT_APPLICABLE
  have F_ordinal_w_INDETERMINATE_D := own_fld (k := (4 : Int32)) hn10a ev_w_INDETERMINATE_D
  have F_ordinal_w_INDETERMINATE_DP := own_fld (k := (5 : Int32)) hn11b ev_w_INDETERMINATE_DP
  have ne_w_PERMIT_w_INDETERMINATE_P : ¬ (w_PERMIT = w_INDETERMINATE_P) := own_ne F_ordinal_w_PERMIT F_ordinal_w_INDETERMINATE_P (by decide)
  have ne_w_PERMIT_w_DENY : ¬ (w_PERMIT = w_DENY) := own_ne F_ordinal_w_PERMIT F_ordinal_w_DENY (by decide)
  have ne_w_PERMIT_w_NOT_APPLICABLE : ¬ (w_PERMIT = w_NOT_APPLICABLE) := own_ne F_ordinal_w_PERMIT F_ordinal_w_NOT_APPLICABLE (by decide)
  have ne_w_PERMIT_w_INDETERMINATE_D : ¬ (w_PERMIT = w_INDETERMINATE_D) := own_ne F_ordinal_w_PERMIT F_ordinal_w_INDETERMINATE_D (by decide)
  have ne_w_PERMIT_w_INDETERMINATE_DP : ¬ (w_PERMIT = w_INDETERMINATE_DP) := own_ne F_ordinal_w_PERMIT F_ordinal_w_INDETERMINATE_DP (by decide)
  have ne_w_INDETERMINATE_P_w_DENY : ¬ (w_INDETERMINATE_P = w_DENY) := own_ne F_ordinal_w_INDETERMINATE_P F_ordinal_w_DENY (by decide)
  have ne_w_INDETERMINATE_P_w_NOT_APPLICABLE : ¬ (w_INDETERMINATE_P = w_NOT_APPLICABLE) := own_ne F_ordinal_w_INDETERMINATE_P F_ordinal_w_NOT_APPLICABLE (by decide)
  have ne_w_INDETERMINATE_P_w_INDETERMINATE_D : ¬ (w_INDETERMINATE_P = w_INDETERMINATE_D) := own_ne F_ordinal_w_INDETERMINATE_P F_ordinal_w_INDETERMINATE_D (by decide)
  have ne_w_INDETERMINATE_P_w_INDETERMINATE_DP : ¬ (w_INDETERMINATE_P = w_INDETERMINATE_DP) := own_ne F_ordinal_w_INDETERMINATE_P F_ordinal_w_INDETERMINATE_DP (by decide)
  have ne_w_DENY_w_NOT_APPLICABLE : ¬ (w_DENY = w_NOT_APPLICABLE) := own_ne F_ordinal_w_DENY F_ordinal_w_NOT_APPLICABLE (by decide)
  have ne_w_DENY_w_INDETERMINATE_D : ¬ (w_DENY = w_INDETERMINATE_D) := own_ne F_ordinal_w_DENY F_ordinal_w_INDETERMINATE_D (by decide)
  have ne_w_DENY_w_INDETERMINATE_DP : ¬ (w_DENY = w_INDETERMINATE_DP) := own_ne F_ordinal_w_DENY F_ordinal_w_INDETERMINATE_DP (by decide)
  have ne_w_NOT_APPLICABLE_w_INDETERMINATE_D : ¬ (w_NOT_APPLICABLE = w_INDETERMINATE_D) := own_ne F_ordinal_w_NOT_APPLICABLE F_ordinal_w_INDETERMINATE_D (by decide)
  have ne_w_NOT_APPLICABLE_w_INDETERMINATE_DP : ¬ (w_NOT_APPLICABLE = w_INDETERMINATE_DP) := own_ne F_ordinal_w_NOT_APPLICABLE F_ordinal_w_INDETERMINATE_DP (by decide)
  have ne_w_INDETERMINATE_D_w_INDETERMINATE_DP : ¬ (w_INDETERMINATE_D = w_INDETERMINATE_DP) := own_ne F_ordinal_w_INDETERMINATE_D F_ordinal_w_INDETERMINATE_DP (by decide)
  have HW : World s s.heap w_PERMIT w_INDETERMINATE_P w_DENY w_NOT_APPLICABLE w_INDETERMINATE_D w_INDETERMINATE_DP := ⟨S_w_PERMIT, E_w_PERMIT, S_w_INDETERMINATE_P, E_w_INDETERMINATE_P, S_w_DENY, E_w_DENY, S_w_NOT_APPLICABLE, E_w_NOT_APPLICABLE, S_w_INDETERMINATE_D, E_w_INDETERMINATE_D, S_w_INDETERMINATE_DP, E_w_INDETERMINATE_DP, F_ordinal_w_INDETERMINATE_P, F_ordinal_w_PERMIT, F_ordinal_w_DENY, F_ordinal_w_NOT_APPLICABLE, F_ordinal_w_INDETERMINATE_D, F_ordinal_w_INDETERMINATE_DP, ne_w_PERMIT_w_INDETERMINATE_P, ne_w_PERMIT_w_DENY, ne_w_PERMIT_w_NOT_APPLICABLE, ne_w_PERMIT_w_INDETERMINATE_D, ne_w_PERMIT_w_INDETERMINATE_DP, ne_w_INDETERMINATE_P_w_DENY, ne_w_INDETERMINATE_P_w_NOT_APPLICABLE, ne_w_INDETERMINATE_P_w_INDETERMINATE_D, ne_w_INDETERMINATE_P_w_INDETERMINATE_DP, ne_w_DENY_w_NOT_APPLICABLE, ne_w_DENY_w_INDETERMINATE_D, ne_w_DENY_w_INDETERMINATE_DP, ne_w_NOT_APPLICABLE_w_INDETERMINATE_D, ne_w_NOT_APPLICABLE_w_INDETERMINATE_DP, ne_w_INDETERMINATE_D_w_INDETERMINATE_DP, trivial⟩
  obtain ⟨n, o, h1, h2, h3, _, L, rfl, ⟨rfl, N⟩, hq⟩ := rm0_all l s _ hw tables_1 w_PERMIT w_INDETERMINATE_P w_DENY w_NOT_APPLICABLE w_INDETERMINATE_D w_INDETERMINATE_DP i0 s.heap s.heap.size (Nat.le_refl _) HW p e ha hc hk s m _ below hf ((Spec.applies_iff_loose hf).mp happ).1 ⟨rfl, State.Warmed39.refl s, rfl⟩ trivial
  exact ⟨n, _, h1, h2, h3, hpost _ _ _ _ _ _ ⟨Cond.after_iff.mpr rfl, Cond.after_iff.mpr (eq_i res_at (Term.int_eval (1)) rfl), trivial⟩ ⟨hq.1, hq.2.1, (hq.2.2.sift fun y hy => Or.inr (N y hy)).mono (by decide) (by decide)⟩⟩
theorem main_1_1 : Claimed_1_1 := comes_1 fun _ _ _ _ _ _ h hF => ⟨h.1, hF⟩
theorem main_1_2 : Claimed_1_2 := comes_1 fun _ _ _ _ _ _ h hF => ⟨h.2.1, hF⟩
end Jvm.Pilot.@@N@@
namespace Jvm.Pilot.@@N@@
open Jvm Jvm.ClassFile Sem Op Lib Jvm.Free Jvm.Stand Jvm.Pilot.@@N@@.Jvm.D
/-! MADE BY PROGRAM (witnessworld.py) out of the Statement's table words and the real class files: 10 classes; the members and pool entries that the words name. The judged class is class 1, her method 3. -/
namespace start1
open Jvm.ClassFile
def u (s : String) : CpInfo := .utf8 (stringToUtf16 s)
/-- a pool by its gaps: so many unusable entries, then the entry; so many at the end -/
def gap : Nat → List CpInfo → List CpInfo
  | 0, r => r
  | n + 1, r => .unusable :: gap n r
def poolList (es : List (Nat × CpInfo)) (last : Nat) : List CpInfo := es.foldr (fun e r => gap e.1 (e.2 :: r)) (gap last [])
def pool (es : List (Nat × CpInfo)) (last : Nat) : Array CpInfo := ⟨poolList es last⟩
def fileOf (pool : Array CpInfo) (this : Nat) (attrs : Array Attribute := #[]) (ms : Array MethodInfo := #[]) (fl : Nat := 33) (sup : Nat := 0) (ifs : Array Nat := #[]) (fds : Array FieldInfo := #[]) : ClassFile where
  minorVersion := 0
  majorVersion := 65
  constantPool := pool
  accessFlags := fl
  thisClass := this
  superClass := sup
  interfaces := ifs
  fields := fds
  methods := ms
  attributes := attrs
def plain (name : String) (sup : Option ClassId) : Class where
  name := name
  kind := .ordinary
  loader := none
  accessFlags := 33
  super := sup
  interfaces := #[]
  cf := none
  fields := #[]
  methods := #[]
  instanceTypes := #[]
  staticTypes := #[]
  resolved := #[]
  callSites := []
  init := .initialized
  statics := none
  mirror := none

def pool0 : Array CpInfo := pool [(5, u "<init>"), (0, u "()V"), (1, .class_ 10), (1, u "java/lang/Object")] 113

def k0m0 : Method := { name := "<init>", desc := "()V", sig := { parameters := [], returnType := none }, accessFlags := 1, code := none }
/-- java/lang/Object -/
def k0 : Class := { plain "java/lang/Object" none with
  accessFlags := 33
  interfaces := #[]
  cf := some (fileOf pool0 8 #[] #[{ accessFlags := 1, nameIndex := 5, descriptorIndex := 6, attributes := #[] }] 33 0 #[] #[])
  fields := #[]
  methods := #[k0m0]
  instanceTypes := #[]
  staticTypes := #[]
  resolved := Array.replicate 124 none
  statics := none }

def pool1 : Array CpInfo := pool [(2, .class_ 4), (1, u "java/lang/Object"), (0, u "<init>"), (0, u "()V"), (0, .fieldref 8 9), (0, .class_ 10), (0, .nameAndType 11 12), (0, u "com/example/minos/minos/xacml/Decision"), (0, u "PERMIT"), (0, u "Lcom/example/minos/minos/xacml/Decision;"), (0, .fieldref 8 14), (0, .nameAndType 15 12), (0, u "DENY"), (0, .fieldref 8 17), (0, .nameAndType 18 12), (0, u "NOT_APPLICABLE"), (0, .fieldref 8 20), (0, .nameAndType 21 12), (0, u "INDETERMINATE_P"), (0, .fieldref 8 23), (0, .nameAndType 24 12), (0, u "INDETERMINATE_D"), (0, .fieldref 8 26), (0, .nameAndType 27 12), (0, u "INDETERMINATE_DP"), (0, .integer 2147483647), (0, .methodref 30 31), (0, .class_ 32), (0, .nameAndType 33 34), (0, u "com/example/minos/minos/xacml/DecisionUnderIndeterminateTargetPinLaw"), (0, u "pick"), (0, u "(I)Lcom/example/minos/minos/xacml/Decision;"), (0, .methodref 8 36), (0, .nameAndType 37 38), (0, u "underIndeterminateTarget"), (0, u "()Lcom/example/minos/minos/xacml/Decision;"), (0, .methodref 30 40), (0, .nameAndType 41 34), (0, u "expected"), (3, u "law"), (0, u "(I)Z")] 2

def k1m0 : Method := { name := "<init>", desc := "()V", sig := { parameters := [], returnType := none }, accessFlags := 1, code := none }
def k1c1 : Code := { maxStack := 2, maxLocals := 1, code := method_2_code, exceptionTable := #[], attributes := #[] }
def k1m1 : Method := { name := "pick", desc := "(I)Lcom/example/minos/minos/xacml/Decision;", sig := { parameters := [.int], returnType := some (.object "com/example/minos/minos/xacml/Decision") }, accessFlags := 10, code := some k1c1 }
def k1c2 : Code := { maxStack := 2, maxLocals := 1, code := method_3_code, exceptionTable := #[], attributes := #[] }
def k1m2 : Method := { name := "expected", desc := "(I)Lcom/example/minos/minos/xacml/Decision;", sig := { parameters := [.int], returnType := some (.object "com/example/minos/minos/xacml/Decision") }, accessFlags := 10, code := some k1c2 }
def k1c3 : Code := { maxStack := 2, maxLocals := 4, code := code, exceptionTable := #[], attributes := #[] }
def k1m3 : Method := { name := "law", desc := "(I)Z", sig := { parameters := [.int], returnType := some .boolean }, accessFlags := 9, code := some k1c3 }
/-- com/example/minos/minos/xacml/DecisionUnderIndeterminateTargetPinLaw -/
def k1 : Class := { plain "com/example/minos/minos/xacml/DecisionUnderIndeterminateTargetPinLaw" (some 0) with
  accessFlags := 49
  interfaces := #[]
  cf := some (fileOf pool1 30 #[] #[{ accessFlags := 1, nameIndex := 5, descriptorIndex := 6, attributes := #[] }, { accessFlags := 10, nameIndex := 33, descriptorIndex := 34, attributes := #[] }, { accessFlags := 10, nameIndex := 41, descriptorIndex := 34, attributes := #[] }, { accessFlags := 9, nameIndex := 45, descriptorIndex := 46, attributes := #[] }] 49 2 #[] #[])
  fields := #[]
  methods := #[k1m0, k1m1, k1m2, k1m3]
  instanceTypes := #[]
  staticTypes := #[]
  resolved := Array.replicate 49 none
  statics := none }

def pool2 : Array CpInfo := pool [(1, .class_ 2), (0, u "java/lang/constant/Constable"), (0, .class_ 4), (0, u "java/lang/Object")] 6

/-- java/lang/constant/Constable -/
def k2 : Class := { plain "java/lang/constant/Constable" (some 0) with
  accessFlags := 1537
  interfaces := #[]
  cf := some (fileOf pool2 1 #[] #[] 1537 3 #[] #[])
  fields := #[]
  methods := #[]
  instanceTypes := #[]
  staticTypes := #[]
  resolved := Array.replicate 11 none
  statics := none }

def pool3 : Array CpInfo := pool [(1, .class_ 2), (0, u "java/lang/Comparable"), (0, .class_ 4), (0, u "java/lang/Object")] 7

/-- java/lang/Comparable -/
def k3 : Class := { plain "java/lang/Comparable" (some 0) with
  accessFlags := 1537
  interfaces := #[]
  cf := some (fileOf pool3 1 #[] #[] 1537 3 #[] #[])
  fields := #[]
  methods := #[]
  instanceTypes := #[]
  staticTypes := #[]
  resolved := Array.replicate 12 none
  statics := none }

def pool4 : Array CpInfo := pool [(1, .class_ 2), (0, u "java/io/Serializable"), (0, .class_ 4), (0, u "java/lang/Object")] 2

/-- java/io/Serializable -/
def k4 : Class := { plain "java/io/Serializable" (some 0) with
  accessFlags := 1537
  interfaces := #[]
  cf := some (fileOf pool4 1 #[] #[] 1537 3 #[] #[])
  fields := #[]
  methods := #[]
  instanceTypes := #[]
  staticTypes := #[]
  resolved := Array.replicate 7 none
  statics := none }

def pool5 : Array CpInfo := pool [(2, .class_ 4), (1, u "java/lang/Enum"), (0, u "name"), (0, u "Ljava/lang/String;"), (2, u "ordinal"), (0, u "I"), (1, .class_ 14), (1, u "java/lang/Object"), (4, u "hash"), (86, .class_ 108), (1, u "java/lang/Enum$EnumDesc"), (2, .class_ 112), (0, u "java/lang/constant/Constable"), (0, .class_ 114), (0, u "java/lang/Comparable"), (0, .class_ 116), (0, u "java/io/Serializable")] 87

/-- java/lang/Enum -/
def k5 : Class := { plain "java/lang/Enum" (some 0) with
  accessFlags := 1057
  interfaces := #[2, 3, 4]
  cf := some (fileOf pool5 2 #[.nestMembers #[106]] #[] 1057 12 #[111, 113, 115] #[{ accessFlags := 18, nameIndex := 5, descriptorIndex := 6, attributes := #[] }, { accessFlags := 18, nameIndex := 9, descriptorIndex := 10, attributes := #[] }, { accessFlags := 2, nameIndex := 19, descriptorIndex := 10, attributes := #[] }])
  fields := #[{ name := "name", type := (.object "java/lang/String"), accessFlags := 18, slot := 0, constantValue := 0 }, { name := "ordinal", type := .int, accessFlags := 18, slot := 1, constantValue := 0 }, { name := "hash", type := .int, accessFlags := 2, slot := 2, constantValue := 0 }]
  methods := #[]
  instanceTypes := #[(.object "java/lang/String"), .int, .int]
  staticTypes := #[]
  resolved := Array.replicate 204 none
  statics := none }

def pool6 : Array CpInfo := pool [(1, .class_ 2), (0, u "com/example/minos/minos/xacml/Decision"), (0, .fieldref 1 4), (0, .nameAndType 5 6), (0, u "PERMIT"), (0, u "Lcom/example/minos/minos/xacml/Decision;"), (0, .fieldref 1 8), (0, .nameAndType 9 6), (0, u "DENY"), (2, u "NOT_APPLICABLE"), (0, .fieldref 1 14), (0, .nameAndType 15 6), (0, u "INDETERMINATE_P"), (0, .fieldref 1 17), (0, .nameAndType 18 6), (0, u "INDETERMINATE_D"), (2, u "INDETERMINATE_DP"), (2, u "$VALUES"), (0, u "[Lcom/example/minos/minos/xacml/Decision;"), (6, .class_ 34), (1, u "java/lang/Enum"), (8, u "text"), (0, u "Ljava/lang/String;"), (29, u "underIndeterminateTarget"), (0, u "()Lcom/example/minos/minos/xacml/Decision;")] 6

def k6c0 : Code := { maxStack := 2, maxLocals := 2, code := prog_55_method_5_code, exceptionTable := #[], attributes := #[] }
def k6m0 : Method := { name := "underIndeterminateTarget", desc := "()Lcom/example/minos/minos/xacml/Decision;", sig := { parameters := [], returnType := some (.object "com/example/minos/minos/xacml/Decision") }, accessFlags := 1, code := some k6c0 }
/-- com/example/minos/minos/xacml/Decision -/
def k6 : Class := { plain "com/example/minos/minos/xacml/Decision" (some 5) with
  accessFlags := 16433
  interfaces := #[]
  cf := some (fileOf pool6 1 #[] #[{ accessFlags := 1, nameIndex := 74, descriptorIndex := 75, attributes := #[] }] 16433 32 #[] #[{ accessFlags := 16409, nameIndex := 5, descriptorIndex := 6, attributes := #[] }, { accessFlags := 16409, nameIndex := 9, descriptorIndex := 6, attributes := #[] }, { accessFlags := 16409, nameIndex := 12, descriptorIndex := 6, attributes := #[] }, { accessFlags := 16409, nameIndex := 15, descriptorIndex := 6, attributes := #[] }, { accessFlags := 16409, nameIndex := 18, descriptorIndex := 6, attributes := #[] }, { accessFlags := 16409, nameIndex := 21, descriptorIndex := 6, attributes := #[] }, { accessFlags := 18, nameIndex := 43, descriptorIndex := 44, attributes := #[] }, { accessFlags := 4122, nameIndex := 24, descriptorIndex := 25, attributes := #[] }])
  fields := #[{ name := "PERMIT", type := (.object "com/example/minos/minos/xacml/Decision"), accessFlags := 16409, slot := 0, constantValue := 0 }, { name := "DENY", type := (.object "com/example/minos/minos/xacml/Decision"), accessFlags := 16409, slot := 1, constantValue := 0 }, { name := "NOT_APPLICABLE", type := (.object "com/example/minos/minos/xacml/Decision"), accessFlags := 16409, slot := 2, constantValue := 0 }, { name := "INDETERMINATE_P", type := (.object "com/example/minos/minos/xacml/Decision"), accessFlags := 16409, slot := 3, constantValue := 0 }, { name := "INDETERMINATE_D", type := (.object "com/example/minos/minos/xacml/Decision"), accessFlags := 16409, slot := 4, constantValue := 0 }, { name := "INDETERMINATE_DP", type := (.object "com/example/minos/minos/xacml/Decision"), accessFlags := 16409, slot := 5, constantValue := 0 }, { name := "text", type := (.object "java/lang/String"), accessFlags := 18, slot := 3, constantValue := 0 }, { name := "$VALUES", type := (.array (.object "com/example/minos/minos/xacml/Decision")), accessFlags := 4122, slot := 6, constantValue := 0 }]
  methods := #[k6m0]
  instanceTypes := #[(.object "java/lang/String"), .int, .int, (.object "java/lang/String")]
  staticTypes := #[(.object "com/example/minos/minos/xacml/Decision"), (.object "com/example/minos/minos/xacml/Decision"), (.object "com/example/minos/minos/xacml/Decision"), (.object "com/example/minos/minos/xacml/Decision"), (.object "com/example/minos/minos/xacml/Decision"), (.object "com/example/minos/minos/xacml/Decision"), (.array (.object "com/example/minos/minos/xacml/Decision"))]
  resolved := Array.replicate 82 none
  statics := some 0 }

def pool7 : Array CpInfo := pool [(1, u "java/lang/Cloneable"), (0, .class_ 1), (0, u "java/lang/Object"), (0, .class_ 3)] 3

/-- java/lang/Cloneable -/
def k7 : Class := { plain "java/lang/Cloneable" (some 0) with
  accessFlags := 1537
  interfaces := #[]
  cf := some (fileOf pool7 2 #[] #[] 1537 4 #[] #[])
  fields := #[]
  methods := #[]
  instanceTypes := #[]
  staticTypes := #[]
  resolved := Array.replicate 8 none
  statics := none }

/-- the primitive byte -/
def k8 : Class := { plain "byte" none with kind := .primitive 'B', accessFlags := 0x411 }
/-- [B -/
def k9 : Class := { plain "[B" (some 0) with kind := .array 8 .byte, interfaces := #[7, 4], accessFlags := 1041 }

def heap : Heap := #[{ cls := 6, slots := #[.ref 1, .ref 3, .ref 4, .ref 2, .ref 5, .ref 6, .null], vm := .statics 6 },
  { cls := 6, slots := #[.null, .int 0, .int 0, .null], vm := .none },
  { cls := 6, slots := #[.null, .int 3, .int 0, .null], vm := .none },
  { cls := 6, slots := #[.null, .int 1, .int 0, .null], vm := .none },
  { cls := 6, slots := #[.null, .int 2, .int 0, .null], vm := .none },
  { cls := 6, slots := #[.null, .int 4, .int 0, .null], vm := .none },
  { cls := 6, slots := #[.null, .int 5, .int 0, .null], vm := .none }]
def classes : Array Class := #[k0, k1, k2, k3, k4, k5, k6, k7, k8, k9]
def interned : List (Array UInt16 × Addr) := []
def slotsUsed : Nat := 31
def theMethod : MethodId := ⟨1, 3⟩
def args0 : Array Value := #[.int 5]
def aboutOver (below : List Frame) : State where
  vm := { classes := classes, interned := interned.toArray }
  heap := heap
  slotsUsed := slotsUsed
  threads := #[{ frames := .invoking theMethod args0 :: below }]
def below0 : List Frame := [.native { method := ⟨0, 0⟩, args := #[] }]
def about1 : State := aboutOver below0
def p0 : Program := .bare "" "" ""
def e0 : Env := launch0.env 0 0 0
theorem w_frames : about1.frames = Frame.invoking theMethod args0 :: below0 := rfl
set_option maxRecDepth 65536 in
theorem w_args : argsFit about1.vm theMethod args0 = true := by decide +kernel
set_option maxRecDepth 65536 in
theorem w_heap : heapFits about1 = true := by decide +kernel
set_option maxRecDepth 65536 in
theorem w_runnable : about1.curStatus? = some .runnable := by decide +kernel
set_option maxRecDepth 65536 in
theorem w_alone : about1.alone = true := by decide +kernel
set_option maxRecDepth 65536 in
theorem w_named : about1.methodNamed? x = some theMethod := by decide +kernel
set_option maxRecDepth 65536 in
theorem w_hears : about1.hears theMethod below0 = true := by decide +kernel
set_option maxRecDepth 65536 in
theorem w_ripe : about1.ripe theMethod args0 below0 = true := by decide +kernel
theorem w_running : about1.status = .running := rfl
set_option maxRecDepth 65536 in
theorem w_room : about1.hasRoom e0.platform room_1 = true :=
  launch0.hasRoom_least _ room_1 (by decide +kernel) (by decide +kernel) (by decide +kernel) (by decide +kernel) (by decide +kernel) (by decide +kernel)
theorem allAtoms_all (ts : List Jvm.Cond) (a : Array Jvm.Value) (st : Jvm.State) : (allAtoms ts).before a st = ts.all (fun c => c.before a st) := by
  induction ts with
  | nil => rfl
  | cons c t ih =>
    show (Jvm.Cond.and c (allAtoms t)).before a st = _
    rw [Jvm.Cond.before_and, ih, List.all_cons]
def words1 : List Jvm.Cond := Jvm.Cond.code x code maxLocals ret :: tables_1
/-- a 'code' word, met by the world's own term for the bytes: nothing is compared byte by byte -/
theorem code_word {y : MethodName} {bytes : ByteArray} {mx : Nat} {rt : Option FieldType} {a : Array Value} {s : State} {m : MethodId} {meth : Method} {c : Code} (h1 : s.methodNamed? y = some m) (h2 : s.vm.method? m = some meth) (h3 : meth.code = some c) (h4 : c.code = bytes)
    (h5 : (c.maxLocals == mx && c.exceptionTable.isEmpty && decide (c.maxStack ≤ mostOperands) && decide (meth.sig.returnType = rt) && !meth.locks && decide (parseMethodDescriptor y.desc = some meth.sig)) = true) : (Jvm.Cond.code y bytes mx rt).before a s = true := by
  simp only [Bool.and_eq_true, beq_iff_eq, Bool.not_eq_true', decide_eq_true_eq] at h5
  obtain ⟨⟨⟨⟨⟨g1, g2⟩, g3⟩, g4⟩, g5⟩, g6⟩ := h5
  simp [Cond.before, Cond.holds, Cond.value, h1, h2, h3, h4, g1, g2, g3, g4, g5, g6]
def isCode : Jvm.Cond → Bool
  | .code _ _ _ _ => true
  | _ => false
theorem all_split {L : List Jvm.Cond} {P : Jvm.Cond → Bool} (h1 : L.all (fun c => isCode c || P c) = true) (h2 : ∀ c ∈ L.filter isCode, P c = true) : L.all P = true := by
  refine List.all_eq_true.mpr fun c hc => ?_
  have h := List.all_eq_true.mp h1 c hc
  rcases Bool.eq_false_or_eq_true (isCode c) with hi | hi
  · exact h2 c (List.mem_filter.mpr ⟨hc, hi⟩)
  · simpa [hi] using h
set_option maxRecDepth 65536 in
theorem w_c0 : (Jvm.Cond.code x code maxLocals ret).before args0 about1 = true := code_word (m := ⟨1, 3⟩) (meth := k1m3) (c := k1c3) (by decide +kernel) rfl rfl rfl (by decide +kernel)
set_option maxRecDepth 65536 in
theorem w_c1 : (Jvm.Cond.code ({ cls := "com/example/minos/minos/xacml/DecisionUnderIndeterminateTargetPinLaw", name := "pick", desc := "(I)Lcom/example/minos/minos/xacml/Decision;" } : Jvm.MethodName) method_2_code (1 : Nat) (Option.some (Jvm.ClassFile.FieldType.object "com/example/minos/minos/xacml/Decision"))).before args0 about1 = true := code_word (m := ⟨1, 1⟩) (meth := k1m1) (c := k1c1) (by decide +kernel) rfl rfl rfl (by decide +kernel)
set_option maxRecDepth 65536 in
theorem w_c2 : (Jvm.Cond.code ({ cls := "com/example/minos/minos/xacml/Decision", name := "underIndeterminateTarget", desc := "()Lcom/example/minos/minos/xacml/Decision;" } : Jvm.MethodName) prog_55_method_5_code (2 : Nat) (Option.some (Jvm.ClassFile.FieldType.object "com/example/minos/minos/xacml/Decision"))).before args0 about1 = true := code_word (m := ⟨6, 0⟩) (meth := k6m0) (c := k6c0) (by decide +kernel) rfl rfl rfl (by decide +kernel)
set_option maxRecDepth 65536 in
theorem w_c3 : (Jvm.Cond.code ({ cls := "com/example/minos/minos/xacml/DecisionUnderIndeterminateTargetPinLaw", name := "expected", desc := "(I)Lcom/example/minos/minos/xacml/Decision;" } : Jvm.MethodName) method_3_code (1 : Nat) (Option.some (Jvm.ClassFile.FieldType.object "com/example/minos/minos/xacml/Decision"))).before args0 about1 = true := code_word (m := ⟨1, 2⟩) (meth := k1m2) (c := k1c2) (by decide +kernel) rfl rfl rfl (by decide +kernel)
def codes1 : List Jvm.Cond := [Jvm.Cond.code x code maxLocals ret, Jvm.Cond.code ({ cls := "com/example/minos/minos/xacml/DecisionUnderIndeterminateTargetPinLaw", name := "pick", desc := "(I)Lcom/example/minos/minos/xacml/Decision;" } : Jvm.MethodName) method_2_code (1 : Nat) (Option.some (Jvm.ClassFile.FieldType.object "com/example/minos/minos/xacml/Decision")), Jvm.Cond.code ({ cls := "com/example/minos/minos/xacml/Decision", name := "underIndeterminateTarget", desc := "()Lcom/example/minos/minos/xacml/Decision;" } : Jvm.MethodName) prog_55_method_5_code (2 : Nat) (Option.some (Jvm.ClassFile.FieldType.object "com/example/minos/minos/xacml/Decision")), Jvm.Cond.code ({ cls := "com/example/minos/minos/xacml/DecisionUnderIndeterminateTargetPinLaw", name := "expected", desc := "(I)Lcom/example/minos/minos/xacml/Decision;" } : Jvm.MethodName) method_3_code (1 : Nat) (Option.some (Jvm.ClassFile.FieldType.object "com/example/minos/minos/xacml/Decision"))]
set_option maxRecDepth 65536 in
theorem codes_eq : words1.filter isCode = codes1 := rfl
theorem w_codes : ∀ c ∈ words1.filter isCode, c.before args0 about1 = true := by
  rw [codes_eq]
  intro c hc
  simp only [codes1, List.mem_cons, List.not_mem_nil, or_false] at hc
  rcases hc with rfl | rfl | rfl | rfl
  · exact w_c0
  · exact w_c1
  · exact w_c2
  · exact w_c3
set_option maxRecDepth 65536 in
theorem w_t1 : (words1.take 24).all (fun c => isCode c || c.before args0 about1) = true := by decide +kernel
set_option maxRecDepth 65536 in
theorem w_t2 : (words1.drop 24).all (fun c => isCode c || c.before args0 about1) = true := by decide +kernel
theorem w_tables : (allAtoms (Jvm.Cond.code x code maxLocals ret :: tables_1)).before args0 about1 = true := by
  rw [allAtoms_all]
  show words1.all (fun c => c.before args0 about1) = true
  refine all_split ?_ w_codes
  rw [← List.take_append_drop 24 words1, List.all_append, w_t1, w_t2]
  rfl
set_option maxRecDepth 65536 in
theorem w_case : (Jvm.Cond.and given_1 narrow_1).before args0 about1 = true := by decide +kernel
theorem w_applies : (headSpec (Jvm.Cond.code x code maxLocals ret :: tables_1) room_1).applies x e0.platform about1 = true :=
  (Spec.applies_iff w_frames).mpr ⟨w_running, w_runnable, w_alone, w_named, w_hears, w_ripe, w_room, w_tables⟩
theorem atStart : AtStart classFile x code maxLocals ret World_1 tables_1 room_1 Calls_1 rest_1 Pre_1 launch0 p0 e0 about1 theMethod args0 below0 :=
  ⟨lists_1, trivial, launch0.admits_env _ _ _, launch0.least_env, fairChoices_fair.cas, fairChoices_fair.clock, w_frames, w_args, w_heap, w_applies, trivial, trivial, w_case⟩
end start1
theorem witness_1 : WitnessClaimed_1 := ⟨start1.p0, start1.e0, start1.about1, start1.theMethod, start1.args0, start1.below0, start1.atStart⟩
end Jvm.Pilot.@@N@@
