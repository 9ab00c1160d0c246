import JvmDerived
import JvmDerived.Pilot.@@N@@Statement
import JvmDerived.Pilot.@@N@@Code
set_option linter.unusedVariables false
set_option linter.unusedSimpArgs false
@@BLOCK:NumsL.lean.txt@@
namespace Jvm.RoadKit
open Sem ClassFile Op Lib Jvm.Stand Jvm.Free Jvm.LawKit
section New
variable {p : Program} {l : Launch} {e : Env} {R : Room} {s : State} {m : MethodId} {args : Array Value} {below : List Frame} {meth : Method} {c : Code} {T : State} {locs : List Loc} {cells slots : Nat}
theorem retI (X : Stand p l e R s m args below meth c T locs cells slots) (hx : p.tables.exec = Jvm.exec) {pc : Nat} {Ls : Array Slot} {z : Int32} {rest : List Value} (hret : meth.sig.returnType = some .int) (hd : decode c.code pc = .ok (.ireturn, 1)) {fs : List Frame}
    (hl : ∀ (f : JFrame) (acts : List Action), f.method = m → f.locked = none → f.entered = [] → (doReturn e (T.setTop f) acts (some (.int z))).1 = T.setFrames fs) : Steps p.tables e below (T.setTop (mkF m pc Ls (.int z :: rest))) (T.setFrames fs) := by
  have hm' : T.vm.method? m = some meth := X.method'
  have hn : narrow .int (.int z) = .int z := rfl
  show Steps p.tables e below (T.setTop { method := m, pc := pc, locals := Ls, stack := _ :: rest, locked := none }) _
  jvm_step X.here [X.here.top, hx, hd, hm', hret, hn]
  first | (intro acts; rw [hl _ acts rfl rfl rfl]) | rw [hl _ _ rfl rfl rfl]
  exact Steps.refl _
end New
end Jvm.RoadKit
namespace Jvm.Pilot.@@N@@
open Jvm Jvm.ClassFile Sem Op Lib Jvm.Free Jvm.Stand Jvm.LawKit Jvm.RoadKit Bundle Jvm.Pilot.@@N@@.Jvm.D
theorem own_ext {h h' h'' : Heap} (A : Ext h h') (B : Ext h' h'') : Ext h h'' := ⟨Nat.le_trans A.1 B.1, fun a c q => B.2 a c (A.2 a c q)⟩
theorem own_fld {args : Array Value} {s : State} {t : Term} {C n d : String} {w : Addr} {k : Int32} (h : (Jvm.Cond.eq (.field t C n d) (.int k)).value args s none s [] = some true) (ev : t.eval args s none [] s = some (.ref w)) : Fld s s.heap w C n d (.int k) := by
  apply Fld.start
  have e := fld_at (C := C) (n := n) (dd := d) ev
  obtain ⟨x, y, e1, e2, k1, k2⟩ := cmp_v (Or.inl h)
  cases (show y = .int k from (Option.some.inj (e2.symm.trans rfl)))
  obtain ⟨z, rfl⟩ := k2
  have q := gotT (Cond.eq_ints e1 e2) h
  rw [← e, e1, q]
theorem own_fldR {args : Array Value} {s : State} {t u : Term} {C n d : String} {w b : Addr} (h : (Jvm.Cond.eq (.field t C n d) u).value args s none s [] = some true) (ev : t.eval args s none [] s = some (.ref w)) (eu : u.eval args s none [] s = some (.ref b)) : Fld s s.heap w C n d (.ref b) := by
  apply Fld.start
  have e := fld_at (C := C) (n := n) (dd := d) ev
  obtain ⟨x, y, e1, e2, k1, k2⟩ := cmp_v (Or.inl h)
  cases e2.symm.trans eu
  have q := gotT (eq_R e1 eu k2.2 rfl) h
  rw [← e, e1, q]
theorem own_ne {Z : State} {h : Heap} {a b : Addr} {C n d : String} {i j : Int32} (F : Fld Z h a C n d (.int i)) (G : Fld Z h b C n d (.int j)) (hn : ¬ (i = j)) : ¬ (a = b) := fun e => by
  subst e
  obtain ⟨c1, f1, k1, i1, g1, p1, p2, -, -, -, -, p7⟩ := F
  obtain ⟨c2, f2, k2, i2, g2, q1, q2, -, -, -, -, q7⟩ := G
  cases p1.symm.trans q1
  cases p2.symm.trans q2
  exact hn (Value.int.inj (Option.some.inj (p7.symm.trans q7)))
theorem own_inj {x y : Int32} (h : x.toInt = y.toInt) : x = y := Int32.toInt_inj.mp h
theorem own_mask (x : Int32) : (x &&& (3 : Int32)) = (0 : Int32) ∨ (x &&& (3 : Int32)) = (1 : Int32) ∨ (x &&& (3 : Int32)) = (2 : Int32) ∨ (x &&& (3 : Int32)) = (3 : Int32) := by
  have e := Jvm.Kit.i32_mask x (3 : Int32) (k := 2) (by decide) (by decide)
  have h : (x &&& (3 : Int32)).toInt = 0 ∨ (x &&& (3 : Int32)).toInt = 1 ∨ (x &&& (3 : Int32)).toInt = 2 ∨ (x &&& (3 : Int32)).toInt = 3 := by omega
  rcases h with h | h | h | h
  · exact Or.inl (own_inj (h.trans (by decide)))
  · exact Or.inr (Or.inl (own_inj (h.trans (by decide))))
  · exact Or.inr (Or.inr (Or.inl (own_inj (h.trans (by decide)))))
  · exact Or.inr (Or.inr (Or.inr (own_inj (h.trans (by decide)))))
def World (Z : State) (h : Heap) (w_MIN_EXCL_VAT : Addr) (w_MIN_INCL_VAT : Addr) (w_MAX_INCL_VAT : Addr) (w_MAX_EXCL_VAT : Addr) : Prop := Sta Z h "com/example/nuthatch/nuthatch/tariff/PriceBound" "MIN_EXCL_VAT" "Lcom/example/nuthatch/nuthatch/tariff/PriceBound;" (.ref w_MIN_EXCL_VAT) ∧ Exa Z h w_MIN_EXCL_VAT "com/example/nuthatch/nuthatch/tariff/PriceBound" ∧ Sta Z h "com/example/nuthatch/nuthatch/tariff/PriceBound" "MIN_INCL_VAT" "Lcom/example/nuthatch/nuthatch/tariff/PriceBound;" (.ref w_MIN_INCL_VAT) ∧ Exa Z h w_MIN_INCL_VAT "com/example/nuthatch/nuthatch/tariff/PriceBound" ∧ Sta Z h "com/example/nuthatch/nuthatch/tariff/PriceBound" "MAX_INCL_VAT" "Lcom/example/nuthatch/nuthatch/tariff/PriceBound;" (.ref w_MAX_INCL_VAT) ∧ Exa Z h w_MAX_INCL_VAT "com/example/nuthatch/nuthatch/tariff/PriceBound" ∧ Sta Z h "com/example/nuthatch/nuthatch/tariff/PriceBound" "MAX_EXCL_VAT" "Lcom/example/nuthatch/nuthatch/tariff/PriceBound;" (.ref w_MAX_EXCL_VAT) ∧ Exa Z h w_MAX_EXCL_VAT "com/example/nuthatch/nuthatch/tariff/PriceBound" ∧ Fld Z h w_MIN_EXCL_VAT "java/lang/Enum" "ordinal" "I" (.int (0 : Int32)) ∧ Fld Z h w_MIN_INCL_VAT "java/lang/Enum" "ordinal" "I" (.int (1 : Int32)) ∧ Fld Z h w_MAX_INCL_VAT "java/lang/Enum" "ordinal" "I" (.int (3 : Int32)) ∧ Fld Z h w_MAX_EXCL_VAT "java/lang/Enum" "ordinal" "I" (.int (2 : Int32)) ∧ ¬ (w_MIN_EXCL_VAT = w_MIN_INCL_VAT) ∧ ¬ (w_MIN_EXCL_VAT = w_MAX_INCL_VAT) ∧ ¬ (w_MIN_EXCL_VAT = w_MAX_EXCL_VAT) ∧ ¬ (w_MIN_INCL_VAT = w_MAX_INCL_VAT) ∧ ¬ (w_MIN_INCL_VAT = w_MAX_EXCL_VAT) ∧ ¬ (w_MAX_INCL_VAT = w_MAX_EXCL_VAT) ∧ True
theorem World.ext {Z : State} {h h' : Heap} {w_MIN_EXCL_VAT : Addr} {w_MIN_INCL_VAT : Addr} {w_MAX_INCL_VAT : Addr} {w_MAX_EXCL_VAT : Addr} (E : Ext h h') (W : World Z h w_MIN_EXCL_VAT w_MIN_INCL_VAT w_MAX_INCL_VAT w_MAX_EXCL_VAT) : World Z h' w_MIN_EXCL_VAT w_MIN_INCL_VAT w_MAX_INCL_VAT w_MAX_EXCL_VAT := by
  obtain ⟨S_w_MIN_EXCL_VAT, E_w_MIN_EXCL_VAT, S_w_MIN_INCL_VAT, E_w_MIN_INCL_VAT, S_w_MAX_INCL_VAT, E_w_MAX_INCL_VAT, S_w_MAX_EXCL_VAT, E_w_MAX_EXCL_VAT, F_ordinal_w_MIN_EXCL_VAT, F_ordinal_w_MIN_INCL_VAT, F_ordinal_w_MAX_INCL_VAT, F_ordinal_w_MAX_EXCL_VAT, ne_w_MIN_EXCL_VAT_w_MIN_INCL_VAT, ne_w_MIN_EXCL_VAT_w_MAX_INCL_VAT, ne_w_MIN_EXCL_VAT_w_MAX_EXCL_VAT, ne_w_MIN_INCL_VAT_w_MAX_INCL_VAT, ne_w_MIN_INCL_VAT_w_MAX_EXCL_VAT, ne_w_MAX_INCL_VAT_w_MAX_EXCL_VAT, -⟩ := W
  exact ⟨S_w_MIN_EXCL_VAT.ext E, E_w_MIN_EXCL_VAT.ext E, S_w_MIN_INCL_VAT.ext E, E_w_MIN_INCL_VAT.ext E, S_w_MAX_INCL_VAT.ext E, E_w_MAX_INCL_VAT.ext E, S_w_MAX_EXCL_VAT.ext E, E_w_MAX_EXCL_VAT.ext E, F_ordinal_w_MIN_EXCL_VAT.ext E, F_ordinal_w_MIN_INCL_VAT.ext E, F_ordinal_w_MAX_INCL_VAT.ext E, F_ordinal_w_MAX_EXCL_VAT.ext E, ne_w_MIN_EXCL_VAT_w_MIN_INCL_VAT, ne_w_MIN_EXCL_VAT_w_MAX_INCL_VAT, ne_w_MIN_EXCL_VAT_w_MAX_EXCL_VAT, ne_w_MIN_INCL_VAT_w_MAX_INCL_VAT, ne_w_MIN_INCL_VAT_w_MAX_EXCL_VAT, ne_w_MAX_INCL_VAT_w_MAX_EXCL_VAT, trivial⟩
theorem d1_0 : decode method_2_code 0 = .ok (.iload_n 0, 1) := by decide +kernel
theorem d1_1 : decode method_2_code 1 = .ok (.ifCond .ne 7, 3) := by decide +kernel
theorem d1_4 : decode method_2_code 4 = .ok (.getstatic 7, 3) := by decide +kernel
theorem d1_7 : decode method_2_code 7 = .ok (.areturn, 1) := by decide +kernel
theorem ef5 (m : MethodId) (x0 : Int32) : entryFrame m #[(.int x0)] 1 = mkF m 0 #[.val (.int x0)] [] := by first | (simp [entryFrame, mkF, argsToLocals, Value.category]; done) | rfl
theorem pn6 : plainName "com/example/nuthatch/nuthatch/tariff/PriceBoundInclVatPinLaw" = true := by first | (simp [plainName, overriddenIn]; done) | decide +kernel
def Q1_0 (Z : State) (w_MIN_EXCL_VAT : Addr) (w_MIN_INCL_VAT : Addr) (w_MAX_INCL_VAT : Addr) (w_MAX_EXCL_VAT : Addr) (h0 : Heap) (n0 : Nat) (v : Option Value) (h : Heap) (L : List Loc) : Prop := v = some (.ref w_MIN_EXCL_VAT) ∧ Fr n0 L ∧ h = h0
set_option maxRecDepth 65536 in
set_option maxHeartbeats 40000000 in
theorem rm1_0 (l : Launch) (Z : State) (a0 : Array Value) (hw : ∀ d ∈ tables_1, d.before a0 Z = true) (ws : List Jvm.Cond) (w_MIN_EXCL_VAT : Addr) (w_MIN_INCL_VAT : Addr) (w_MAX_INCL_VAT : Addr) (w_MAX_EXCL_VAT : Addr) (h0 : Heap) (n0 : Nat) (Z0 : n0 ≤ h0.size) (HW : World Z h0 w_MIN_EXCL_VAT w_MIN_INCL_VAT w_MAX_INCL_VAT w_MAX_EXCL_VAT) :
    MetFree l (⟨"com/example/nuthatch/nuthatch/tariff/PriceBoundInclVatPinLaw", "pick", "(I)Lcom/example/nuthatch/nuthatch/tariff/PriceBound;"⟩ : MethodName) (head1 (Jvm.Cond.code (⟨"com/example/nuthatch/nuthatch/tariff/PriceBoundInclVatPinLaw", "pick", "(I)Lcom/example/nuthatch/nuthatch/tariff/PriceBound;"⟩ : MethodName) method_2_code 1 (some (.object "com/example/nuthatch/nuthatch/tariff/PriceBound")) :: ws) ({ frames := 0, cells := 0, slots := 0, locals := 0 } : Room)) (fun a U => a = #[(.int (0 : Int32))] ∧ Z.Warmed39 U.vm ∧ U.heap = h0) (fun _ _ _ _ _ => True) (fun _ U o U' => ∃ v L, o = .returned v ∧ Q1_0 Z w_MIN_EXCL_VAT w_MIN_INCL_VAT w_MAX_INCL_VAT w_MAX_EXCL_VAT h0 n0 v U'.heap L ∧ FrameEnd U o U' L ({ frames := 0, cells := 0, slots := 0, locals := 0 } : Room).cells ({ frames := 0, cells := 0, slots := 0, locals := 0 } : Room).slots) := by
  refine MetFree.of_bodySF (plainFor_of_name pn6) hisR ?_
  intro p e s m args below meth c s₁ Bd hml0 hP hK
  obtain ⟨rfl, hZ, hh⟩ := hP
  have hx := Bd.exec
  have hby := Bd.bytes
  have hml : c.maxLocals = 1 := hml0
  have hown : s.vm.findClass "com/example/nuthatch/nuthatch/tariff/PriceBoundInclVatPinLaw" = some m.cls := findClass_of_methodNamed Bd.named
  have X0 : Stand p l e ({ frames := 0, cells := 0, slots := 0, locals := 0 } : Room) s m #[(.int (0 : Int32))] below meth c s₁ [] 0 0 := Stand.of_body Bd
  have e0 : s₁.heap = h0 := by rw [← hh, Bd.state]; rfl
  have N0 := Fr.nil n0
  have pre0 : ∀ t, Steps p.tables e below (s₁.setTop (mkF m 0 #[.val (.int (0 : Int32))] [])) t → Steps p.tables e below (s₁.setTop (entryFrame m #[(.int (0 : Int32))] 1)) t := fun t k => castTop (ef5 m (0 : Int32)) k
  obtain ⟨S_w_MIN_EXCL_VAT, E_w_MIN_EXCL_VAT, S_w_MIN_INCL_VAT, E_w_MIN_INCL_VAT, S_w_MAX_INCL_VAT, E_w_MAX_INCL_VAT, S_w_MAX_EXCL_VAT, E_w_MAX_EXCL_VAT, F_ordinal_w_MIN_EXCL_VAT, F_ordinal_w_MIN_INCL_VAT, F_ordinal_w_MAX_INCL_VAT, F_ordinal_w_MAX_EXCL_VAT, ne_w_MIN_EXCL_VAT_w_MIN_INCL_VAT, ne_w_MIN_EXCL_VAT_w_MAX_INCL_VAT, ne_w_MIN_EXCL_VAT_w_MAX_EXCL_VAT, ne_w_MIN_INCL_VAT_w_MAX_INCL_VAT, ne_w_MIN_INCL_VAT_w_MAX_EXCL_VAT, ne_w_MAX_INCL_VAT_w_MAX_EXCL_VAT, -⟩ := id HW
  obtain ⟨T1, X1, e1, st1⟩ := getS2 X0 hx hZ hown (host := "") (Or.inl (hw _ (List.mem_of_getElem? (i := 4) rfl))) Via.refl e0 S_w_MIN_EXCL_VAT (g := (mkF m 4 #[.val (.int (0 : Int32))] [])) rfl (hb hby d1_4)
  obtain ⟨fs, hr, hrun, hended, hW, hsame⟩ := X1.leave (v := some (.ref w_MIN_EXCL_VAT)) (fun h => by rw [Bd.returns] at h; cases h)
  refine ⟨_, _, pre0 _ ?_, hrun, hended, _, _, rfl, ?_, ⟨_, rfl⟩, hW, hsame.mono (by decide) (by decide)⟩
  · show Steps p.tables e below (s₁.setTop (mkF m 0 #[.val (.int (0 : Int32))] [])) _
    refine XS.iloadN X0.here hx rfl (hb hby d1_0) rfl ?_
    show Steps p.tables e below (s₁.setTop (mkF m 1 #[.val (.int (0 : Int32))] [(.int (0 : Int32))])) _
    refine XS.ifNo X0.here hx rfl (hb hby d1_1) rfl ((if0 _ _).trans (teq (by decide : (0 : Int32) = (0 : Int32))).2) ?_
    show Steps p.tables e below (s₁.setTop (mkF m 4 #[.val (.int (0 : Int32))] [])) _
    refine st1 _ ?_
    show Steps p.tables e below (T1.setTop (mkF m 7 #[.val (.int (0 : Int32))] [(.ref w_MIN_EXCL_VAT)])) _
    jvm_step X1.here [X1.here.top, hx, (hb hby d1_7), X1.method', Bd.returns, Value.isRef, FieldType.isReference]
    first | (intro acts; rw [hr _ acts rfl rfl rfl]) | rw [hr _ _ rfl rfl rfl]
    exact Steps.refl _
  · exact ⟨rfl, N0, e1⟩
theorem pd7 : parseMethodDescriptor "(I)Lcom/example/nuthatch/nuthatch/tariff/PriceBound;" = some ⟨[.int], some (.object "com/example/nuthatch/nuthatch/tariff/PriceBound")⟩ := by decide +kernel
theorem d2_0 : decode prog_67_method_5_code 0 = .ok (.aload_n 0, 1) := by decide +kernel
theorem d2_1 : decode prog_67_method_5_code 1 = .ok (.getstatic 7, 3) := by decide +kernel
theorem d2_4 : decode prog_67_method_5_code 4 = .ok (.if_acmp .eq 10, 3) := by decide +kernel
theorem d2_7 : decode prog_67_method_5_code 7 = .ok (.aload_n 0, 1) := by decide +kernel
theorem d2_8 : decode prog_67_method_5_code 8 = .ok (.getstatic 13, 3) := by decide +kernel
theorem d2_11 : decode prog_67_method_5_code 11 = .ok (.if_acmp .ne 7, 3) := by decide +kernel
theorem d2_18 : decode prog_67_method_5_code 18 = .ok (.iconst 0, 1) := by decide +kernel
theorem d2_19 : decode prog_67_method_5_code 19 = .ok (.ireturn, 1) := by decide +kernel
theorem ef17 (m : MethodId) (x0 : Addr) : entryFrame m #[(.ref x0)] 1 = mkF m 0 #[.val (.ref x0)] [] := by first | (simp [entryFrame, mkF, argsToLocals, Value.category]; done) | rfl
theorem pn18 : plainName "com/example/nuthatch/nuthatch/tariff/PriceBound" = true := by first | (simp [plainName, overriddenIn]; done) | decide +kernel
def Q2_1 (Z : State) (w_MIN_EXCL_VAT : Addr) (w_MIN_INCL_VAT : Addr) (w_MAX_INCL_VAT : Addr) (w_MAX_EXCL_VAT : Addr) (h0 : Heap) (n0 : Nat) (v : Option Value) (h : Heap) (L : List Loc) : Prop := v = some (.int (0 : Int32)) ∧ Fr n0 L ∧ h = h0
set_option maxRecDepth 65536 in
set_option maxHeartbeats 40000000 in
theorem rm2_1 (l : Launch) (Z : State) (a0 : Array Value) (hw : ∀ d ∈ tables_1, d.before a0 Z = true) (ws : List Jvm.Cond) (w_MIN_EXCL_VAT : Addr) (w_MIN_INCL_VAT : Addr) (w_MAX_INCL_VAT : Addr) (w_MAX_EXCL_VAT : Addr) (h0 : Heap) (n0 : Nat) (Z0 : n0 ≤ h0.size) (HW : World Z h0 w_MIN_EXCL_VAT w_MIN_INCL_VAT w_MAX_INCL_VAT w_MAX_EXCL_VAT) :
    MetFree l (⟨"com/example/nuthatch/nuthatch/tariff/PriceBound", "inclVat", "()Z"⟩ : MethodName) (head1 (Jvm.Cond.code (⟨"com/example/nuthatch/nuthatch/tariff/PriceBound", "inclVat", "()Z"⟩ : MethodName) prog_67_method_5_code 1 (some .boolean) :: ws) ({ frames := 0, cells := 0, slots := 0, locals := 0 } : Room)) (fun a U => a = #[(.ref w_MIN_EXCL_VAT)] ∧ Z.Warmed39 U.vm ∧ U.heap = h0) (fun _ _ _ _ _ => True) (fun _ U o U' => ∃ v L, o = .returned v ∧ Q2_1 Z w_MIN_EXCL_VAT w_MIN_INCL_VAT w_MAX_INCL_VAT w_MAX_EXCL_VAT h0 n0 v U'.heap L ∧ FrameEnd U o U' L ({ frames := 0, cells := 0, slots := 0, locals := 0 } : Room).cells ({ frames := 0, cells := 0, slots := 0, locals := 0 } : Room).slots) := by
  refine MetFree.of_bodySF (plainFor_of_name pn18) hisR ?_
  intro p e s m args below meth c s₁ Bd hml0 hP hK
  obtain ⟨rfl, hZ, hh⟩ := hP
  have hx := Bd.exec
  have hby := Bd.bytes
  have hml : c.maxLocals = 1 := hml0
  have hown : s.vm.findClass "com/example/nuthatch/nuthatch/tariff/PriceBound" = some m.cls := findClass_of_methodNamed Bd.named
  have X0 : Stand p l e ({ frames := 0, cells := 0, slots := 0, locals := 0 } : Room) s m #[(.ref w_MIN_EXCL_VAT)] below meth c s₁ [] 0 0 := Stand.of_body Bd
  have e0 : s₁.heap = h0 := by rw [← hh, Bd.state]; rfl
  have N0 := Fr.nil n0
  have pre0 : ∀ t, Steps p.tables e below (s₁.setTop (mkF m 0 #[.val (.ref w_MIN_EXCL_VAT)] [])) t → Steps p.tables e below (s₁.setTop (entryFrame m #[(.ref w_MIN_EXCL_VAT)] 1)) t := fun t k => castTop (ef17 m w_MIN_EXCL_VAT) k
  obtain ⟨S_w_MIN_EXCL_VAT, E_w_MIN_EXCL_VAT, S_w_MIN_INCL_VAT, E_w_MIN_INCL_VAT, S_w_MAX_INCL_VAT, E_w_MAX_INCL_VAT, S_w_MAX_EXCL_VAT, E_w_MAX_EXCL_VAT, F_ordinal_w_MIN_EXCL_VAT, F_ordinal_w_MIN_INCL_VAT, F_ordinal_w_MAX_INCL_VAT, F_ordinal_w_MAX_EXCL_VAT, ne_w_MIN_EXCL_VAT_w_MIN_INCL_VAT, ne_w_MIN_EXCL_VAT_w_MAX_INCL_VAT, ne_w_MIN_EXCL_VAT_w_MAX_EXCL_VAT, ne_w_MIN_INCL_VAT_w_MAX_INCL_VAT, ne_w_MIN_INCL_VAT_w_MAX_EXCL_VAT, ne_w_MAX_INCL_VAT_w_MAX_EXCL_VAT, -⟩ := id HW
  obtain ⟨T1, X1, e1, st1⟩ := getS2 X0 hx hZ hown (host := "") (Or.inl (hw _ (List.mem_of_getElem? (i := 12) rfl))) Via.refl e0 S_w_MIN_INCL_VAT (g := (mkF m 1 #[.val (.ref w_MIN_EXCL_VAT)] [(.ref w_MIN_EXCL_VAT)])) rfl (hb hby d2_1)
  obtain ⟨T2, X2, e2, st2⟩ := getS2 X1 hx hZ hown (host := "") (Or.inl (hw _ (List.mem_of_getElem? (i := 14) rfl))) Via.refl e1 S_w_MAX_INCL_VAT (g := (mkF m 8 #[.val (.ref w_MIN_EXCL_VAT)] [(.ref w_MIN_EXCL_VAT)])) rfl (hb hby d2_8)
  obtain ⟨fs, hr, hrun, hended, hW, hsame⟩ := X2.leave (v := some (.int (0 : Int32))) (fun h => by rw [Bd.returns] at h; cases h)
  refine ⟨_, _, pre0 _ ?_, hrun, hended, _, _, rfl, ?_, ⟨_, rfl⟩, hW, hsame.mono (by decide) (by decide)⟩
  · show Steps p.tables e below (s₁.setTop (mkF m 0 #[.val (.ref w_MIN_EXCL_VAT)] [])) _
    refine XS.aloadN X0.here hx rfl (hb hby d2_0) rfl rfl ?_
    show Steps p.tables e below (s₁.setTop (mkF m 1 #[.val (.ref w_MIN_EXCL_VAT)] [(.ref w_MIN_EXCL_VAT)])) _
    refine st1 _ ?_
    show Steps p.tables e below (T1.setTop (mkF m 4 #[.val (.ref w_MIN_EXCL_VAT)] [(.ref w_MIN_INCL_VAT), (.ref w_MIN_EXCL_VAT)])) _
    refine Jvm.RoadKit.acmp (g := (mkF m 4 #[.val (.ref w_MIN_EXCL_VAT)] [(.ref w_MIN_INCL_VAT), (.ref w_MIN_EXCL_VAT)])) X1 hx rfl rfl rfl (pc0 := 4) (pc' := 7) (same := false) rfl (hb hby d2_4) rfl (decide_eq_false fun q => ne_w_MIN_EXCL_VAT_w_MIN_INCL_VAT (Value.ref.inj q)) (by decide) (by decide) ?_
    show Steps p.tables e below (T1.setTop (mkF m 7 #[.val (.ref w_MIN_EXCL_VAT)] [])) _
    refine XS.aloadN X1.here hx rfl (hb hby d2_7) rfl rfl ?_
    show Steps p.tables e below (T1.setTop (mkF m 8 #[.val (.ref w_MIN_EXCL_VAT)] [(.ref w_MIN_EXCL_VAT)])) _
    refine st2 _ ?_
    show Steps p.tables e below (T2.setTop (mkF m 11 #[.val (.ref w_MIN_EXCL_VAT)] [(.ref w_MAX_INCL_VAT), (.ref w_MIN_EXCL_VAT)])) _
    refine Jvm.RoadKit.acmp (g := (mkF m 11 #[.val (.ref w_MIN_EXCL_VAT)] [(.ref w_MAX_INCL_VAT), (.ref w_MIN_EXCL_VAT)])) X2 hx rfl rfl rfl (pc0 := 11) (pc' := 18) (same := false) rfl (hb hby d2_11) rfl (decide_eq_false fun q => ne_w_MIN_EXCL_VAT_w_MAX_INCL_VAT (Value.ref.inj q)) (by decide) (by decide) ?_
    show Steps p.tables e below (T2.setTop (mkF m 18 #[.val (.ref w_MIN_EXCL_VAT)] [])) _
    refine XS.iconst X2.here hx rfl (hb hby d2_18) ?_
    show Steps p.tables e below (T2.setTop (mkF m 19 #[.val (.ref w_MIN_EXCL_VAT)] [(.int (0 : Int32))])) _
    exact retN X2 hx (t := .boolean) Bd.returns (by simp) (hb hby d2_19) hr
  · exact ⟨rfl, N0, e2⟩
theorem pd19 : parseMethodDescriptor "()Z" = some ⟨[], some .boolean⟩ := by decide +kernel
theorem d3_0 : decode prog_67_method_6_code 0 = .ok (.aload_n 0, 1) := by decide +kernel
theorem d4_0 : decode prog_67_method_4_code 0 = .ok (.aload_n 0, 1) := by decide +kernel
theorem d4_1 : decode prog_67_method_4_code 1 = .ok (.getstatic 10, 3) := by decide +kernel
theorem d4_4 : decode prog_67_method_4_code 4 = .ok (.if_acmp .eq 10, 3) := by decide +kernel
theorem d4_7 : decode prog_67_method_4_code 7 = .ok (.aload_n 0, 1) := by decide +kernel
theorem d4_8 : decode prog_67_method_4_code 8 = .ok (.getstatic 13, 3) := by decide +kernel
theorem d4_11 : decode prog_67_method_4_code 11 = .ok (.if_acmp .ne 7, 3) := by decide +kernel
theorem d4_18 : decode prog_67_method_4_code 18 = .ok (.iconst 0, 1) := by decide +kernel
theorem d4_19 : decode prog_67_method_4_code 19 = .ok (.ireturn, 1) := by decide +kernel
theorem ef30 (m : MethodId) (x0 : Addr) : entryFrame m #[(.ref x0)] 1 = mkF m 0 #[.val (.ref x0)] [] := by first | (simp [entryFrame, mkF, argsToLocals, Value.category]; done) | rfl
def Q4_2 (Z : State) (w_MIN_EXCL_VAT : Addr) (w_MIN_INCL_VAT : Addr) (w_MAX_INCL_VAT : Addr) (w_MAX_EXCL_VAT : Addr) (h0 : Heap) (n0 : Nat) (v : Option Value) (h : Heap) (L : List Loc) : Prop := v = some (.int (0 : Int32)) ∧ Fr n0 L ∧ h = h0
set_option maxRecDepth 65536 in
set_option maxHeartbeats 40000000 in
theorem rm4_2 (l : Launch) (Z : State) (a0 : Array Value) (hw : ∀ d ∈ tables_1, d.before a0 Z = true) (ws : List Jvm.Cond) (w_MIN_EXCL_VAT : Addr) (w_MIN_INCL_VAT : Addr) (w_MAX_INCL_VAT : Addr) (w_MAX_EXCL_VAT : Addr) (h0 : Heap) (n0 : Nat) (Z0 : n0 ≤ h0.size) (HW : World Z h0 w_MIN_EXCL_VAT w_MIN_INCL_VAT w_MAX_INCL_VAT w_MAX_EXCL_VAT) :
    MetFree l (⟨"com/example/nuthatch/nuthatch/tariff/PriceBound", "isMaximum", "()Z"⟩ : MethodName) (head1 (Jvm.Cond.code (⟨"com/example/nuthatch/nuthatch/tariff/PriceBound", "isMaximum", "()Z"⟩ : MethodName) prog_67_method_4_code 1 (some .boolean) :: ws) ({ frames := 0, cells := 0, slots := 0, locals := 0 } : Room)) (fun a U => a = #[(.ref w_MIN_EXCL_VAT)] ∧ Z.Warmed39 U.vm ∧ U.heap = h0) (fun _ _ _ _ _ => True) (fun _ U o U' => ∃ v L, o = .returned v ∧ Q4_2 Z w_MIN_EXCL_VAT w_MIN_INCL_VAT w_MAX_INCL_VAT w_MAX_EXCL_VAT h0 n0 v U'.heap L ∧ FrameEnd U o U' L ({ frames := 0, cells := 0, slots := 0, locals := 0 } : Room).cells ({ frames := 0, cells := 0, slots := 0, locals := 0 } : Room).slots) := by
  refine MetFree.of_bodySF (plainFor_of_name pn18) hisR ?_
  intro p e s m args below meth c s₁ Bd hml0 hP hK
  obtain ⟨rfl, hZ, hh⟩ := hP
  have hx := Bd.exec
  have hby := Bd.bytes
  have hml : c.maxLocals = 1 := hml0
  have hown : s.vm.findClass "com/example/nuthatch/nuthatch/tariff/PriceBound" = some m.cls := findClass_of_methodNamed Bd.named
  have X0 : Stand p l e ({ frames := 0, cells := 0, slots := 0, locals := 0 } : Room) s m #[(.ref w_MIN_EXCL_VAT)] below meth c s₁ [] 0 0 := Stand.of_body Bd
  have e0 : s₁.heap = h0 := by rw [← hh, Bd.state]; rfl
  have N0 := Fr.nil n0
  have pre0 : ∀ t, Steps p.tables e below (s₁.setTop (mkF m 0 #[.val (.ref w_MIN_EXCL_VAT)] [])) t → Steps p.tables e below (s₁.setTop (entryFrame m #[(.ref w_MIN_EXCL_VAT)] 1)) t := fun t k => castTop (ef30 m w_MIN_EXCL_VAT) k
  obtain ⟨S_w_MIN_EXCL_VAT, E_w_MIN_EXCL_VAT, S_w_MIN_INCL_VAT, E_w_MIN_INCL_VAT, S_w_MAX_INCL_VAT, E_w_MAX_INCL_VAT, S_w_MAX_EXCL_VAT, E_w_MAX_EXCL_VAT, F_ordinal_w_MIN_EXCL_VAT, F_ordinal_w_MIN_INCL_VAT, F_ordinal_w_MAX_INCL_VAT, F_ordinal_w_MAX_EXCL_VAT, ne_w_MIN_EXCL_VAT_w_MIN_INCL_VAT, ne_w_MIN_EXCL_VAT_w_MAX_INCL_VAT, ne_w_MIN_EXCL_VAT_w_MAX_EXCL_VAT, ne_w_MIN_INCL_VAT_w_MAX_INCL_VAT, ne_w_MIN_INCL_VAT_w_MAX_EXCL_VAT, ne_w_MAX_INCL_VAT_w_MAX_EXCL_VAT, -⟩ := id HW
  obtain ⟨T1, X1, e1, st1⟩ := getS2 X0 hx hZ hown (host := "") (Or.inl (hw _ (List.mem_of_getElem? (i := 26) rfl))) Via.refl e0 S_w_MAX_EXCL_VAT (g := (mkF m 1 #[.val (.ref w_MIN_EXCL_VAT)] [(.ref w_MIN_EXCL_VAT)])) rfl (hb hby d4_1)
  obtain ⟨T2, X2, e2, st2⟩ := getS2 X1 hx hZ hown (host := "") (Or.inl (hw _ (List.mem_of_getElem? (i := 14) rfl))) Via.refl e1 S_w_MAX_INCL_VAT (g := (mkF m 8 #[.val (.ref w_MIN_EXCL_VAT)] [(.ref w_MIN_EXCL_VAT)])) rfl (hb hby d4_8)
  obtain ⟨fs, hr, hrun, hended, hW, hsame⟩ := X2.leave (v := some (.int (0 : Int32))) (fun h => by rw [Bd.returns] at h; cases h)
  refine ⟨_, _, pre0 _ ?_, hrun, hended, _, _, rfl, ?_, ⟨_, rfl⟩, hW, hsame.mono (by decide) (by decide)⟩
  · show Steps p.tables e below (s₁.setTop (mkF m 0 #[.val (.ref w_MIN_EXCL_VAT)] [])) _
    refine XS.aloadN X0.here hx rfl (hb hby d4_0) rfl rfl ?_
    show Steps p.tables e below (s₁.setTop (mkF m 1 #[.val (.ref w_MIN_EXCL_VAT)] [(.ref w_MIN_EXCL_VAT)])) _
    refine st1 _ ?_
    show Steps p.tables e below (T1.setTop (mkF m 4 #[.val (.ref w_MIN_EXCL_VAT)] [(.ref w_MAX_EXCL_VAT), (.ref w_MIN_EXCL_VAT)])) _
    refine Jvm.RoadKit.acmp (g := (mkF m 4 #[.val (.ref w_MIN_EXCL_VAT)] [(.ref w_MAX_EXCL_VAT), (.ref w_MIN_EXCL_VAT)])) X1 hx rfl rfl rfl (pc0 := 4) (pc' := 7) (same := false) rfl (hb hby d4_4) rfl (decide_eq_false fun q => ne_w_MIN_EXCL_VAT_w_MAX_EXCL_VAT (Value.ref.inj q)) (by decide) (by decide) ?_
    show Steps p.tables e below (T1.setTop (mkF m 7 #[.val (.ref w_MIN_EXCL_VAT)] [])) _
    refine XS.aloadN X1.here hx rfl (hb hby d4_7) rfl rfl ?_
    show Steps p.tables e below (T1.setTop (mkF m 8 #[.val (.ref w_MIN_EXCL_VAT)] [(.ref w_MIN_EXCL_VAT)])) _
    refine st2 _ ?_
    show Steps p.tables e below (T2.setTop (mkF m 11 #[.val (.ref w_MIN_EXCL_VAT)] [(.ref w_MAX_INCL_VAT), (.ref w_MIN_EXCL_VAT)])) _
    refine Jvm.RoadKit.acmp (g := (mkF m 11 #[.val (.ref w_MIN_EXCL_VAT)] [(.ref w_MAX_INCL_VAT), (.ref w_MIN_EXCL_VAT)])) X2 hx rfl rfl rfl (pc0 := 11) (pc' := 18) (same := false) rfl (hb hby d4_11) rfl (decide_eq_false fun q => ne_w_MIN_EXCL_VAT_w_MAX_INCL_VAT (Value.ref.inj q)) (by decide) (by decide) ?_
    show Steps p.tables e below (T2.setTop (mkF m 18 #[.val (.ref w_MIN_EXCL_VAT)] [])) _
    refine XS.iconst X2.here hx rfl (hb hby d4_18) ?_
    show Steps p.tables e below (T2.setTop (mkF m 19 #[.val (.ref w_MIN_EXCL_VAT)] [(.int (0 : Int32))])) _
    exact retN X2 hx (t := .boolean) Bd.returns (by simp) (hb hby d4_19) hr
  · exact ⟨rfl, N0, e2⟩
theorem d3_1 : decode prog_67_method_6_code 1 = .ok (.invokevirtual 35, 3) := by decide +kernel
theorem d3_4 : decode prog_67_method_6_code 4 = .ok (.ifCond .eq 9, 3) := by decide +kernel
theorem d3_13 : decode prog_67_method_6_code 13 = .ok (.getstatic 7, 3) := by decide +kernel
theorem d3_16 : decode prog_67_method_6_code 16 = .ok (.areturn, 1) := by decide +kernel
theorem ef36 (m : MethodId) (x0 : Addr) : entryFrame m #[(.ref x0)] 1 = mkF m 0 #[.val (.ref x0)] [] := by first | (simp [entryFrame, mkF, argsToLocals, Value.category]; done) | rfl
def Q3_3 (Z : State) (w_MIN_EXCL_VAT : Addr) (w_MIN_INCL_VAT : Addr) (w_MAX_INCL_VAT : Addr) (w_MAX_EXCL_VAT : Addr) (h0 : Heap) (n0 : Nat) (v : Option Value) (h : Heap) (L : List Loc) : Prop := v = some (.ref w_MIN_INCL_VAT) ∧ Fr n0 L ∧ h = h0
set_option maxRecDepth 65536 in
set_option maxHeartbeats 40000000 in
theorem rm3_3 (l : Launch) (Z : State) (a0 : Array Value) (hw : ∀ d ∈ tables_1, d.before a0 Z = true) (ws : List Jvm.Cond) (w_MIN_EXCL_VAT : Addr) (w_MIN_INCL_VAT : Addr) (w_MAX_INCL_VAT : Addr) (w_MAX_EXCL_VAT : Addr) (h0 : Heap) (n0 : Nat) (Z0 : n0 ≤ h0.size) (HW : World Z h0 w_MIN_EXCL_VAT w_MIN_INCL_VAT w_MAX_INCL_VAT w_MAX_EXCL_VAT) :
    MetFree l (⟨"com/example/nuthatch/nuthatch/tariff/PriceBound", "onInclVat", "()Lcom/example/nuthatch/nuthatch/tariff/PriceBound;"⟩ : MethodName) (head1 (Jvm.Cond.code (⟨"com/example/nuthatch/nuthatch/tariff/PriceBound", "onInclVat", "()Lcom/example/nuthatch/nuthatch/tariff/PriceBound;"⟩ : MethodName) prog_67_method_6_code 1 (some (.object "com/example/nuthatch/nuthatch/tariff/PriceBound")) :: ws) ({ frames := 1, cells := 0, slots := 0, locals := 12 } : Room)) (fun a U => a = #[(.ref w_MIN_EXCL_VAT)] ∧ Z.Warmed39 U.vm ∧ U.heap = h0) (fun _ _ _ _ _ => True) (fun _ U o U' => ∃ v L, o = .returned v ∧ Q3_3 Z w_MIN_EXCL_VAT w_MIN_INCL_VAT w_MAX_INCL_VAT w_MAX_EXCL_VAT h0 n0 v U'.heap L ∧ FrameEnd U o U' L ({ frames := 1, cells := 0, slots := 0, locals := 12 } : Room).cells ({ frames := 1, cells := 0, slots := 0, locals := 12 } : Room).slots) := by
  refine MetFree.of_bodySF (plainFor_of_name pn18) hisR ?_
  intro p e s m args below meth c s₁ Bd hml0 hP hK
  obtain ⟨rfl, hZ, hh⟩ := hP
  have hx := Bd.exec
  have hby := Bd.bytes
  have hml : c.maxLocals = 1 := hml0
  have hown : s.vm.findClass "com/example/nuthatch/nuthatch/tariff/PriceBound" = some m.cls := findClass_of_methodNamed Bd.named
  have X0 : Stand p l e ({ frames := 1, cells := 0, slots := 0, locals := 12 } : Room) s m #[(.ref w_MIN_EXCL_VAT)] below meth c s₁ [] 0 0 := Stand.of_body Bd
  have e0 : s₁.heap = h0 := by rw [← hh, Bd.state]; rfl
  have N0 := Fr.nil n0
  have pre0 : ∀ t, Steps p.tables e below (s₁.setTop (mkF m 0 #[.val (.ref w_MIN_EXCL_VAT)] [])) t → Steps p.tables e below (s₁.setTop (entryFrame m #[(.ref w_MIN_EXCL_VAT)] 1)) t := fun t k => castTop (ef36 m w_MIN_EXCL_VAT) k
  obtain ⟨S_w_MIN_EXCL_VAT, E_w_MIN_EXCL_VAT, S_w_MIN_INCL_VAT, E_w_MIN_INCL_VAT, S_w_MAX_INCL_VAT, E_w_MAX_INCL_VAT, S_w_MAX_EXCL_VAT, E_w_MAX_EXCL_VAT, F_ordinal_w_MIN_EXCL_VAT, F_ordinal_w_MIN_INCL_VAT, F_ordinal_w_MAX_INCL_VAT, F_ordinal_w_MAX_EXCL_VAT, ne_w_MIN_EXCL_VAT_w_MIN_INCL_VAT, ne_w_MIN_EXCL_VAT_w_MAX_INCL_VAT, ne_w_MIN_EXCL_VAT_w_MAX_EXCL_VAT, ne_w_MIN_INCL_VAT_w_MAX_INCL_VAT, ne_w_MIN_INCL_VAT_w_MAX_EXCL_VAT, ne_w_MAX_INCL_VAT_w_MAX_EXCL_VAT, -⟩ := id HW
  obtain ⟨cq1, kq1, q1a, q1b, q1c⟩ := isOf hZ e0 E_w_MIN_EXCL_VAT
  obtain ⟨_, _, ⟨T1, L1, k1, n1⟩, -, X1, ⟨Lc1, hQ1, l1, y1, z1⟩, st1⟩ := X0.virtualBack hx (y := (⟨"com/example/nuthatch/nuthatch/tariff/PriceBound", "isMaximum", "()Z"⟩ : MethodName)) (z := (⟨"com/example/nuthatch/nuthatch/tariff/PriceBound", "isMaximum", "()Z"⟩ : MethodName)) hown (mvT hZ (hw _ (List.mem_of_getElem? (i := 21) rfl))) (mvT hZ (hw _ (List.mem_of_getElem? (i := 22) rfl))) (notFace_of_selects (args := #[]) (mvT hZ (hw _ (List.mem_of_getElem? (i := 24) rfl)))) (mvT hZ (hw _ (List.mem_of_getElem? (i := 24) rfl))) (mvT hZ (hw _ (List.mem_of_getElem? (i := 23) rfl))) (by decide) (backOf (W := 0) (rm4_2 l Z a0 hw [] w_MIN_EXCL_VAT w_MIN_INCL_VAT w_MAX_INCL_VAT w_MAX_EXCL_VAT h0 n0 Z0 HW) hZ (hw _ (List.mem_of_getElem? (i := 25) rfl)) (hw _ (List.mem_of_getElem? (i := 5) rfl)) (by decide) (by decide)) q1a q1c (g := (mkF m 1 #[.val (.ref w_MIN_EXCL_VAT)] [(.ref w_MIN_EXCL_VAT)])) rfl (by rw [hml]; rfl) (Steps.refl _) (argsL := []) (rest := []) (lenOf pd19 rfl) rfl (by show 2 * 0 + _ ≤ _; exact Nat.le_of_eq rfl) (hb hby d3_1) (fun _ _ => ⟨rfl, e0, (by decide : 0 + 0 ≤ _), (by decide : 0 + 0 ≤ _)⟩)
  dsimp only [Pt.U, Pt.locs, Pt.cells, Pt.slots] at X1 l1 y1 z1 st1 hQ1
  subst l1 y1 z1
  obtain ⟨rfl, N1q, e1⟩ := hQ1
  have N1 := Fr.app N0 N1q
  obtain ⟨T2, X2, e2, st2⟩ := getS2 X1 hx hZ hown (host := "") (Or.inl (hw _ (List.mem_of_getElem? (i := 12) rfl))) Via.refl e1 S_w_MIN_INCL_VAT (g := (mkF m 13 #[.val (.ref w_MIN_EXCL_VAT)] [])) rfl (hb hby d3_13)
  obtain ⟨fs, hr, hrun, hended, hW, hsame⟩ := X2.leave (v := some (.ref w_MIN_INCL_VAT)) (fun h => by rw [Bd.returns] at h; cases h)
  refine ⟨_, _, pre0 _ ?_, hrun, hended, _, _, rfl, ?_, ⟨_, rfl⟩, hW, hsame.mono (by decide) (by decide)⟩
  · show Steps p.tables e below (s₁.setTop (mkF m 0 #[.val (.ref w_MIN_EXCL_VAT)] [])) _
    refine XS.aloadN X0.here hx rfl (hb hby d3_0) rfl rfl ?_
    show Steps p.tables e below (s₁.setTop (mkF m 1 #[.val (.ref w_MIN_EXCL_VAT)] [(.ref w_MIN_EXCL_VAT)])) _
    refine st1.trans ?_
    show Steps p.tables e below (T1.setTop (mkF m 4 #[.val (.ref w_MIN_EXCL_VAT)] [(.int (0 : Int32))])) _
    refine XS.ifYes X1.here hx rfl (pc0 := 4) (pc' := 13) rfl (hb hby d3_4) rfl ((if0 _ _).trans (teq (by decide : (0 : Int32) = (0 : Int32))).1) (by decide) (by decide) ?_
    show Steps p.tables e below (T1.setTop (mkF m 13 #[.val (.ref w_MIN_EXCL_VAT)] [])) _
    refine st2 _ ?_
    show Steps p.tables e below (T2.setTop (mkF m 16 #[.val (.ref w_MIN_EXCL_VAT)] [(.ref w_MIN_INCL_VAT)])) _
    jvm_step X2.here [X2.here.top, hx, (hb hby d3_16), X2.method', Bd.returns, Value.isRef, FieldType.isReference]
    first | (intro acts; rw [hr _ acts rfl rfl rfl]) | rw [hr _ _ rfl rfl rfl]
    exact Steps.refl _
  · exact ⟨rfl, N1, e2⟩
theorem pd37 : parseMethodDescriptor "()Lcom/example/nuthatch/nuthatch/tariff/PriceBound;" = some ⟨[], some (.object "com/example/nuthatch/nuthatch/tariff/PriceBound")⟩ := by decide +kernel
theorem d5_0 : decode prog_67_method_7_code 0 = .ok (.aload_n 0, 1) := by decide +kernel
theorem d6_0 : decode jdk_37_method_2_code 0 = .ok (.aload_n 0, 1) := by decide +kernel
theorem d6_1 : decode jdk_37_method_2_code 1 = .ok (.getfield 7, 3) := by decide +kernel
theorem d6_4 : decode jdk_37_method_2_code 4 = .ok (.ireturn, 1) := by decide +kernel
theorem ef43 (m : MethodId) (x0 : Addr) : entryFrame m #[(.ref x0)] 1 = mkF m 0 #[.val (.ref x0)] [] := by first | (simp [entryFrame, mkF, argsToLocals, Value.category]; done) | rfl
theorem pn44 : plainName "java/lang/Enum" = true := by first | (simp [plainName, overriddenIn]; done) | decide +kernel
def Q6_4 (Z : State) (w_MIN_EXCL_VAT : Addr) (w_MIN_INCL_VAT : Addr) (w_MAX_INCL_VAT : Addr) (w_MAX_EXCL_VAT : Addr) (h0 : Heap) (n0 : Nat) (v : Option Value) (h : Heap) (L : List Loc) : Prop := v = some (.int (0 : Int32)) ∧ Fr n0 L ∧ h = h0
set_option maxRecDepth 65536 in
set_option maxHeartbeats 40000000 in
theorem rm6_4 (l : Launch) (Z : State) (a0 : Array Value) (hw : ∀ d ∈ tables_1, d.before a0 Z = true) (ws : List Jvm.Cond) (w_MIN_EXCL_VAT : Addr) (w_MIN_INCL_VAT : Addr) (w_MAX_INCL_VAT : Addr) (w_MAX_EXCL_VAT : Addr) (h0 : Heap) (n0 : Nat) (Z0 : n0 ≤ h0.size) (HW : World Z h0 w_MIN_EXCL_VAT w_MIN_INCL_VAT w_MAX_INCL_VAT w_MAX_EXCL_VAT) :
    MetFree l (⟨"java/lang/Enum", "ordinal", "()I"⟩ : MethodName) (head1 (Jvm.Cond.code (⟨"java/lang/Enum", "ordinal", "()I"⟩ : MethodName) jdk_37_method_2_code 1 (some .int) :: ws) ({ frames := 0, cells := 0, slots := 0, locals := 0 } : Room)) (fun a U => a = #[(.ref w_MIN_EXCL_VAT)] ∧ Z.Warmed39 U.vm ∧ U.heap = h0) (fun _ _ _ _ _ => True) (fun _ U o U' => ∃ v L, o = .returned v ∧ Q6_4 Z w_MIN_EXCL_VAT w_MIN_INCL_VAT w_MAX_INCL_VAT w_MAX_EXCL_VAT h0 n0 v U'.heap L ∧ FrameEnd U o U' L ({ frames := 0, cells := 0, slots := 0, locals := 0 } : Room).cells ({ frames := 0, cells := 0, slots := 0, locals := 0 } : Room).slots) := by
  refine MetFree.of_bodySF (plainFor_of_name pn44) hisR ?_
  intro p e s m args below meth c s₁ Bd hml0 hP hK
  obtain ⟨rfl, hZ, hh⟩ := hP
  have hx := Bd.exec
  have hby := Bd.bytes
  have hml : c.maxLocals = 1 := hml0
  have hown : s.vm.findClass "java/lang/Enum" = some m.cls := findClass_of_methodNamed Bd.named
  have X0 : Stand p l e ({ frames := 0, cells := 0, slots := 0, locals := 0 } : Room) s m #[(.ref w_MIN_EXCL_VAT)] below meth c s₁ [] 0 0 := Stand.of_body Bd
  have e0 : s₁.heap = h0 := by rw [← hh, Bd.state]; rfl
  have N0 := Fr.nil n0
  have pre0 : ∀ t, Steps p.tables e below (s₁.setTop (mkF m 0 #[.val (.ref w_MIN_EXCL_VAT)] [])) t → Steps p.tables e below (s₁.setTop (entryFrame m #[(.ref w_MIN_EXCL_VAT)] 1)) t := fun t k => castTop (ef43 m w_MIN_EXCL_VAT) k
  obtain ⟨S_w_MIN_EXCL_VAT, E_w_MIN_EXCL_VAT, S_w_MIN_INCL_VAT, E_w_MIN_INCL_VAT, S_w_MAX_INCL_VAT, E_w_MAX_INCL_VAT, S_w_MAX_EXCL_VAT, E_w_MAX_EXCL_VAT, F_ordinal_w_MIN_EXCL_VAT, F_ordinal_w_MIN_INCL_VAT, F_ordinal_w_MAX_INCL_VAT, F_ordinal_w_MAX_EXCL_VAT, ne_w_MIN_EXCL_VAT_w_MIN_INCL_VAT, ne_w_MIN_EXCL_VAT_w_MAX_INCL_VAT, ne_w_MIN_EXCL_VAT_w_MAX_EXCL_VAT, ne_w_MIN_INCL_VAT_w_MAX_INCL_VAT, ne_w_MIN_INCL_VAT_w_MAX_EXCL_VAT, ne_w_MAX_INCL_VAT_w_MAX_EXCL_VAT, -⟩ := id HW
  obtain ⟨T1, X1, e1, st1⟩ := getF X0 hx hZ hown (host := "") (Or.inl (hw _ (List.mem_of_getElem? (i := 40) rfl))) Via.refl e0 F_ordinal_w_MIN_EXCL_VAT (g := (mkF m 1 #[.val (.ref w_MIN_EXCL_VAT)] [(.ref w_MIN_EXCL_VAT)])) rfl rfl (hb hby d6_1)
  obtain ⟨fs, hr, hrun, hended, hW, hsame⟩ := X1.leave (v := some (.int (0 : Int32))) (fun h => by rw [Bd.returns] at h; cases h)
  refine ⟨_, _, pre0 _ ?_, hrun, hended, _, _, rfl, ?_, ⟨_, rfl⟩, hW, hsame.mono (by decide) (by decide)⟩
  · show Steps p.tables e below (s₁.setTop (mkF m 0 #[.val (.ref w_MIN_EXCL_VAT)] [])) _
    refine XS.aloadN X0.here hx rfl (hb hby d6_0) rfl rfl ?_
    show Steps p.tables e below (s₁.setTop (mkF m 1 #[.val (.ref w_MIN_EXCL_VAT)] [(.ref w_MIN_EXCL_VAT)])) _
    refine st1 _ ?_
    show Steps p.tables e below (T1.setTop (mkF m 4 #[.val (.ref w_MIN_EXCL_VAT)] [(.int (0 : Int32))])) _
    exact Jvm.RoadKit.retI X1 hx Bd.returns (hb hby d6_4) hr
  · exact ⟨rfl, N0, e1⟩
theorem pd45 : parseMethodDescriptor "()I" = some ⟨[], some .int⟩ := by decide +kernel
theorem d5_1 : decode prog_67_method_7_code 1 = .ok (.invokevirtual 39, 3) := by decide +kernel
theorem d5_4 : decode prog_67_method_7_code 4 = .ok (.tableswitch 32 0 3 #[42, 48, 54, 60], 32) := by decide +kernel
theorem d5_46 : decode prog_67_method_7_code 46 = .ok (.getstatic 10, 3) := by decide +kernel
theorem d5_49 : decode prog_67_method_7_code 49 = .ok (.goto 18, 3) := by decide +kernel
theorem d5_67 : decode prog_67_method_7_code 67 = .ok (.areturn, 1) := by decide +kernel
theorem ef52 (m : MethodId) (x0 : Addr) : entryFrame m #[(.ref x0)] 1 = mkF m 0 #[.val (.ref x0)] [] := by first | (simp [entryFrame, mkF, argsToLocals, Value.category]; done) | rfl
def Q5_5 (Z : State) (w_MIN_EXCL_VAT : Addr) (w_MIN_INCL_VAT : Addr) (w_MAX_INCL_VAT : Addr) (w_MAX_EXCL_VAT : Addr) (h0 : Heap) (n0 : Nat) (v : Option Value) (h : Heap) (L : List Loc) : Prop := v = some (.ref w_MAX_EXCL_VAT) ∧ Fr n0 L ∧ h = h0
set_option maxRecDepth 65536 in
set_option maxHeartbeats 40000000 in
theorem rm5_5 (l : Launch) (Z : State) (a0 : Array Value) (hw : ∀ d ∈ tables_1, d.before a0 Z = true) (ws : List Jvm.Cond) (w_MIN_EXCL_VAT : Addr) (w_MIN_INCL_VAT : Addr) (w_MAX_INCL_VAT : Addr) (w_MAX_EXCL_VAT : Addr) (h0 : Heap) (n0 : Nat) (Z0 : n0 ≤ h0.size) (HW : World Z h0 w_MIN_EXCL_VAT w_MIN_INCL_VAT w_MAX_INCL_VAT w_MAX_EXCL_VAT) :
    MetFree l (⟨"com/example/nuthatch/nuthatch/tariff/PriceBound", "opposite", "()Lcom/example/nuthatch/nuthatch/tariff/PriceBound;"⟩ : MethodName) (head1 (Jvm.Cond.code (⟨"com/example/nuthatch/nuthatch/tariff/PriceBound", "opposite", "()Lcom/example/nuthatch/nuthatch/tariff/PriceBound;"⟩ : MethodName) prog_67_method_7_code 1 (some (.object "com/example/nuthatch/nuthatch/tariff/PriceBound")) :: ws) ({ frames := 1, cells := 0, slots := 0, locals := 12 } : Room)) (fun a U => a = #[(.ref w_MIN_EXCL_VAT)] ∧ Z.Warmed39 U.vm ∧ U.heap = h0) (fun _ _ _ _ _ => True) (fun _ U o U' => ∃ v L, o = .returned v ∧ Q5_5 Z w_MIN_EXCL_VAT w_MIN_INCL_VAT w_MAX_INCL_VAT w_MAX_EXCL_VAT h0 n0 v U'.heap L ∧ FrameEnd U o U' L ({ frames := 1, cells := 0, slots := 0, locals := 12 } : Room).cells ({ frames := 1, cells := 0, slots := 0, locals := 12 } : Room).slots) := by
  refine MetFree.of_bodySF (plainFor_of_name pn18) hisR ?_
  intro p e s m args below meth c s₁ Bd hml0 hP hK
  obtain ⟨rfl, hZ, hh⟩ := hP
  have hx := Bd.exec
  have hby := Bd.bytes
  have hml : c.maxLocals = 1 := hml0
  have hown : s.vm.findClass "com/example/nuthatch/nuthatch/tariff/PriceBound" = some m.cls := findClass_of_methodNamed Bd.named
  have X0 : Stand p l e ({ frames := 1, cells := 0, slots := 0, locals := 12 } : Room) s m #[(.ref w_MIN_EXCL_VAT)] below meth c s₁ [] 0 0 := Stand.of_body Bd
  have e0 : s₁.heap = h0 := by rw [← hh, Bd.state]; rfl
  have N0 := Fr.nil n0
  have pre0 : ∀ t, Steps p.tables e below (s₁.setTop (mkF m 0 #[.val (.ref w_MIN_EXCL_VAT)] [])) t → Steps p.tables e below (s₁.setTop (entryFrame m #[(.ref w_MIN_EXCL_VAT)] 1)) t := fun t k => castTop (ef52 m w_MIN_EXCL_VAT) k
  obtain ⟨S_w_MIN_EXCL_VAT, E_w_MIN_EXCL_VAT, S_w_MIN_INCL_VAT, E_w_MIN_INCL_VAT, S_w_MAX_INCL_VAT, E_w_MAX_INCL_VAT, S_w_MAX_EXCL_VAT, E_w_MAX_EXCL_VAT, F_ordinal_w_MIN_EXCL_VAT, F_ordinal_w_MIN_INCL_VAT, F_ordinal_w_MAX_INCL_VAT, F_ordinal_w_MAX_EXCL_VAT, ne_w_MIN_EXCL_VAT_w_MIN_INCL_VAT, ne_w_MIN_EXCL_VAT_w_MAX_INCL_VAT, ne_w_MIN_EXCL_VAT_w_MAX_EXCL_VAT, ne_w_MIN_INCL_VAT_w_MAX_INCL_VAT, ne_w_MIN_INCL_VAT_w_MAX_EXCL_VAT, ne_w_MAX_INCL_VAT_w_MAX_EXCL_VAT, -⟩ := id HW
  obtain ⟨cq1, kq1, q1a, q1b, q1c⟩ := isOf hZ e0 E_w_MIN_EXCL_VAT
  obtain ⟨_, _, ⟨T1, L1, k1, n1⟩, -, X1, ⟨Lc1, hQ1, l1, y1, z1⟩, st1⟩ := X0.virtualBackUp hx (x := (⟨"com/example/nuthatch/nuthatch/tariff/PriceBound", "ordinal", "()I"⟩ : MethodName)) (y := (⟨"java/lang/Enum", "ordinal", "()I"⟩ : MethodName)) hown (mvT hZ (hw _ (List.mem_of_getElem? (i := 33) rfl))) (mvT hZ (hw _ (List.mem_of_getElem? (i := 34) rfl))) (mvT hZ (hw _ (List.mem_of_getElem? (i := 35) rfl))) (by decide) (mvT hZ (hw _ (List.mem_of_getElem? (i := 37) rfl))) (mvT hZ (hw _ (List.mem_of_getElem? (i := 36) rfl))) (backOf (W := 0) (rm6_4 l Z a0 hw [] w_MIN_EXCL_VAT w_MIN_INCL_VAT w_MAX_INCL_VAT w_MAX_EXCL_VAT h0 n0 Z0 HW) hZ (hw _ (List.mem_of_getElem? (i := 39) rfl)) (hw _ (List.mem_of_getElem? (i := 38) rfl)) (by decide) (by decide)) q1a q1c (g := (mkF m 1 #[.val (.ref w_MIN_EXCL_VAT)] [(.ref w_MIN_EXCL_VAT)])) rfl (by rw [hml]; rfl) (Steps.refl _) (argsL := []) (rest := []) (lenOf pd45 rfl) rfl (by show 2 * 0 + _ ≤ _; exact Nat.le_of_eq rfl) (hb hby d5_1) (fun _ _ => ⟨rfl, e0, (by decide : 0 + 0 ≤ _), (by decide : 0 + 0 ≤ _)⟩)
  dsimp only [Pt.U, Pt.locs, Pt.cells, Pt.slots] at X1 l1 y1 z1 st1 hQ1
  subst l1 y1 z1
  obtain ⟨rfl, N1q, e1⟩ := hQ1
  have N1 := Fr.app N0 N1q
  obtain ⟨T2, X2, e2, st2⟩ := getS2 X1 hx hZ hown (host := "") (Or.inl (hw _ (List.mem_of_getElem? (i := 26) rfl))) Via.refl e1 S_w_MAX_EXCL_VAT (g := (mkF m 46 #[.val (.ref w_MIN_EXCL_VAT)] [])) rfl (hb hby d5_46)
  obtain ⟨fs, hr, hrun, hended, hW, hsame⟩ := X2.leave (v := some (.ref w_MAX_EXCL_VAT)) (fun h => by rw [Bd.returns] at h; cases h)
  refine ⟨_, _, pre0 _ ?_, hrun, hended, _, _, rfl, ?_, ⟨_, rfl⟩, hW, hsame.mono (by decide) (by decide)⟩
  · show Steps p.tables e below (s₁.setTop (mkF m 0 #[.val (.ref w_MIN_EXCL_VAT)] [])) _
    refine XS.aloadN X0.here hx rfl (hb hby d5_0) rfl rfl ?_
    show Steps p.tables e below (s₁.setTop (mkF m 1 #[.val (.ref w_MIN_EXCL_VAT)] [(.ref w_MIN_EXCL_VAT)])) _
    refine st1.trans ?_
    show Steps p.tables e below (T1.setTop (mkF m 4 #[.val (.ref w_MIN_EXCL_VAT)] [(.int (0 : Int32))])) _
    refine XS.tswIn X1.here hx rfl (pc0 := 4) (pc' := 46) rfl (hb hby d5_4) rfl (by decide) (o := 42) (by decide) (by decide) (by decide) ?_
    show Steps p.tables e below (T1.setTop (mkF m 46 #[.val (.ref w_MIN_EXCL_VAT)] [])) _
    refine st2 _ ?_
    show Steps p.tables e below (T2.setTop (mkF m 49 #[.val (.ref w_MIN_EXCL_VAT)] [(.ref w_MAX_EXCL_VAT)])) _
    refine XS.goto X2.here hx rfl (pc0 := 49) (pc' := 67) rfl (hb hby d5_49) (by decide) (by decide) ?_
    show Steps p.tables e below (T2.setTop (mkF m 67 #[.val (.ref w_MIN_EXCL_VAT)] [(.ref w_MAX_EXCL_VAT)])) _
    jvm_step X2.here [X2.here.top, hx, (hb hby d5_67), X2.method', Bd.returns, Value.isRef, FieldType.isReference]
    first | (intro acts; rw [hr _ acts rfl rfl rfl]) | rw [hr _ _ rfl rfl rfl]
    exact Steps.refl _
  · exact ⟨rfl, N1, e2⟩
def Q2_6 (Z : State) (w_MIN_EXCL_VAT : Addr) (w_MIN_INCL_VAT : Addr) (w_MAX_INCL_VAT : Addr) (w_MAX_EXCL_VAT : Addr) (h0 : Heap) (n0 : Nat) (v : Option Value) (h : Heap) (L : List Loc) : Prop := v = some (.int (0 : Int32)) ∧ Fr n0 L ∧ h = h0
set_option maxRecDepth 65536 in
set_option maxHeartbeats 40000000 in
theorem rm2_6 (l : Launch) (Z : State) (a0 : Array Value) (hw : ∀ d ∈ tables_1, d.before a0 Z = true) (ws : List Jvm.Cond) (w_MIN_EXCL_VAT : Addr) (w_MIN_INCL_VAT : Addr) (w_MAX_INCL_VAT : Addr) (w_MAX_EXCL_VAT : Addr) (h0 : Heap) (n0 : Nat) (Z0 : n0 ≤ h0.size) (HW : World Z h0 w_MIN_EXCL_VAT w_MIN_INCL_VAT w_MAX_INCL_VAT w_MAX_EXCL_VAT) :
    MetFree l (⟨"com/example/nuthatch/nuthatch/tariff/PriceBound", "inclVat", "()Z"⟩ : MethodName) (head1 (Jvm.Cond.code (⟨"com/example/nuthatch/nuthatch/tariff/PriceBound", "inclVat", "()Z"⟩ : MethodName) prog_67_method_5_code 1 (some .boolean) :: ws) ({ frames := 0, cells := 0, slots := 0, locals := 0 } : Room)) (fun a U => a = #[(.ref w_MAX_EXCL_VAT)] ∧ Z.Warmed39 U.vm ∧ U.heap = h0) (fun _ _ _ _ _ => True) (fun _ U o U' => ∃ v L, o = .returned v ∧ Q2_6 Z w_MIN_EXCL_VAT w_MIN_INCL_VAT w_MAX_INCL_VAT w_MAX_EXCL_VAT h0 n0 v U'.heap L ∧ FrameEnd U o U' L ({ frames := 0, cells := 0, slots := 0, locals := 0 } : Room).cells ({ frames := 0, cells := 0, slots := 0, locals := 0 } : Room).slots) := by
  refine MetFree.of_bodySF (plainFor_of_name pn18) hisR ?_
  intro p e s m args below meth c s₁ Bd hml0 hP hK
  obtain ⟨rfl, hZ, hh⟩ := hP
  have hx := Bd.exec
  have hby := Bd.bytes
  have hml : c.maxLocals = 1 := hml0
  have hown : s.vm.findClass "com/example/nuthatch/nuthatch/tariff/PriceBound" = some m.cls := findClass_of_methodNamed Bd.named
  have X0 : Stand p l e ({ frames := 0, cells := 0, slots := 0, locals := 0 } : Room) s m #[(.ref w_MAX_EXCL_VAT)] below meth c s₁ [] 0 0 := Stand.of_body Bd
  have e0 : s₁.heap = h0 := by rw [← hh, Bd.state]; rfl
  have N0 := Fr.nil n0
  have pre0 : ∀ t, Steps p.tables e below (s₁.setTop (mkF m 0 #[.val (.ref w_MAX_EXCL_VAT)] [])) t → Steps p.tables e below (s₁.setTop (entryFrame m #[(.ref w_MAX_EXCL_VAT)] 1)) t := fun t k => castTop (ef17 m w_MAX_EXCL_VAT) k
  obtain ⟨S_w_MIN_EXCL_VAT, E_w_MIN_EXCL_VAT, S_w_MIN_INCL_VAT, E_w_MIN_INCL_VAT, S_w_MAX_INCL_VAT, E_w_MAX_INCL_VAT, S_w_MAX_EXCL_VAT, E_w_MAX_EXCL_VAT, F_ordinal_w_MIN_EXCL_VAT, F_ordinal_w_MIN_INCL_VAT, F_ordinal_w_MAX_INCL_VAT, F_ordinal_w_MAX_EXCL_VAT, ne_w_MIN_EXCL_VAT_w_MIN_INCL_VAT, ne_w_MIN_EXCL_VAT_w_MAX_INCL_VAT, ne_w_MIN_EXCL_VAT_w_MAX_EXCL_VAT, ne_w_MIN_INCL_VAT_w_MAX_INCL_VAT, ne_w_MIN_INCL_VAT_w_MAX_EXCL_VAT, ne_w_MAX_INCL_VAT_w_MAX_EXCL_VAT, -⟩ := id HW
  obtain ⟨T1, X1, e1, st1⟩ := getS2 X0 hx hZ hown (host := "") (Or.inl (hw _ (List.mem_of_getElem? (i := 12) rfl))) Via.refl e0 S_w_MIN_INCL_VAT (g := (mkF m 1 #[.val (.ref w_MAX_EXCL_VAT)] [(.ref w_MAX_EXCL_VAT)])) rfl (hb hby d2_1)
  obtain ⟨T2, X2, e2, st2⟩ := getS2 X1 hx hZ hown (host := "") (Or.inl (hw _ (List.mem_of_getElem? (i := 14) rfl))) Via.refl e1 S_w_MAX_INCL_VAT (g := (mkF m 8 #[.val (.ref w_MAX_EXCL_VAT)] [(.ref w_MAX_EXCL_VAT)])) rfl (hb hby d2_8)
  obtain ⟨fs, hr, hrun, hended, hW, hsame⟩ := X2.leave (v := some (.int (0 : Int32))) (fun h => by rw [Bd.returns] at h; cases h)
  refine ⟨_, _, pre0 _ ?_, hrun, hended, _, _, rfl, ?_, ⟨_, rfl⟩, hW, hsame.mono (by decide) (by decide)⟩
  · show Steps p.tables e below (s₁.setTop (mkF m 0 #[.val (.ref w_MAX_EXCL_VAT)] [])) _
    refine XS.aloadN X0.here hx rfl (hb hby d2_0) rfl rfl ?_
    show Steps p.tables e below (s₁.setTop (mkF m 1 #[.val (.ref w_MAX_EXCL_VAT)] [(.ref w_MAX_EXCL_VAT)])) _
    refine st1 _ ?_
    show Steps p.tables e below (T1.setTop (mkF m 4 #[.val (.ref w_MAX_EXCL_VAT)] [(.ref w_MIN_INCL_VAT), (.ref w_MAX_EXCL_VAT)])) _
    refine Jvm.RoadKit.acmp (g := (mkF m 4 #[.val (.ref w_MAX_EXCL_VAT)] [(.ref w_MIN_INCL_VAT), (.ref w_MAX_EXCL_VAT)])) X1 hx rfl rfl rfl (pc0 := 4) (pc' := 7) (same := false) rfl (hb hby d2_4) rfl (decide_eq_false fun q => ne_w_MIN_INCL_VAT_w_MAX_EXCL_VAT (Value.ref.inj q).symm) (by decide) (by decide) ?_
    show Steps p.tables e below (T1.setTop (mkF m 7 #[.val (.ref w_MAX_EXCL_VAT)] [])) _
    refine XS.aloadN X1.here hx rfl (hb hby d2_7) rfl rfl ?_
    show Steps p.tables e below (T1.setTop (mkF m 8 #[.val (.ref w_MAX_EXCL_VAT)] [(.ref w_MAX_EXCL_VAT)])) _
    refine st2 _ ?_
    show Steps p.tables e below (T2.setTop (mkF m 11 #[.val (.ref w_MAX_EXCL_VAT)] [(.ref w_MAX_INCL_VAT), (.ref w_MAX_EXCL_VAT)])) _
    refine Jvm.RoadKit.acmp (g := (mkF m 11 #[.val (.ref w_MAX_EXCL_VAT)] [(.ref w_MAX_INCL_VAT), (.ref w_MAX_EXCL_VAT)])) X2 hx rfl rfl rfl (pc0 := 11) (pc' := 18) (same := false) rfl (hb hby d2_11) rfl (decide_eq_false fun q => ne_w_MAX_INCL_VAT_w_MAX_EXCL_VAT (Value.ref.inj q).symm) (by decide) (by decide) ?_
    show Steps p.tables e below (T2.setTop (mkF m 18 #[.val (.ref w_MAX_EXCL_VAT)] [])) _
    refine XS.iconst X2.here hx rfl (hb hby d2_18) ?_
    show Steps p.tables e below (T2.setTop (mkF m 19 #[.val (.ref w_MAX_EXCL_VAT)] [(.int (0 : Int32))])) _
    exact retN X2 hx (t := .boolean) Bd.returns (by simp) (hb hby d2_19) hr
  · exact ⟨rfl, N0, e2⟩
theorem ef55 (m : MethodId) (x0 : Int32) : entryFrame m #[(.int x0)] maxLocals = mkF m 0 #[.val (.int x0), .unset, .unset, .unset, .unset] [] := by first | (simp [entryFrame, mkF, argsToLocals, Value.category, maxLocals]; done) | rfl
def Q0 (h0 : Heap) (n0 : Nat) (v : Option Value) (h : Heap) (L : List Loc) : Prop := v = some (.int (1 : Int32)) ∧ Fr n0 L
set_option maxRecDepth 65536 in
set_option maxHeartbeats 40000000 in
theorem rm0_c0 (l : Launch) (Z : State) (a0 : Array Value) (hw : ∀ d ∈ tables_1, d.before a0 Z = true) (ws : List Jvm.Cond) (w_MIN_EXCL_VAT : Addr) (w_MIN_INCL_VAT : Addr) (w_MAX_INCL_VAT : Addr) (w_MAX_EXCL_VAT : Addr) (p1 : Int32) (h0 : Heap) (n0 : Nat) (Z0 : n0 ≤ h0.size) (HW : World Z h0 w_MIN_EXCL_VAT w_MIN_INCL_VAT w_MAX_INCL_VAT w_MAX_EXCL_VAT) (hk : (p1 &&& (3 : Int32)) = (0 : Int32)) :
    MetFree l x (head1 (Jvm.Cond.code x code maxLocals ret :: ws) room_1) (fun a U => a = #[(.int p1)] ∧ Z.Warmed39 U.vm ∧ U.heap = h0) (fun _ _ _ _ _ => True) (fun _ U o U' => ∃ v L, o = .returned v ∧ Q0 h0 n0 v U'.heap L ∧ FrameEnd U o U' L room_1.cells room_1.slots) := by
  refine MetFree.of_bodySF (plainFor_of_name pn6) hisR ?_
  intro p e s m args below meth c s₁ Bd hml0 hP hK
  obtain ⟨rfl, hZ, hh⟩ := hP
  have hx := Bd.exec
  have hby := Bd.bytes
  have hml : c.maxLocals = 5 := hml0
  have hown : s.vm.findClass "com/example/nuthatch/nuthatch/tariff/PriceBoundInclVatPinLaw" = some m.cls := findClass_of_methodNamed Bd.named
  have X0 : Stand p l e room_1 s m #[(.int p1)] below meth c s₁ [] 0 0 := Stand.of_body Bd
  have e0 : s₁.heap = h0 := by rw [← hh, Bd.state]; rfl
  have N0 := Fr.nil n0
  have pre0 : ∀ t, Steps p.tables e below (s₁.setTop (mkF m 0 #[.val (.int p1), .unset, .unset, .unset, .unset] [])) t → Steps p.tables e below (s₁.setTop (entryFrame m #[(.int p1)] maxLocals)) t := fun t k => castTop (ef55 m p1) k
  obtain ⟨S_w_MIN_EXCL_VAT, E_w_MIN_EXCL_VAT, S_w_MIN_INCL_VAT, E_w_MIN_INCL_VAT, S_w_MAX_INCL_VAT, E_w_MAX_INCL_VAT, S_w_MAX_EXCL_VAT, E_w_MAX_EXCL_VAT, F_ordinal_w_MIN_EXCL_VAT, F_ordinal_w_MIN_INCL_VAT, F_ordinal_w_MAX_INCL_VAT, F_ordinal_w_MAX_EXCL_VAT, ne_w_MIN_EXCL_VAT_w_MIN_INCL_VAT, ne_w_MIN_EXCL_VAT_w_MAX_INCL_VAT, ne_w_MIN_EXCL_VAT_w_MAX_EXCL_VAT, ne_w_MIN_INCL_VAT_w_MAX_INCL_VAT, ne_w_MIN_INCL_VAT_w_MAX_EXCL_VAT, ne_w_MAX_INCL_VAT_w_MAX_EXCL_VAT, -⟩ := id HW
  obtain ⟨_, _, ⟨T1, L1, k1, n1⟩, -, X1, ⟨Lc1, hQ1, l1, y1, z1⟩, st1⟩ := Jvm.LawKit.callS X0 hx (y := (⟨"com/example/nuthatch/nuthatch/tariff/PriceBoundInclVatPinLaw", "pick", "(I)Lcom/example/nuthatch/nuthatch/tariff/PriceBound;"⟩ : MethodName)) hown (mvT hZ (hw _ (List.mem_of_getElem? (i := 0) rfl))) (mvT hZ (hw _ (List.mem_of_getElem? (i := 1) rfl))) (mvT hZ (hw _ (List.mem_of_getElem? (i := 2) rfl))) (mvT hZ (hw _ (List.mem_of_getElem? (i := 3) rfl))) (by decide) (backOf (W := 0) (rm1_0 l Z a0 hw [] w_MIN_EXCL_VAT w_MIN_INCL_VAT w_MAX_INCL_VAT w_MAX_EXCL_VAT h0 n0 Z0 HW) hZ (hw _ (List.mem_of_getElem? (i := 3) rfl)) (hw _ (List.mem_of_getElem? (i := 2) rfl)) (by decide) (by decide)) (g := (mkF m 5 #[.val (.int p1), .val (.int (0 : Int32)), .unset, .unset, .unset] [(.int (0 : Int32))])) rfl (by rw [hml]; rfl) (argsL := [(.int (0 : Int32))]) (rest := []) (lenOf pd7 rfl) rfl (by show 2 * 0 + _ ≤ _; exact Nat.le_of_eq rfl) (hb hby at_5) (fun _ _ => ⟨rfl, e0, (by decide : 0 + 0 ≤ _), (by decide : 0 + 0 ≤ _)⟩)
  dsimp only [Pt.U, Pt.locs, Pt.cells, Pt.slots] at X1 l1 y1 z1 st1 hQ1
  subst l1 y1 z1
  obtain ⟨rfl, N1q, e1⟩ := hQ1
  have N1 := Fr.app N0 N1q
  obtain ⟨cq2, kq2, q2a, q2b, q2c⟩ := isOf hZ e1 E_w_MIN_EXCL_VAT
  obtain ⟨_, _, ⟨T2, L2, k2, n2⟩, -, X2, ⟨Lc2, hQ2, l2, y2, z2⟩, st2⟩ := X1.virtualBack hx (y := (⟨"com/example/nuthatch/nuthatch/tariff/PriceBound", "inclVat", "()Z"⟩ : MethodName)) (z := (⟨"com/example/nuthatch/nuthatch/tariff/PriceBound", "inclVat", "()Z"⟩ : MethodName)) hown (mvT hZ (hw _ (List.mem_of_getElem? (i := 7) rfl))) (mvT hZ (hw _ (List.mem_of_getElem? (i := 8) rfl))) (notFace_of_selects (args := #[]) (mvT hZ (hw _ (List.mem_of_getElem? (i := 10) rfl)))) (mvT hZ (hw _ (List.mem_of_getElem? (i := 10) rfl))) (mvT hZ (hw _ (List.mem_of_getElem? (i := 9) rfl))) (by decide) (backOf (W := 0) (rm2_1 l Z a0 hw [] w_MIN_EXCL_VAT w_MIN_INCL_VAT w_MAX_INCL_VAT w_MAX_EXCL_VAT h0 n0 Z0 HW) hZ (hw _ (List.mem_of_getElem? (i := 11) rfl)) (hw _ (List.mem_of_getElem? (i := 5) rfl)) (by decide) (by decide)) q2a q2c (g := (mkF m 26 #[.val (.int p1), .val (.int (0 : Int32)), .val (.ref w_MIN_EXCL_VAT), .val (.int (0 : Int32)), .unset] [(.ref w_MIN_EXCL_VAT)])) rfl (by rw [hml]; rfl) (Steps.refl _) (argsL := []) (rest := []) (lenOf pd19 rfl) rfl (by show 2 * 0 + _ ≤ _; exact Nat.le_of_eq rfl) (hb hby at_26) (fun _ _ => ⟨rfl, e1, (by decide : 0 + 0 ≤ _), (by decide : 0 + 0 ≤ _)⟩)
  dsimp only [Pt.U, Pt.locs, Pt.cells, Pt.slots] at X2 l2 y2 z2 st2 hQ2
  subst l2 y2 z2
  obtain ⟨rfl, N2q, e2⟩ := hQ2
  have N2 := Fr.app N1 N2q
  obtain ⟨cq3, kq3, q3a, q3b, q3c⟩ := isOf hZ e2 E_w_MIN_EXCL_VAT
  obtain ⟨_, _, ⟨T3, L3, k3, n3⟩, -, X3, ⟨Lc3, hQ3, l3, y3, z3⟩, st3⟩ := X2.virtualBack hx (y := (⟨"com/example/nuthatch/nuthatch/tariff/PriceBound", "onInclVat", "()Lcom/example/nuthatch/nuthatch/tariff/PriceBound;"⟩ : MethodName)) (z := (⟨"com/example/nuthatch/nuthatch/tariff/PriceBound", "onInclVat", "()Lcom/example/nuthatch/nuthatch/tariff/PriceBound;"⟩ : MethodName)) hown (mvT hZ (hw _ (List.mem_of_getElem? (i := 16) rfl))) (mvT hZ (hw _ (List.mem_of_getElem? (i := 17) rfl))) (notFace_of_selects (args := #[]) (mvT hZ (hw _ (List.mem_of_getElem? (i := 19) rfl)))) (mvT hZ (hw _ (List.mem_of_getElem? (i := 19) rfl))) (mvT hZ (hw _ (List.mem_of_getElem? (i := 18) rfl))) (by decide) (backOf (W := 1) (rm3_3 l Z a0 hw [] w_MIN_EXCL_VAT w_MIN_INCL_VAT w_MAX_INCL_VAT w_MAX_EXCL_VAT h0 n0 Z0 HW) hZ (hw _ (List.mem_of_getElem? (i := 20) rfl)) (hw _ (List.mem_of_getElem? (i := 5) rfl)) (by decide) (by decide)) q3a q3c (g := (mkF m 42 #[.val (.int p1), .val (.int (0 : Int32)), .val (.ref w_MIN_EXCL_VAT), .val (.int (0 : Int32)), .val (.int (0 : Int32))] [(.ref w_MIN_EXCL_VAT), (.int (0 : Int32))])) rfl (by rw [hml]; rfl) (Steps.refl _) (argsL := []) (rest := [(.int (0 : Int32))]) (lenOf pd37 rfl) rfl (by show 2 * 0 + _ ≤ _; exact Nat.le_of_eq rfl) (hb hby at_42) (fun _ _ => ⟨rfl, e2, (by decide : 0 + 0 ≤ _), (by decide : 0 + 0 ≤ _)⟩)
  dsimp only [Pt.U, Pt.locs, Pt.cells, Pt.slots] at X3 l3 y3 z3 st3 hQ3
  subst l3 y3 z3
  obtain ⟨rfl, N3q, e3⟩ := hQ3
  have N3 := Fr.app N2 N3q
  obtain ⟨cq4, kq4, q4a, q4b, q4c⟩ := isOf hZ e3 E_w_MIN_EXCL_VAT
  obtain ⟨_, _, ⟨T4, L4, k4, n4⟩, -, X4, ⟨Lc4, hQ4, l4, y4, z4⟩, st4⟩ := X3.virtualBack hx (y := (⟨"com/example/nuthatch/nuthatch/tariff/PriceBound", "opposite", "()Lcom/example/nuthatch/nuthatch/tariff/PriceBound;"⟩ : MethodName)) (z := (⟨"com/example/nuthatch/nuthatch/tariff/PriceBound", "opposite", "()Lcom/example/nuthatch/nuthatch/tariff/PriceBound;"⟩ : MethodName)) hown (mvT hZ (hw _ (List.mem_of_getElem? (i := 28) rfl))) (mvT hZ (hw _ (List.mem_of_getElem? (i := 29) rfl))) (notFace_of_selects (args := #[]) (mvT hZ (hw _ (List.mem_of_getElem? (i := 31) rfl)))) (mvT hZ (hw _ (List.mem_of_getElem? (i := 31) rfl))) (mvT hZ (hw _ (List.mem_of_getElem? (i := 30) rfl))) (by decide) (backOf (W := 0) (rm5_5 l Z a0 hw [] w_MIN_EXCL_VAT w_MIN_INCL_VAT w_MAX_INCL_VAT w_MAX_EXCL_VAT h0 n0 Z0 HW) hZ (hw _ (List.mem_of_getElem? (i := 32) rfl)) (hw _ (List.mem_of_getElem? (i := 5) rfl)) (by decide) (by decide)) q4a q4c (g := (mkF m 60 #[.val (.int p1), .val (.int (0 : Int32)), .val (.ref w_MIN_EXCL_VAT), .val (.int (0 : Int32)), .val (.int (0 : Int32))] [(.ref w_MIN_EXCL_VAT)])) rfl (by rw [hml]; rfl) (Steps.refl _) (argsL := []) (rest := []) (lenOf pd37 rfl) rfl (by show 2 * 0 + _ ≤ _; exact Nat.le_of_eq rfl) (hb hby at_60) (fun _ _ => ⟨rfl, e3, (by decide : 0 + 0 ≤ _), (by decide : 0 + 0 ≤ _)⟩)
  dsimp only [Pt.U, Pt.locs, Pt.cells, Pt.slots] at X4 l4 y4 z4 st4 hQ4
  subst l4 y4 z4
  obtain ⟨rfl, N4q, e4⟩ := hQ4
  have N4 := Fr.app N3 N4q
  obtain ⟨cq5, kq5, q5a, q5b, q5c⟩ := isOf hZ e4 E_w_MAX_EXCL_VAT
  obtain ⟨_, _, ⟨T5, L5, k5, n5⟩, -, X5, ⟨Lc5, hQ5, l5, y5, z5⟩, st5⟩ := X4.virtualBack hx (y := (⟨"com/example/nuthatch/nuthatch/tariff/PriceBound", "inclVat", "()Z"⟩ : MethodName)) (z := (⟨"com/example/nuthatch/nuthatch/tariff/PriceBound", "inclVat", "()Z"⟩ : MethodName)) hown (mvT hZ (hw _ (List.mem_of_getElem? (i := 7) rfl))) (mvT hZ (hw _ (List.mem_of_getElem? (i := 8) rfl))) (notFace_of_selects (args := #[]) (mvT hZ (hw _ (List.mem_of_getElem? (i := 10) rfl)))) (mvT hZ (hw _ (List.mem_of_getElem? (i := 10) rfl))) (mvT hZ (hw _ (List.mem_of_getElem? (i := 9) rfl))) (by decide) (backOf (W := 0) (rm2_6 l Z a0 hw [] w_MIN_EXCL_VAT w_MIN_INCL_VAT w_MAX_INCL_VAT w_MAX_EXCL_VAT h0 n0 Z0 HW) hZ (hw _ (List.mem_of_getElem? (i := 11) rfl)) (hw _ (List.mem_of_getElem? (i := 5) rfl)) (by decide) (by decide)) q5a q5c (g := (mkF m 63 #[.val (.int p1), .val (.int (0 : Int32)), .val (.ref w_MIN_EXCL_VAT), .val (.int (0 : Int32)), .val (.int (0 : Int32))] [(.ref w_MAX_EXCL_VAT)])) rfl (by rw [hml]; rfl) (Steps.refl _) (argsL := []) (rest := []) (lenOf pd19 rfl) rfl (by show 2 * 0 + _ ≤ _; exact Nat.le_of_eq rfl) (hb hby at_63) (fun _ _ => ⟨rfl, e4, (by decide : 0 + 0 ≤ _), (by decide : 0 + 0 ≤ _)⟩)
  dsimp only [Pt.U, Pt.locs, Pt.cells, Pt.slots] at X5 l5 y5 z5 st5 hQ5
  subst l5 y5 z5
  obtain ⟨rfl, N5q, e5⟩ := hQ5
  have N5 := Fr.app N4 N5q
  obtain ⟨fs, hr, hrun, hended, hW, hsame⟩ := X5.leave (v := some (.int (1 : Int32))) (fun h => by rw [Bd.returns] at h; cases h)
  refine ⟨_, _, pre0 _ ?_, hrun, hended, _, _, rfl, ?_, ⟨_, rfl⟩, hW, hsame.mono (by decide) (by decide)⟩
  · show Steps p.tables e below (s₁.setTop (mkF m 0 #[.val (.int p1), .unset, .unset, .unset, .unset] [])) _
    refine XS.iloadN X0.here hx rfl (hb hby at_0) rfl ?_
    show Steps p.tables e below (s₁.setTop (mkF m 1 #[.val (.int p1), .unset, .unset, .unset, .unset] [(.int p1)])) _
    refine XS.iconst X0.here hx rfl (hb hby at_1) ?_
    show Steps p.tables e below (s₁.setTop (mkF m 2 #[.val (.int p1), .unset, .unset, .unset, .unset] [(.int (3 : Int32)), (.int p1)])) _
    refine XS.iand X0.here hx rfl (hb hby at_2) rfl ?_
    rw [hk]
    show Steps p.tables e below (s₁.setTop (mkF m 3 #[.val (.int p1), .unset, .unset, .unset, .unset] [(.int (0 : Int32))])) _
    refine XS.istoreN X0.here hx rfl (hb hby at_3) rfl (l' := #[.val (.int p1), .val (.int (0 : Int32)), .unset, .unset, .unset]) rfl ?_
    show Steps p.tables e below (s₁.setTop (mkF m 4 #[.val (.int p1), .val (.int (0 : Int32)), .unset, .unset, .unset] [])) _
    refine XS.iloadN X0.here hx rfl (hb hby at_4) rfl ?_
    show Steps p.tables e below (s₁.setTop (mkF m 5 #[.val (.int p1), .val (.int (0 : Int32)), .unset, .unset, .unset] [(.int (0 : Int32))])) _
    refine st1 _ ?_
    show Steps p.tables e below (T1.setTop (mkF m 8 #[.val (.int p1), .val (.int (0 : Int32)), .unset, .unset, .unset] [(.ref w_MIN_EXCL_VAT)])) _
    refine XS.astoreN X1.here hx rfl (hb hby at_8) rfl rfl (l' := #[.val (.int p1), .val (.int (0 : Int32)), .val (.ref w_MIN_EXCL_VAT), .unset, .unset]) rfl ?_
    show Steps p.tables e below (T1.setTop (mkF m 9 #[.val (.int p1), .val (.int (0 : Int32)), .val (.ref w_MIN_EXCL_VAT), .unset, .unset] [])) _
    refine XS.iloadN X1.here hx rfl (hb hby at_9) rfl ?_
    show Steps p.tables e below (T1.setTop (mkF m 10 #[.val (.int p1), .val (.int (0 : Int32)), .val (.ref w_MIN_EXCL_VAT), .unset, .unset] [(.int (0 : Int32))])) _
    refine XS.iconst X1.here hx rfl (hb hby at_10) ?_
    show Steps p.tables e below (T1.setTop (mkF m 11 #[.val (.int p1), .val (.int (0 : Int32)), .val (.ref w_MIN_EXCL_VAT), .unset, .unset] [(.int (1 : Int32)), (.int (0 : Int32))])) _
    refine XS.icmpNo X1.here hx rfl (hb hby at_11) rfl (feq (by decide : ¬ ((0 : Int32) = (1 : Int32)))).1 ?_
    show Steps p.tables e below (T1.setTop (mkF m 14 #[.val (.int p1), .val (.int (0 : Int32)), .val (.ref w_MIN_EXCL_VAT), .unset, .unset] [])) _
    refine XS.iloadN X1.here hx rfl (hb hby at_14) rfl ?_
    show Steps p.tables e below (T1.setTop (mkF m 15 #[.val (.int p1), .val (.int (0 : Int32)), .val (.ref w_MIN_EXCL_VAT), .unset, .unset] [(.int (0 : Int32))])) _
    refine XS.iconst X1.here hx rfl (hb hby at_15) ?_
    show Steps p.tables e below (T1.setTop (mkF m 16 #[.val (.int p1), .val (.int (0 : Int32)), .val (.ref w_MIN_EXCL_VAT), .unset, .unset] [(.int (3 : Int32)), (.int (0 : Int32))])) _
    refine XS.icmpYes X1.here hx rfl (pc0 := 16) (pc' := 23) rfl (hb hby at_16) rfl (feq (by decide : ¬ ((0 : Int32) = (3 : Int32)))).2 (by decide) (by decide) ?_
    show Steps p.tables e below (T1.setTop (mkF m 23 #[.val (.int p1), .val (.int (0 : Int32)), .val (.ref w_MIN_EXCL_VAT), .unset, .unset] [])) _
    refine XS.iconst X1.here hx rfl (hb hby at_23) ?_
    show Steps p.tables e below (T1.setTop (mkF m 24 #[.val (.int p1), .val (.int (0 : Int32)), .val (.ref w_MIN_EXCL_VAT), .unset, .unset] [(.int (0 : Int32))])) _
    refine XS.istoreN X1.here hx rfl (hb hby at_24) rfl (l' := #[.val (.int p1), .val (.int (0 : Int32)), .val (.ref w_MIN_EXCL_VAT), .val (.int (0 : Int32)), .unset]) rfl ?_
    show Steps p.tables e below (T1.setTop (mkF m 25 #[.val (.int p1), .val (.int (0 : Int32)), .val (.ref w_MIN_EXCL_VAT), .val (.int (0 : Int32)), .unset] [])) _
    refine XS.aloadN X1.here hx rfl (hb hby at_25) rfl rfl ?_
    show Steps p.tables e below (T1.setTop (mkF m 26 #[.val (.int p1), .val (.int (0 : Int32)), .val (.ref w_MIN_EXCL_VAT), .val (.int (0 : Int32)), .unset] [(.ref w_MIN_EXCL_VAT)])) _
    refine st2.trans ?_
    show Steps p.tables e below (T2.setTop (mkF m 29 #[.val (.int p1), .val (.int (0 : Int32)), .val (.ref w_MIN_EXCL_VAT), .val (.int (0 : Int32)), .unset] [(.int (0 : Int32))])) _
    refine XS.istore X2.here hx rfl (hb hby at_29) rfl (l' := #[.val (.int p1), .val (.int (0 : Int32)), .val (.ref w_MIN_EXCL_VAT), .val (.int (0 : Int32)), .val (.int (0 : Int32))]) rfl ?_
    show Steps p.tables e below (T2.setTop (mkF m 31 #[.val (.int p1), .val (.int (0 : Int32)), .val (.ref w_MIN_EXCL_VAT), .val (.int (0 : Int32)), .val (.int (0 : Int32))] [])) _
    refine XS.iload X2.here hx rfl (hb hby at_31) rfl ?_
    show Steps p.tables e below (T2.setTop (mkF m 33 #[.val (.int p1), .val (.int (0 : Int32)), .val (.ref w_MIN_EXCL_VAT), .val (.int (0 : Int32)), .val (.int (0 : Int32))] [(.int (0 : Int32))])) _
    refine XS.iloadN X2.here hx rfl (hb hby at_33) rfl ?_
    show Steps p.tables e below (T2.setTop (mkF m 34 #[.val (.int p1), .val (.int (0 : Int32)), .val (.ref w_MIN_EXCL_VAT), .val (.int (0 : Int32)), .val (.int (0 : Int32))] [(.int (0 : Int32)), (.int (0 : Int32))])) _
    refine XS.icmpYes X2.here hx rfl (pc0 := 34) (pc' := 39) rfl (hb hby at_34) rfl (teq (by decide : (0 : Int32) = (0 : Int32))).1 (by decide) (by decide) ?_
    show Steps p.tables e below (T2.setTop (mkF m 39 #[.val (.int p1), .val (.int (0 : Int32)), .val (.ref w_MIN_EXCL_VAT), .val (.int (0 : Int32)), .val (.int (0 : Int32))] [])) _
    refine XS.iload X2.here hx rfl (hb hby at_39) rfl ?_
    show Steps p.tables e below (T2.setTop (mkF m 41 #[.val (.int p1), .val (.int (0 : Int32)), .val (.ref w_MIN_EXCL_VAT), .val (.int (0 : Int32)), .val (.int (0 : Int32))] [(.int (0 : Int32))])) _
    refine XS.aloadN X2.here hx rfl (hb hby at_41) rfl rfl ?_
    show Steps p.tables e below (T2.setTop (mkF m 42 #[.val (.int p1), .val (.int (0 : Int32)), .val (.ref w_MIN_EXCL_VAT), .val (.int (0 : Int32)), .val (.int (0 : Int32))] [(.ref w_MIN_EXCL_VAT), (.int (0 : Int32))])) _
    refine st3.trans ?_
    show Steps p.tables e below (T3.setTop (mkF m 45 #[.val (.int p1), .val (.int (0 : Int32)), .val (.ref w_MIN_EXCL_VAT), .val (.int (0 : Int32)), .val (.int (0 : Int32))] [(.ref w_MIN_INCL_VAT), (.int (0 : Int32))])) _
    refine XS.aloadN X3.here hx rfl (hb hby at_45) rfl rfl ?_
    show Steps p.tables e below (T3.setTop (mkF m 46 #[.val (.int p1), .val (.int (0 : Int32)), .val (.ref w_MIN_EXCL_VAT), .val (.int (0 : Int32)), .val (.int (0 : Int32))] [(.ref w_MIN_EXCL_VAT), (.ref w_MIN_INCL_VAT), (.int (0 : Int32))])) _
    refine Jvm.RoadKit.acmp (g := (mkF m 46 #[.val (.int p1), .val (.int (0 : Int32)), .val (.ref w_MIN_EXCL_VAT), .val (.int (0 : Int32)), .val (.int (0 : Int32))] [(.ref w_MIN_EXCL_VAT), (.ref w_MIN_INCL_VAT), (.int (0 : Int32))])) X3 hx rfl rfl rfl (pc0 := 46) (pc' := 53) (same := false) rfl (hb hby at_46) rfl (decide_eq_false fun q => ne_w_MIN_EXCL_VAT_w_MIN_INCL_VAT (Value.ref.inj q).symm) (by decide) (by decide) ?_
    show Steps p.tables e below (T3.setTop (mkF m 53 #[.val (.int p1), .val (.int (0 : Int32)), .val (.ref w_MIN_EXCL_VAT), .val (.int (0 : Int32)), .val (.int (0 : Int32))] [(.int (0 : Int32))])) _
    refine XS.iconst X3.here hx rfl (hb hby at_53) ?_
    show Steps p.tables e below (T3.setTop (mkF m 54 #[.val (.int p1), .val (.int (0 : Int32)), .val (.ref w_MIN_EXCL_VAT), .val (.int (0 : Int32)), .val (.int (0 : Int32))] [(.int (0 : Int32)), (.int (0 : Int32))])) _
    refine XS.icmpYes X3.here hx rfl (pc0 := 54) (pc' := 59) rfl (hb hby at_54) rfl (teq (by decide : (0 : Int32) = (0 : Int32))).1 (by decide) (by decide) ?_
    show Steps p.tables e below (T3.setTop (mkF m 59 #[.val (.int p1), .val (.int (0 : Int32)), .val (.ref w_MIN_EXCL_VAT), .val (.int (0 : Int32)), .val (.int (0 : Int32))] [])) _
    refine XS.aloadN X3.here hx rfl (hb hby at_59) rfl rfl ?_
    show Steps p.tables e below (T3.setTop (mkF m 60 #[.val (.int p1), .val (.int (0 : Int32)), .val (.ref w_MIN_EXCL_VAT), .val (.int (0 : Int32)), .val (.int (0 : Int32))] [(.ref w_MIN_EXCL_VAT)])) _
    refine st4.trans ?_
    show Steps p.tables e below (T4.setTop (mkF m 63 #[.val (.int p1), .val (.int (0 : Int32)), .val (.ref w_MIN_EXCL_VAT), .val (.int (0 : Int32)), .val (.int (0 : Int32))] [(.ref w_MAX_EXCL_VAT)])) _
    refine st5.trans ?_
    show Steps p.tables e below (T5.setTop (mkF m 66 #[.val (.int p1), .val (.int (0 : Int32)), .val (.ref w_MIN_EXCL_VAT), .val (.int (0 : Int32)), .val (.int (0 : Int32))] [(.int (0 : Int32))])) _
    refine XS.iload X5.here hx rfl (hb hby at_66) rfl ?_
    show Steps p.tables e below (T5.setTop (mkF m 68 #[.val (.int p1), .val (.int (0 : Int32)), .val (.ref w_MIN_EXCL_VAT), .val (.int (0 : Int32)), .val (.int (0 : Int32))] [(.int (0 : Int32)), (.int (0 : Int32))])) _
    refine XS.icmpNo X5.here hx rfl (hb hby at_68) rfl (teq (by decide : (0 : Int32) = (0 : Int32))).2 ?_
    show Steps p.tables e below (T5.setTop (mkF m 71 #[.val (.int p1), .val (.int (0 : Int32)), .val (.ref w_MIN_EXCL_VAT), .val (.int (0 : Int32)), .val (.int (0 : Int32))] [])) _
    refine XS.iconst X5.here hx rfl (hb hby at_71) ?_
    show Steps p.tables e below (T5.setTop (mkF m 72 #[.val (.int p1), .val (.int (0 : Int32)), .val (.ref w_MIN_EXCL_VAT), .val (.int (0 : Int32)), .val (.int (0 : Int32))] [(.int (1 : Int32))])) _
    refine XS.goto X5.here hx rfl (pc0 := 72) (pc' := 76) rfl (hb hby at_72) (by decide) (by decide) ?_
    show Steps p.tables e below (T5.setTop (mkF m 76 #[.val (.int p1), .val (.int (0 : Int32)), .val (.ref w_MIN_EXCL_VAT), .val (.int (0 : Int32)), .val (.int (0 : Int32))] [(.int (1 : Int32))])) _
    exact retN X5 hx (t := .boolean) Bd.returns (by simp) (hb hby at_76) hr
  · exact ⟨rfl, N5⟩
theorem d1_8 : decode method_2_code 8 = .ok (.iload_n 0, 1) := by decide +kernel
theorem d1_9 : decode method_2_code 9 = .ok (.iconst 1, 1) := by decide +kernel
theorem d1_10 : decode method_2_code 10 = .ok (.if_icmp .ne 7, 3) := by decide +kernel
theorem d1_13 : decode method_2_code 13 = .ok (.getstatic 13, 3) := by decide +kernel
theorem d1_16 : decode method_2_code 16 = .ok (.areturn, 1) := by decide +kernel
def Q1_8 (Z : State) (w_MIN_EXCL_VAT : Addr) (w_MIN_INCL_VAT : Addr) (w_MAX_INCL_VAT : Addr) (w_MAX_EXCL_VAT : Addr) (h0 : Heap) (n0 : Nat) (v : Option Value) (h : Heap) (L : List Loc) : Prop := v = some (.ref w_MIN_INCL_VAT) ∧ Fr n0 L ∧ h = h0
set_option maxRecDepth 65536 in
set_option maxHeartbeats 40000000 in
theorem rm1_8 (l : Launch) (Z : State) (a0 : Array Value) (hw : ∀ d ∈ tables_1, d.before a0 Z = true) (ws : List Jvm.Cond) (w_MIN_EXCL_VAT : Addr) (w_MIN_INCL_VAT : Addr) (w_MAX_INCL_VAT : Addr) (w_MAX_EXCL_VAT : Addr) (h0 : Heap) (n0 : Nat) (Z0 : n0 ≤ h0.size) (HW : World Z h0 w_MIN_EXCL_VAT w_MIN_INCL_VAT w_MAX_INCL_VAT w_MAX_EXCL_VAT) :
    MetFree l (⟨"com/example/nuthatch/nuthatch/tariff/PriceBoundInclVatPinLaw", "pick", "(I)Lcom/example/nuthatch/nuthatch/tariff/PriceBound;"⟩ : MethodName) (head1 (Jvm.Cond.code (⟨"com/example/nuthatch/nuthatch/tariff/PriceBoundInclVatPinLaw", "pick", "(I)Lcom/example/nuthatch/nuthatch/tariff/PriceBound;"⟩ : MethodName) method_2_code 1 (some (.object "com/example/nuthatch/nuthatch/tariff/PriceBound")) :: ws) ({ frames := 0, cells := 0, slots := 0, locals := 0 } : Room)) (fun a U => a = #[(.int (1 : Int32))] ∧ Z.Warmed39 U.vm ∧ U.heap = h0) (fun _ _ _ _ _ => True) (fun _ U o U' => ∃ v L, o = .returned v ∧ Q1_8 Z w_MIN_EXCL_VAT w_MIN_INCL_VAT w_MAX_INCL_VAT w_MAX_EXCL_VAT h0 n0 v U'.heap L ∧ FrameEnd U o U' L ({ frames := 0, cells := 0, slots := 0, locals := 0 } : Room).cells ({ frames := 0, cells := 0, slots := 0, locals := 0 } : Room).slots) := by
  refine MetFree.of_bodySF (plainFor_of_name pn6) hisR ?_
  intro p e s m args below meth c s₁ Bd hml0 hP hK
  obtain ⟨rfl, hZ, hh⟩ := hP
  have hx := Bd.exec
  have hby := Bd.bytes
  have hml : c.maxLocals = 1 := hml0
  have hown : s.vm.findClass "com/example/nuthatch/nuthatch/tariff/PriceBoundInclVatPinLaw" = some m.cls := findClass_of_methodNamed Bd.named
  have X0 : Stand p l e ({ frames := 0, cells := 0, slots := 0, locals := 0 } : Room) s m #[(.int (1 : Int32))] below meth c s₁ [] 0 0 := Stand.of_body Bd
  have e0 : s₁.heap = h0 := by rw [← hh, Bd.state]; rfl
  have N0 := Fr.nil n0
  have pre0 : ∀ t, Steps p.tables e below (s₁.setTop (mkF m 0 #[.val (.int (1 : Int32))] [])) t → Steps p.tables e below (s₁.setTop (entryFrame m #[(.int (1 : Int32))] 1)) t := fun t k => castTop (ef5 m (1 : Int32)) k
  obtain ⟨S_w_MIN_EXCL_VAT, E_w_MIN_EXCL_VAT, S_w_MIN_INCL_VAT, E_w_MIN_INCL_VAT, S_w_MAX_INCL_VAT, E_w_MAX_INCL_VAT, S_w_MAX_EXCL_VAT, E_w_MAX_EXCL_VAT, F_ordinal_w_MIN_EXCL_VAT, F_ordinal_w_MIN_INCL_VAT, F_ordinal_w_MAX_INCL_VAT, F_ordinal_w_MAX_EXCL_VAT, ne_w_MIN_EXCL_VAT_w_MIN_INCL_VAT, ne_w_MIN_EXCL_VAT_w_MAX_INCL_VAT, ne_w_MIN_EXCL_VAT_w_MAX_EXCL_VAT, ne_w_MIN_INCL_VAT_w_MAX_INCL_VAT, ne_w_MIN_INCL_VAT_w_MAX_EXCL_VAT, ne_w_MAX_INCL_VAT_w_MAX_EXCL_VAT, -⟩ := id HW
  obtain ⟨T1, X1, e1, st1⟩ := getS2 X0 hx hZ hown (host := "") (Or.inl (hw _ (List.mem_of_getElem? (i := 45) rfl))) Via.refl e0 S_w_MIN_INCL_VAT (g := (mkF m 13 #[.val (.int (1 : Int32))] [])) rfl (hb hby d1_13)
  obtain ⟨fs, hr, hrun, hended, hW, hsame⟩ := X1.leave (v := some (.ref w_MIN_INCL_VAT)) (fun h => by rw [Bd.returns] at h; cases h)
  refine ⟨_, _, pre0 _ ?_, hrun, hended, _, _, rfl, ?_, ⟨_, rfl⟩, hW, hsame.mono (by decide) (by decide)⟩
  · show Steps p.tables e below (s₁.setTop (mkF m 0 #[.val (.int (1 : Int32))] [])) _
    refine XS.iloadN X0.here hx rfl (hb hby d1_0) rfl ?_
    show Steps p.tables e below (s₁.setTop (mkF m 1 #[.val (.int (1 : Int32))] [(.int (1 : Int32))])) _
    refine XS.ifYes X0.here hx rfl (pc0 := 1) (pc' := 8) rfl (hb hby d1_1) rfl ((if0 _ _).trans (feq (by decide : ¬ ((1 : Int32) = (0 : Int32)))).2) (by decide) (by decide) ?_
    show Steps p.tables e below (s₁.setTop (mkF m 8 #[.val (.int (1 : Int32))] [])) _
    refine XS.iloadN X0.here hx rfl (hb hby d1_8) rfl ?_
    show Steps p.tables e below (s₁.setTop (mkF m 9 #[.val (.int (1 : Int32))] [(.int (1 : Int32))])) _
    refine XS.iconst X0.here hx rfl (hb hby d1_9) ?_
    show Steps p.tables e below (s₁.setTop (mkF m 10 #[.val (.int (1 : Int32))] [(.int (1 : Int32)), (.int (1 : Int32))])) _
    refine XS.icmpNo X0.here hx rfl (hb hby d1_10) rfl (teq (by decide : (1 : Int32) = (1 : Int32))).2 ?_
    show Steps p.tables e below (s₁.setTop (mkF m 13 #[.val (.int (1 : Int32))] [])) _
    refine st1 _ ?_
    show Steps p.tables e below (T1.setTop (mkF m 16 #[.val (.int (1 : Int32))] [(.ref w_MIN_INCL_VAT)])) _
    jvm_step X1.here [X1.here.top, hx, (hb hby d1_16), X1.method', Bd.returns, Value.isRef, FieldType.isReference]
    first | (intro acts; rw [hr _ acts rfl rfl rfl]) | rw [hr _ _ rfl rfl rfl]
    exact Steps.refl _
  · exact ⟨rfl, N0, e1⟩
theorem d2_14 : decode prog_67_method_5_code 14 = .ok (.iconst 1, 1) := by decide +kernel
theorem d2_15 : decode prog_67_method_5_code 15 = .ok (.goto 4, 3) := by decide +kernel
def Q2_9 (Z : State) (w_MIN_EXCL_VAT : Addr) (w_MIN_INCL_VAT : Addr) (w_MAX_INCL_VAT : Addr) (w_MAX_EXCL_VAT : Addr) (h0 : Heap) (n0 : Nat) (v : Option Value) (h : Heap) (L : List Loc) : Prop := v = some (.int (1 : Int32)) ∧ Fr n0 L ∧ h = h0
set_option maxRecDepth 65536 in
set_option maxHeartbeats 40000000 in
theorem rm2_9 (l : Launch) (Z : State) (a0 : Array Value) (hw : ∀ d ∈ tables_1, d.before a0 Z = true) (ws : List Jvm.Cond) (w_MIN_EXCL_VAT : Addr) (w_MIN_INCL_VAT : Addr) (w_MAX_INCL_VAT : Addr) (w_MAX_EXCL_VAT : Addr) (h0 : Heap) (n0 : Nat) (Z0 : n0 ≤ h0.size) (HW : World Z h0 w_MIN_EXCL_VAT w_MIN_INCL_VAT w_MAX_INCL_VAT w_MAX_EXCL_VAT) :
    MetFree l (⟨"com/example/nuthatch/nuthatch/tariff/PriceBound", "inclVat", "()Z"⟩ : MethodName) (head1 (Jvm.Cond.code (⟨"com/example/nuthatch/nuthatch/tariff/PriceBound", "inclVat", "()Z"⟩ : MethodName) prog_67_method_5_code 1 (some .boolean) :: ws) ({ frames := 0, cells := 0, slots := 0, locals := 0 } : Room)) (fun a U => a = #[(.ref w_MIN_INCL_VAT)] ∧ Z.Warmed39 U.vm ∧ U.heap = h0) (fun _ _ _ _ _ => True) (fun _ U o U' => ∃ v L, o = .returned v ∧ Q2_9 Z w_MIN_EXCL_VAT w_MIN_INCL_VAT w_MAX_INCL_VAT w_MAX_EXCL_VAT h0 n0 v U'.heap L ∧ FrameEnd U o U' L ({ frames := 0, cells := 0, slots := 0, locals := 0 } : Room).cells ({ frames := 0, cells := 0, slots := 0, locals := 0 } : Room).slots) := by
  refine MetFree.of_bodySF (plainFor_of_name pn18) hisR ?_
  intro p e s m args below meth c s₁ Bd hml0 hP hK
  obtain ⟨rfl, hZ, hh⟩ := hP
  have hx := Bd.exec
  have hby := Bd.bytes
  have hml : c.maxLocals = 1 := hml0
  have hown : s.vm.findClass "com/example/nuthatch/nuthatch/tariff/PriceBound" = some m.cls := findClass_of_methodNamed Bd.named
  have X0 : Stand p l e ({ frames := 0, cells := 0, slots := 0, locals := 0 } : Room) s m #[(.ref w_MIN_INCL_VAT)] below meth c s₁ [] 0 0 := Stand.of_body Bd
  have e0 : s₁.heap = h0 := by rw [← hh, Bd.state]; rfl
  have N0 := Fr.nil n0
  have pre0 : ∀ t, Steps p.tables e below (s₁.setTop (mkF m 0 #[.val (.ref w_MIN_INCL_VAT)] [])) t → Steps p.tables e below (s₁.setTop (entryFrame m #[(.ref w_MIN_INCL_VAT)] 1)) t := fun t k => castTop (ef17 m w_MIN_INCL_VAT) k
  obtain ⟨S_w_MIN_EXCL_VAT, E_w_MIN_EXCL_VAT, S_w_MIN_INCL_VAT, E_w_MIN_INCL_VAT, S_w_MAX_INCL_VAT, E_w_MAX_INCL_VAT, S_w_MAX_EXCL_VAT, E_w_MAX_EXCL_VAT, F_ordinal_w_MIN_EXCL_VAT, F_ordinal_w_MIN_INCL_VAT, F_ordinal_w_MAX_INCL_VAT, F_ordinal_w_MAX_EXCL_VAT, ne_w_MIN_EXCL_VAT_w_MIN_INCL_VAT, ne_w_MIN_EXCL_VAT_w_MAX_INCL_VAT, ne_w_MIN_EXCL_VAT_w_MAX_EXCL_VAT, ne_w_MIN_INCL_VAT_w_MAX_INCL_VAT, ne_w_MIN_INCL_VAT_w_MAX_EXCL_VAT, ne_w_MAX_INCL_VAT_w_MAX_EXCL_VAT, -⟩ := id HW
  obtain ⟨T1, X1, e1, st1⟩ := getS2 X0 hx hZ hown (host := "") (Or.inl (hw _ (List.mem_of_getElem? (i := 12) rfl))) Via.refl e0 S_w_MIN_INCL_VAT (g := (mkF m 1 #[.val (.ref w_MIN_INCL_VAT)] [(.ref w_MIN_INCL_VAT)])) rfl (hb hby d2_1)
  obtain ⟨fs, hr, hrun, hended, hW, hsame⟩ := X1.leave (v := some (.int (1 : Int32))) (fun h => by rw [Bd.returns] at h; cases h)
  refine ⟨_, _, pre0 _ ?_, hrun, hended, _, _, rfl, ?_, ⟨_, rfl⟩, hW, hsame.mono (by decide) (by decide)⟩
  · show Steps p.tables e below (s₁.setTop (mkF m 0 #[.val (.ref w_MIN_INCL_VAT)] [])) _
    refine XS.aloadN X0.here hx rfl (hb hby d2_0) rfl rfl ?_
    show Steps p.tables e below (s₁.setTop (mkF m 1 #[.val (.ref w_MIN_INCL_VAT)] [(.ref w_MIN_INCL_VAT)])) _
    refine st1 _ ?_
    show Steps p.tables e below (T1.setTop (mkF m 4 #[.val (.ref w_MIN_INCL_VAT)] [(.ref w_MIN_INCL_VAT), (.ref w_MIN_INCL_VAT)])) _
    refine Jvm.RoadKit.acmp (g := (mkF m 4 #[.val (.ref w_MIN_INCL_VAT)] [(.ref w_MIN_INCL_VAT), (.ref w_MIN_INCL_VAT)])) X1 hx rfl rfl rfl (pc0 := 4) (pc' := 14) (same := true) rfl (hb hby d2_4) rfl (decide_eq_true rfl) (by decide) (by decide) ?_
    show Steps p.tables e below (T1.setTop (mkF m 14 #[.val (.ref w_MIN_INCL_VAT)] [])) _
    refine XS.iconst X1.here hx rfl (hb hby d2_14) ?_
    show Steps p.tables e below (T1.setTop (mkF m 15 #[.val (.ref w_MIN_INCL_VAT)] [(.int (1 : Int32))])) _
    refine XS.goto X1.here hx rfl (pc0 := 15) (pc' := 19) rfl (hb hby d2_15) (by decide) (by decide) ?_
    show Steps p.tables e below (T1.setTop (mkF m 19 #[.val (.ref w_MIN_INCL_VAT)] [(.int (1 : Int32))])) _
    exact retN X1 hx (t := .boolean) Bd.returns (by simp) (hb hby d2_19) hr
  · exact ⟨rfl, N0, e1⟩
def Q4_10 (Z : State) (w_MIN_EXCL_VAT : Addr) (w_MIN_INCL_VAT : Addr) (w_MAX_INCL_VAT : Addr) (w_MAX_EXCL_VAT : Addr) (h0 : Heap) (n0 : Nat) (v : Option Value) (h : Heap) (L : List Loc) : Prop := v = some (.int (0 : Int32)) ∧ Fr n0 L ∧ h = h0
set_option maxRecDepth 65536 in
set_option maxHeartbeats 40000000 in
theorem rm4_10 (l : Launch) (Z : State) (a0 : Array Value) (hw : ∀ d ∈ tables_1, d.before a0 Z = true) (ws : List Jvm.Cond) (w_MIN_EXCL_VAT : Addr) (w_MIN_INCL_VAT : Addr) (w_MAX_INCL_VAT : Addr) (w_MAX_EXCL_VAT : Addr) (h0 : Heap) (n0 : Nat) (Z0 : n0 ≤ h0.size) (HW : World Z h0 w_MIN_EXCL_VAT w_MIN_INCL_VAT w_MAX_INCL_VAT w_MAX_EXCL_VAT) :
    MetFree l (⟨"com/example/nuthatch/nuthatch/tariff/PriceBound", "isMaximum", "()Z"⟩ : MethodName) (head1 (Jvm.Cond.code (⟨"com/example/nuthatch/nuthatch/tariff/PriceBound", "isMaximum", "()Z"⟩ : MethodName) prog_67_method_4_code 1 (some .boolean) :: ws) ({ frames := 0, cells := 0, slots := 0, locals := 0 } : Room)) (fun a U => a = #[(.ref w_MIN_INCL_VAT)] ∧ Z.Warmed39 U.vm ∧ U.heap = h0) (fun _ _ _ _ _ => True) (fun _ U o U' => ∃ v L, o = .returned v ∧ Q4_10 Z w_MIN_EXCL_VAT w_MIN_INCL_VAT w_MAX_INCL_VAT w_MAX_EXCL_VAT h0 n0 v U'.heap L ∧ FrameEnd U o U' L ({ frames := 0, cells := 0, slots := 0, locals := 0 } : Room).cells ({ frames := 0, cells := 0, slots := 0, locals := 0 } : Room).slots) := by
  refine MetFree.of_bodySF (plainFor_of_name pn18) hisR ?_
  intro p e s m args below meth c s₁ Bd hml0 hP hK
  obtain ⟨rfl, hZ, hh⟩ := hP
  have hx := Bd.exec
  have hby := Bd.bytes
  have hml : c.maxLocals = 1 := hml0
  have hown : s.vm.findClass "com/example/nuthatch/nuthatch/tariff/PriceBound" = some m.cls := findClass_of_methodNamed Bd.named
  have X0 : Stand p l e ({ frames := 0, cells := 0, slots := 0, locals := 0 } : Room) s m #[(.ref w_MIN_INCL_VAT)] below meth c s₁ [] 0 0 := Stand.of_body Bd
  have e0 : s₁.heap = h0 := by rw [← hh, Bd.state]; rfl
  have N0 := Fr.nil n0
  have pre0 : ∀ t, Steps p.tables e below (s₁.setTop (mkF m 0 #[.val (.ref w_MIN_INCL_VAT)] [])) t → Steps p.tables e below (s₁.setTop (entryFrame m #[(.ref w_MIN_INCL_VAT)] 1)) t := fun t k => castTop (ef30 m w_MIN_INCL_VAT) k
  obtain ⟨S_w_MIN_EXCL_VAT, E_w_MIN_EXCL_VAT, S_w_MIN_INCL_VAT, E_w_MIN_INCL_VAT, S_w_MAX_INCL_VAT, E_w_MAX_INCL_VAT, S_w_MAX_EXCL_VAT, E_w_MAX_EXCL_VAT, F_ordinal_w_MIN_EXCL_VAT, F_ordinal_w_MIN_INCL_VAT, F_ordinal_w_MAX_INCL_VAT, F_ordinal_w_MAX_EXCL_VAT, ne_w_MIN_EXCL_VAT_w_MIN_INCL_VAT, ne_w_MIN_EXCL_VAT_w_MAX_INCL_VAT, ne_w_MIN_EXCL_VAT_w_MAX_EXCL_VAT, ne_w_MIN_INCL_VAT_w_MAX_INCL_VAT, ne_w_MIN_INCL_VAT_w_MAX_EXCL_VAT, ne_w_MAX_INCL_VAT_w_MAX_EXCL_VAT, -⟩ := id HW
  obtain ⟨T1, X1, e1, st1⟩ := getS2 X0 hx hZ hown (host := "") (Or.inl (hw _ (List.mem_of_getElem? (i := 26) rfl))) Via.refl e0 S_w_MAX_EXCL_VAT (g := (mkF m 1 #[.val (.ref w_MIN_INCL_VAT)] [(.ref w_MIN_INCL_VAT)])) rfl (hb hby d4_1)
  obtain ⟨T2, X2, e2, st2⟩ := getS2 X1 hx hZ hown (host := "") (Or.inl (hw _ (List.mem_of_getElem? (i := 14) rfl))) Via.refl e1 S_w_MAX_INCL_VAT (g := (mkF m 8 #[.val (.ref w_MIN_INCL_VAT)] [(.ref w_MIN_INCL_VAT)])) rfl (hb hby d4_8)
  obtain ⟨fs, hr, hrun, hended, hW, hsame⟩ := X2.leave (v := some (.int (0 : Int32))) (fun h => by rw [Bd.returns] at h; cases h)
  refine ⟨_, _, pre0 _ ?_, hrun, hended, _, _, rfl, ?_, ⟨_, rfl⟩, hW, hsame.mono (by decide) (by decide)⟩
  · show Steps p.tables e below (s₁.setTop (mkF m 0 #[.val (.ref w_MIN_INCL_VAT)] [])) _
    refine XS.aloadN X0.here hx rfl (hb hby d4_0) rfl rfl ?_
    show Steps p.tables e below (s₁.setTop (mkF m 1 #[.val (.ref w_MIN_INCL_VAT)] [(.ref w_MIN_INCL_VAT)])) _
    refine st1 _ ?_
    show Steps p.tables e below (T1.setTop (mkF m 4 #[.val (.ref w_MIN_INCL_VAT)] [(.ref w_MAX_EXCL_VAT), (.ref w_MIN_INCL_VAT)])) _
    refine Jvm.RoadKit.acmp (g := (mkF m 4 #[.val (.ref w_MIN_INCL_VAT)] [(.ref w_MAX_EXCL_VAT), (.ref w_MIN_INCL_VAT)])) X1 hx rfl rfl rfl (pc0 := 4) (pc' := 7) (same := false) rfl (hb hby d4_4) rfl (decide_eq_false fun q => ne_w_MIN_INCL_VAT_w_MAX_EXCL_VAT (Value.ref.inj q)) (by decide) (by decide) ?_
    show Steps p.tables e below (T1.setTop (mkF m 7 #[.val (.ref w_MIN_INCL_VAT)] [])) _
    refine XS.aloadN X1.here hx rfl (hb hby d4_7) rfl rfl ?_
    show Steps p.tables e below (T1.setTop (mkF m 8 #[.val (.ref w_MIN_INCL_VAT)] [(.ref w_MIN_INCL_VAT)])) _
    refine st2 _ ?_
    show Steps p.tables e below (T2.setTop (mkF m 11 #[.val (.ref w_MIN_INCL_VAT)] [(.ref w_MAX_INCL_VAT), (.ref w_MIN_INCL_VAT)])) _
    refine Jvm.RoadKit.acmp (g := (mkF m 11 #[.val (.ref w_MIN_INCL_VAT)] [(.ref w_MAX_INCL_VAT), (.ref w_MIN_INCL_VAT)])) X2 hx rfl rfl rfl (pc0 := 11) (pc' := 18) (same := false) rfl (hb hby d4_11) rfl (decide_eq_false fun q => ne_w_MIN_INCL_VAT_w_MAX_INCL_VAT (Value.ref.inj q)) (by decide) (by decide) ?_
    show Steps p.tables e below (T2.setTop (mkF m 18 #[.val (.ref w_MIN_INCL_VAT)] [])) _
    refine XS.iconst X2.here hx rfl (hb hby d4_18) ?_
    show Steps p.tables e below (T2.setTop (mkF m 19 #[.val (.ref w_MIN_INCL_VAT)] [(.int (0 : Int32))])) _
    exact retN X2 hx (t := .boolean) Bd.returns (by simp) (hb hby d4_19) hr
  · exact ⟨rfl, N0, e2⟩
def Q3_11 (Z : State) (w_MIN_EXCL_VAT : Addr) (w_MIN_INCL_VAT : Addr) (w_MAX_INCL_VAT : Addr) (w_MAX_EXCL_VAT : Addr) (h0 : Heap) (n0 : Nat) (v : Option Value) (h : Heap) (L : List Loc) : Prop := v = some (.ref w_MIN_INCL_VAT) ∧ Fr n0 L ∧ h = h0
set_option maxRecDepth 65536 in
set_option maxHeartbeats 40000000 in
theorem rm3_11 (l : Launch) (Z : State) (a0 : Array Value) (hw : ∀ d ∈ tables_1, d.before a0 Z = true) (ws : List Jvm.Cond) (w_MIN_EXCL_VAT : Addr) (w_MIN_INCL_VAT : Addr) (w_MAX_INCL_VAT : Addr) (w_MAX_EXCL_VAT : Addr) (h0 : Heap) (n0 : Nat) (Z0 : n0 ≤ h0.size) (HW : World Z h0 w_MIN_EXCL_VAT w_MIN_INCL_VAT w_MAX_INCL_VAT w_MAX_EXCL_VAT) :
    MetFree l (⟨"com/example/nuthatch/nuthatch/tariff/PriceBound", "onInclVat", "()Lcom/example/nuthatch/nuthatch/tariff/PriceBound;"⟩ : MethodName) (head1 (Jvm.Cond.code (⟨"com/example/nuthatch/nuthatch/tariff/PriceBound", "onInclVat", "()Lcom/example/nuthatch/nuthatch/tariff/PriceBound;"⟩ : MethodName) prog_67_method_6_code 1 (some (.object "com/example/nuthatch/nuthatch/tariff/PriceBound")) :: ws) ({ frames := 1, cells := 0, slots := 0, locals := 12 } : Room)) (fun a U => a = #[(.ref w_MIN_INCL_VAT)] ∧ Z.Warmed39 U.vm ∧ U.heap = h0) (fun _ _ _ _ _ => True) (fun _ U o U' => ∃ v L, o = .returned v ∧ Q3_11 Z w_MIN_EXCL_VAT w_MIN_INCL_VAT w_MAX_INCL_VAT w_MAX_EXCL_VAT h0 n0 v U'.heap L ∧ FrameEnd U o U' L ({ frames := 1, cells := 0, slots := 0, locals := 12 } : Room).cells ({ frames := 1, cells := 0, slots := 0, locals := 12 } : Room).slots) := by
  refine MetFree.of_bodySF (plainFor_of_name pn18) hisR ?_
  intro p e s m args below meth c s₁ Bd hml0 hP hK
  obtain ⟨rfl, hZ, hh⟩ := hP
  have hx := Bd.exec
  have hby := Bd.bytes
  have hml : c.maxLocals = 1 := hml0
  have hown : s.vm.findClass "com/example/nuthatch/nuthatch/tariff/PriceBound" = some m.cls := findClass_of_methodNamed Bd.named
  have X0 : Stand p l e ({ frames := 1, cells := 0, slots := 0, locals := 12 } : Room) s m #[(.ref w_MIN_INCL_VAT)] below meth c s₁ [] 0 0 := Stand.of_body Bd
  have e0 : s₁.heap = h0 := by rw [← hh, Bd.state]; rfl
  have N0 := Fr.nil n0
  have pre0 : ∀ t, Steps p.tables e below (s₁.setTop (mkF m 0 #[.val (.ref w_MIN_INCL_VAT)] [])) t → Steps p.tables e below (s₁.setTop (entryFrame m #[(.ref w_MIN_INCL_VAT)] 1)) t := fun t k => castTop (ef36 m w_MIN_INCL_VAT) k
  obtain ⟨S_w_MIN_EXCL_VAT, E_w_MIN_EXCL_VAT, S_w_MIN_INCL_VAT, E_w_MIN_INCL_VAT, S_w_MAX_INCL_VAT, E_w_MAX_INCL_VAT, S_w_MAX_EXCL_VAT, E_w_MAX_EXCL_VAT, F_ordinal_w_MIN_EXCL_VAT, F_ordinal_w_MIN_INCL_VAT, F_ordinal_w_MAX_INCL_VAT, F_ordinal_w_MAX_EXCL_VAT, ne_w_MIN_EXCL_VAT_w_MIN_INCL_VAT, ne_w_MIN_EXCL_VAT_w_MAX_INCL_VAT, ne_w_MIN_EXCL_VAT_w_MAX_EXCL_VAT, ne_w_MIN_INCL_VAT_w_MAX_INCL_VAT, ne_w_MIN_INCL_VAT_w_MAX_EXCL_VAT, ne_w_MAX_INCL_VAT_w_MAX_EXCL_VAT, -⟩ := id HW
  obtain ⟨cq1, kq1, q1a, q1b, q1c⟩ := isOf hZ e0 E_w_MIN_INCL_VAT
  obtain ⟨_, _, ⟨T1, L1, k1, n1⟩, -, X1, ⟨Lc1, hQ1, l1, y1, z1⟩, st1⟩ := X0.virtualBack hx (y := (⟨"com/example/nuthatch/nuthatch/tariff/PriceBound", "isMaximum", "()Z"⟩ : MethodName)) (z := (⟨"com/example/nuthatch/nuthatch/tariff/PriceBound", "isMaximum", "()Z"⟩ : MethodName)) hown (mvT hZ (hw _ (List.mem_of_getElem? (i := 21) rfl))) (mvT hZ (hw _ (List.mem_of_getElem? (i := 22) rfl))) (notFace_of_selects (args := #[]) (mvT hZ (hw _ (List.mem_of_getElem? (i := 24) rfl)))) (mvT hZ (hw _ (List.mem_of_getElem? (i := 24) rfl))) (mvT hZ (hw _ (List.mem_of_getElem? (i := 23) rfl))) (by decide) (backOf (W := 0) (rm4_10 l Z a0 hw [] w_MIN_EXCL_VAT w_MIN_INCL_VAT w_MAX_INCL_VAT w_MAX_EXCL_VAT h0 n0 Z0 HW) hZ (hw _ (List.mem_of_getElem? (i := 25) rfl)) (hw _ (List.mem_of_getElem? (i := 5) rfl)) (by decide) (by decide)) q1a q1c (g := (mkF m 1 #[.val (.ref w_MIN_INCL_VAT)] [(.ref w_MIN_INCL_VAT)])) rfl (by rw [hml]; rfl) (Steps.refl _) (argsL := []) (rest := []) (lenOf pd19 rfl) rfl (by show 2 * 0 + _ ≤ _; exact Nat.le_of_eq rfl) (hb hby d3_1) (fun _ _ => ⟨rfl, e0, (by decide : 0 + 0 ≤ _), (by decide : 0 + 0 ≤ _)⟩)
  dsimp only [Pt.U, Pt.locs, Pt.cells, Pt.slots] at X1 l1 y1 z1 st1 hQ1
  subst l1 y1 z1
  obtain ⟨rfl, N1q, e1⟩ := hQ1
  have N1 := Fr.app N0 N1q
  obtain ⟨T2, X2, e2, st2⟩ := getS2 X1 hx hZ hown (host := "") (Or.inl (hw _ (List.mem_of_getElem? (i := 12) rfl))) Via.refl e1 S_w_MIN_INCL_VAT (g := (mkF m 13 #[.val (.ref w_MIN_INCL_VAT)] [])) rfl (hb hby d3_13)
  obtain ⟨fs, hr, hrun, hended, hW, hsame⟩ := X2.leave (v := some (.ref w_MIN_INCL_VAT)) (fun h => by rw [Bd.returns] at h; cases h)
  refine ⟨_, _, pre0 _ ?_, hrun, hended, _, _, rfl, ?_, ⟨_, rfl⟩, hW, hsame.mono (by decide) (by decide)⟩
  · show Steps p.tables e below (s₁.setTop (mkF m 0 #[.val (.ref w_MIN_INCL_VAT)] [])) _
    refine XS.aloadN X0.here hx rfl (hb hby d3_0) rfl rfl ?_
    show Steps p.tables e below (s₁.setTop (mkF m 1 #[.val (.ref w_MIN_INCL_VAT)] [(.ref w_MIN_INCL_VAT)])) _
    refine st1.trans ?_
    show Steps p.tables e below (T1.setTop (mkF m 4 #[.val (.ref w_MIN_INCL_VAT)] [(.int (0 : Int32))])) _
    refine XS.ifYes X1.here hx rfl (pc0 := 4) (pc' := 13) rfl (hb hby d3_4) rfl ((if0 _ _).trans (teq (by decide : (0 : Int32) = (0 : Int32))).1) (by decide) (by decide) ?_
    show Steps p.tables e below (T1.setTop (mkF m 13 #[.val (.ref w_MIN_INCL_VAT)] [])) _
    refine st2 _ ?_
    show Steps p.tables e below (T2.setTop (mkF m 16 #[.val (.ref w_MIN_INCL_VAT)] [(.ref w_MIN_INCL_VAT)])) _
    jvm_step X2.here [X2.here.top, hx, (hb hby d3_16), X2.method', Bd.returns, Value.isRef, FieldType.isReference]
    first | (intro acts; rw [hr _ acts rfl rfl rfl]) | rw [hr _ _ rfl rfl rfl]
    exact Steps.refl _
  · exact ⟨rfl, N1, e2⟩
def Q6_12 (Z : State) (w_MIN_EXCL_VAT : Addr) (w_MIN_INCL_VAT : Addr) (w_MAX_INCL_VAT : Addr) (w_MAX_EXCL_VAT : Addr) (h0 : Heap) (n0 : Nat) (v : Option Value) (h : Heap) (L : List Loc) : Prop := v = some (.int (1 : Int32)) ∧ Fr n0 L ∧ h = h0
set_option maxRecDepth 65536 in
set_option maxHeartbeats 40000000 in
theorem rm6_12 (l : Launch) (Z : State) (a0 : Array Value) (hw : ∀ d ∈ tables_1, d.before a0 Z = true) (ws : List Jvm.Cond) (w_MIN_EXCL_VAT : Addr) (w_MIN_INCL_VAT : Addr) (w_MAX_INCL_VAT : Addr) (w_MAX_EXCL_VAT : Addr) (h0 : Heap) (n0 : Nat) (Z0 : n0 ≤ h0.size) (HW : World Z h0 w_MIN_EXCL_VAT w_MIN_INCL_VAT w_MAX_INCL_VAT w_MAX_EXCL_VAT) :
    MetFree l (⟨"java/lang/Enum", "ordinal", "()I"⟩ : MethodName) (head1 (Jvm.Cond.code (⟨"java/lang/Enum", "ordinal", "()I"⟩ : MethodName) jdk_37_method_2_code 1 (some .int) :: ws) ({ frames := 0, cells := 0, slots := 0, locals := 0 } : Room)) (fun a U => a = #[(.ref w_MIN_INCL_VAT)] ∧ Z.Warmed39 U.vm ∧ U.heap = h0) (fun _ _ _ _ _ => True) (fun _ U o U' => ∃ v L, o = .returned v ∧ Q6_12 Z w_MIN_EXCL_VAT w_MIN_INCL_VAT w_MAX_INCL_VAT w_MAX_EXCL_VAT h0 n0 v U'.heap L ∧ FrameEnd U o U' L ({ frames := 0, cells := 0, slots := 0, locals := 0 } : Room).cells ({ frames := 0, cells := 0, slots := 0, locals := 0 } : Room).slots) := by
  refine MetFree.of_bodySF (plainFor_of_name pn44) hisR ?_
  intro p e s m args below meth c s₁ Bd hml0 hP hK
  obtain ⟨rfl, hZ, hh⟩ := hP
  have hx := Bd.exec
  have hby := Bd.bytes
  have hml : c.maxLocals = 1 := hml0
  have hown : s.vm.findClass "java/lang/Enum" = some m.cls := findClass_of_methodNamed Bd.named
  have X0 : Stand p l e ({ frames := 0, cells := 0, slots := 0, locals := 0 } : Room) s m #[(.ref w_MIN_INCL_VAT)] below meth c s₁ [] 0 0 := Stand.of_body Bd
  have e0 : s₁.heap = h0 := by rw [← hh, Bd.state]; rfl
  have N0 := Fr.nil n0
  have pre0 : ∀ t, Steps p.tables e below (s₁.setTop (mkF m 0 #[.val (.ref w_MIN_INCL_VAT)] [])) t → Steps p.tables e below (s₁.setTop (entryFrame m #[(.ref w_MIN_INCL_VAT)] 1)) t := fun t k => castTop (ef43 m w_MIN_INCL_VAT) k
  obtain ⟨S_w_MIN_EXCL_VAT, E_w_MIN_EXCL_VAT, S_w_MIN_INCL_VAT, E_w_MIN_INCL_VAT, S_w_MAX_INCL_VAT, E_w_MAX_INCL_VAT, S_w_MAX_EXCL_VAT, E_w_MAX_EXCL_VAT, F_ordinal_w_MIN_EXCL_VAT, F_ordinal_w_MIN_INCL_VAT, F_ordinal_w_MAX_INCL_VAT, F_ordinal_w_MAX_EXCL_VAT, ne_w_MIN_EXCL_VAT_w_MIN_INCL_VAT, ne_w_MIN_EXCL_VAT_w_MAX_INCL_VAT, ne_w_MIN_EXCL_VAT_w_MAX_EXCL_VAT, ne_w_MIN_INCL_VAT_w_MAX_INCL_VAT, ne_w_MIN_INCL_VAT_w_MAX_EXCL_VAT, ne_w_MAX_INCL_VAT_w_MAX_EXCL_VAT, -⟩ := id HW
  obtain ⟨T1, X1, e1, st1⟩ := getF X0 hx hZ hown (host := "") (Or.inl (hw _ (List.mem_of_getElem? (i := 40) rfl))) Via.refl e0 F_ordinal_w_MIN_INCL_VAT (g := (mkF m 1 #[.val (.ref w_MIN_INCL_VAT)] [(.ref w_MIN_INCL_VAT)])) rfl rfl (hb hby d6_1)
  obtain ⟨fs, hr, hrun, hended, hW, hsame⟩ := X1.leave (v := some (.int (1 : Int32))) (fun h => by rw [Bd.returns] at h; cases h)
  refine ⟨_, _, pre0 _ ?_, hrun, hended, _, _, rfl, ?_, ⟨_, rfl⟩, hW, hsame.mono (by decide) (by decide)⟩
  · show Steps p.tables e below (s₁.setTop (mkF m 0 #[.val (.ref w_MIN_INCL_VAT)] [])) _
    refine XS.aloadN X0.here hx rfl (hb hby d6_0) rfl rfl ?_
    show Steps p.tables e below (s₁.setTop (mkF m 1 #[.val (.ref w_MIN_INCL_VAT)] [(.ref w_MIN_INCL_VAT)])) _
    refine st1 _ ?_
    show Steps p.tables e below (T1.setTop (mkF m 4 #[.val (.ref w_MIN_INCL_VAT)] [(.int (1 : Int32))])) _
    exact Jvm.RoadKit.retI X1 hx Bd.returns (hb hby d6_4) hr
  · exact ⟨rfl, N0, e1⟩
theorem d5_52 : decode prog_67_method_7_code 52 = .ok (.getstatic 13, 3) := by decide +kernel
theorem d5_55 : decode prog_67_method_7_code 55 = .ok (.goto 12, 3) := by decide +kernel
def Q5_13 (Z : State) (w_MIN_EXCL_VAT : Addr) (w_MIN_INCL_VAT : Addr) (w_MAX_INCL_VAT : Addr) (w_MAX_EXCL_VAT : Addr) (h0 : Heap) (n0 : Nat) (v : Option Value) (h : Heap) (L : List Loc) : Prop := v = some (.ref w_MAX_INCL_VAT) ∧ Fr n0 L ∧ h = h0
set_option maxRecDepth 65536 in
set_option maxHeartbeats 40000000 in
theorem rm5_13 (l : Launch) (Z : State) (a0 : Array Value) (hw : ∀ d ∈ tables_1, d.before a0 Z = true) (ws : List Jvm.Cond) (w_MIN_EXCL_VAT : Addr) (w_MIN_INCL_VAT : Addr) (w_MAX_INCL_VAT : Addr) (w_MAX_EXCL_VAT : Addr) (h0 : Heap) (n0 : Nat) (Z0 : n0 ≤ h0.size) (HW : World Z h0 w_MIN_EXCL_VAT w_MIN_INCL_VAT w_MAX_INCL_VAT w_MAX_EXCL_VAT) :
    MetFree l (⟨"com/example/nuthatch/nuthatch/tariff/PriceBound", "opposite", "()Lcom/example/nuthatch/nuthatch/tariff/PriceBound;"⟩ : MethodName) (head1 (Jvm.Cond.code (⟨"com/example/nuthatch/nuthatch/tariff/PriceBound", "opposite", "()Lcom/example/nuthatch/nuthatch/tariff/PriceBound;"⟩ : MethodName) prog_67_method_7_code 1 (some (.object "com/example/nuthatch/nuthatch/tariff/PriceBound")) :: ws) ({ frames := 1, cells := 0, slots := 0, locals := 12 } : Room)) (fun a U => a = #[(.ref w_MIN_INCL_VAT)] ∧ Z.Warmed39 U.vm ∧ U.heap = h0) (fun _ _ _ _ _ => True) (fun _ U o U' => ∃ v L, o = .returned v ∧ Q5_13 Z w_MIN_EXCL_VAT w_MIN_INCL_VAT w_MAX_INCL_VAT w_MAX_EXCL_VAT h0 n0 v U'.heap L ∧ FrameEnd U o U' L ({ frames := 1, cells := 0, slots := 0, locals := 12 } : Room).cells ({ frames := 1, cells := 0, slots := 0, locals := 12 } : Room).slots) := by
  refine MetFree.of_bodySF (plainFor_of_name pn18) hisR ?_
  intro p e s m args below meth c s₁ Bd hml0 hP hK
  obtain ⟨rfl, hZ, hh⟩ := hP
  have hx := Bd.exec
  have hby := Bd.bytes
  have hml : c.maxLocals = 1 := hml0
  have hown : s.vm.findClass "com/example/nuthatch/nuthatch/tariff/PriceBound" = some m.cls := findClass_of_methodNamed Bd.named
  have X0 : Stand p l e ({ frames := 1, cells := 0, slots := 0, locals := 12 } : Room) s m #[(.ref w_MIN_INCL_VAT)] below meth c s₁ [] 0 0 := Stand.of_body Bd
  have e0 : s₁.heap = h0 := by rw [← hh, Bd.state]; rfl
  have N0 := Fr.nil n0
  have pre0 : ∀ t, Steps p.tables e below (s₁.setTop (mkF m 0 #[.val (.ref w_MIN_INCL_VAT)] [])) t → Steps p.tables e below (s₁.setTop (entryFrame m #[(.ref w_MIN_INCL_VAT)] 1)) t := fun t k => castTop (ef52 m w_MIN_INCL_VAT) k
  obtain ⟨S_w_MIN_EXCL_VAT, E_w_MIN_EXCL_VAT, S_w_MIN_INCL_VAT, E_w_MIN_INCL_VAT, S_w_MAX_INCL_VAT, E_w_MAX_INCL_VAT, S_w_MAX_EXCL_VAT, E_w_MAX_EXCL_VAT, F_ordinal_w_MIN_EXCL_VAT, F_ordinal_w_MIN_INCL_VAT, F_ordinal_w_MAX_INCL_VAT, F_ordinal_w_MAX_EXCL_VAT, ne_w_MIN_EXCL_VAT_w_MIN_INCL_VAT, ne_w_MIN_EXCL_VAT_w_MAX_INCL_VAT, ne_w_MIN_EXCL_VAT_w_MAX_EXCL_VAT, ne_w_MIN_INCL_VAT_w_MAX_INCL_VAT, ne_w_MIN_INCL_VAT_w_MAX_EXCL_VAT, ne_w_MAX_INCL_VAT_w_MAX_EXCL_VAT, -⟩ := id HW
  obtain ⟨cq1, kq1, q1a, q1b, q1c⟩ := isOf hZ e0 E_w_MIN_INCL_VAT
  obtain ⟨_, _, ⟨T1, L1, k1, n1⟩, -, X1, ⟨Lc1, hQ1, l1, y1, z1⟩, st1⟩ := X0.virtualBackUp hx (x := (⟨"com/example/nuthatch/nuthatch/tariff/PriceBound", "ordinal", "()I"⟩ : MethodName)) (y := (⟨"java/lang/Enum", "ordinal", "()I"⟩ : MethodName)) hown (mvT hZ (hw _ (List.mem_of_getElem? (i := 33) rfl))) (mvT hZ (hw _ (List.mem_of_getElem? (i := 34) rfl))) (mvT hZ (hw _ (List.mem_of_getElem? (i := 35) rfl))) (by decide) (mvT hZ (hw _ (List.mem_of_getElem? (i := 37) rfl))) (mvT hZ (hw _ (List.mem_of_getElem? (i := 36) rfl))) (backOf (W := 0) (rm6_12 l Z a0 hw [] w_MIN_EXCL_VAT w_MIN_INCL_VAT w_MAX_INCL_VAT w_MAX_EXCL_VAT h0 n0 Z0 HW) hZ (hw _ (List.mem_of_getElem? (i := 39) rfl)) (hw _ (List.mem_of_getElem? (i := 38) rfl)) (by decide) (by decide)) q1a q1c (g := (mkF m 1 #[.val (.ref w_MIN_INCL_VAT)] [(.ref w_MIN_INCL_VAT)])) rfl (by rw [hml]; rfl) (Steps.refl _) (argsL := []) (rest := []) (lenOf pd45 rfl) rfl (by show 2 * 0 + _ ≤ _; exact Nat.le_of_eq rfl) (hb hby d5_1) (fun _ _ => ⟨rfl, e0, (by decide : 0 + 0 ≤ _), (by decide : 0 + 0 ≤ _)⟩)
  dsimp only [Pt.U, Pt.locs, Pt.cells, Pt.slots] at X1 l1 y1 z1 st1 hQ1
  subst l1 y1 z1
  obtain ⟨rfl, N1q, e1⟩ := hQ1
  have N1 := Fr.app N0 N1q
  obtain ⟨T2, X2, e2, st2⟩ := getS2 X1 hx hZ hown (host := "") (Or.inl (hw _ (List.mem_of_getElem? (i := 14) rfl))) Via.refl e1 S_w_MAX_INCL_VAT (g := (mkF m 52 #[.val (.ref w_MIN_INCL_VAT)] [])) rfl (hb hby d5_52)
  obtain ⟨fs, hr, hrun, hended, hW, hsame⟩ := X2.leave (v := some (.ref w_MAX_INCL_VAT)) (fun h => by rw [Bd.returns] at h; cases h)
  refine ⟨_, _, pre0 _ ?_, hrun, hended, _, _, rfl, ?_, ⟨_, rfl⟩, hW, hsame.mono (by decide) (by decide)⟩
  · show Steps p.tables e below (s₁.setTop (mkF m 0 #[.val (.ref w_MIN_INCL_VAT)] [])) _
    refine XS.aloadN X0.here hx rfl (hb hby d5_0) rfl rfl ?_
    show Steps p.tables e below (s₁.setTop (mkF m 1 #[.val (.ref w_MIN_INCL_VAT)] [(.ref w_MIN_INCL_VAT)])) _
    refine st1.trans ?_
    show Steps p.tables e below (T1.setTop (mkF m 4 #[.val (.ref w_MIN_INCL_VAT)] [(.int (1 : Int32))])) _
    refine XS.tswIn X1.here hx rfl (pc0 := 4) (pc' := 52) rfl (hb hby d5_4) rfl (by decide) (o := 48) (by decide) (by decide) (by decide) ?_
    show Steps p.tables e below (T1.setTop (mkF m 52 #[.val (.ref w_MIN_INCL_VAT)] [])) _
    refine st2 _ ?_
    show Steps p.tables e below (T2.setTop (mkF m 55 #[.val (.ref w_MIN_INCL_VAT)] [(.ref w_MAX_INCL_VAT)])) _
    refine XS.goto X2.here hx rfl (pc0 := 55) (pc' := 67) rfl (hb hby d5_55) (by decide) (by decide) ?_
    show Steps p.tables e below (T2.setTop (mkF m 67 #[.val (.ref w_MIN_INCL_VAT)] [(.ref w_MAX_INCL_VAT)])) _
    jvm_step X2.here [X2.here.top, hx, (hb hby d5_67), X2.method', Bd.returns, Value.isRef, FieldType.isReference]
    first | (intro acts; rw [hr _ acts rfl rfl rfl]) | rw [hr _ _ rfl rfl rfl]
    exact Steps.refl _
  · exact ⟨rfl, N1, e2⟩
def Q2_14 (Z : State) (w_MIN_EXCL_VAT : Addr) (w_MIN_INCL_VAT : Addr) (w_MAX_INCL_VAT : Addr) (w_MAX_EXCL_VAT : Addr) (h0 : Heap) (n0 : Nat) (v : Option Value) (h : Heap) (L : List Loc) : Prop := v = some (.int (1 : Int32)) ∧ Fr n0 L ∧ h = h0
set_option maxRecDepth 65536 in
set_option maxHeartbeats 40000000 in
theorem rm2_14 (l : Launch) (Z : State) (a0 : Array Value) (hw : ∀ d ∈ tables_1, d.before a0 Z = true) (ws : List Jvm.Cond) (w_MIN_EXCL_VAT : Addr) (w_MIN_INCL_VAT : Addr) (w_MAX_INCL_VAT : Addr) (w_MAX_EXCL_VAT : Addr) (h0 : Heap) (n0 : Nat) (Z0 : n0 ≤ h0.size) (HW : World Z h0 w_MIN_EXCL_VAT w_MIN_INCL_VAT w_MAX_INCL_VAT w_MAX_EXCL_VAT) :
    MetFree l (⟨"com/example/nuthatch/nuthatch/tariff/PriceBound", "inclVat", "()Z"⟩ : MethodName) (head1 (Jvm.Cond.code (⟨"com/example/nuthatch/nuthatch/tariff/PriceBound", "inclVat", "()Z"⟩ : MethodName) prog_67_method_5_code 1 (some .boolean) :: ws) ({ frames := 0, cells := 0, slots := 0, locals := 0 } : Room)) (fun a U => a = #[(.ref w_MAX_INCL_VAT)] ∧ Z.Warmed39 U.vm ∧ U.heap = h0) (fun _ _ _ _ _ => True) (fun _ U o U' => ∃ v L, o = .returned v ∧ Q2_14 Z w_MIN_EXCL_VAT w_MIN_INCL_VAT w_MAX_INCL_VAT w_MAX_EXCL_VAT h0 n0 v U'.heap L ∧ FrameEnd U o U' L ({ frames := 0, cells := 0, slots := 0, locals := 0 } : Room).cells ({ frames := 0, cells := 0, slots := 0, locals := 0 } : Room).slots) := by
  refine MetFree.of_bodySF (plainFor_of_name pn18) hisR ?_
  intro p e s m args below meth c s₁ Bd hml0 hP hK
  obtain ⟨rfl, hZ, hh⟩ := hP
  have hx := Bd.exec
  have hby := Bd.bytes
  have hml : c.maxLocals = 1 := hml0
  have hown : s.vm.findClass "com/example/nuthatch/nuthatch/tariff/PriceBound" = some m.cls := findClass_of_methodNamed Bd.named
  have X0 : Stand p l e ({ frames := 0, cells := 0, slots := 0, locals := 0 } : Room) s m #[(.ref w_MAX_INCL_VAT)] below meth c s₁ [] 0 0 := Stand.of_body Bd
  have e0 : s₁.heap = h0 := by rw [← hh, Bd.state]; rfl
  have N0 := Fr.nil n0
  have pre0 : ∀ t, Steps p.tables e below (s₁.setTop (mkF m 0 #[.val (.ref w_MAX_INCL_VAT)] [])) t → Steps p.tables e below (s₁.setTop (entryFrame m #[(.ref w_MAX_INCL_VAT)] 1)) t := fun t k => castTop (ef17 m w_MAX_INCL_VAT) k
  obtain ⟨S_w_MIN_EXCL_VAT, E_w_MIN_EXCL_VAT, S_w_MIN_INCL_VAT, E_w_MIN_INCL_VAT, S_w_MAX_INCL_VAT, E_w_MAX_INCL_VAT, S_w_MAX_EXCL_VAT, E_w_MAX_EXCL_VAT, F_ordinal_w_MIN_EXCL_VAT, F_ordinal_w_MIN_INCL_VAT, F_ordinal_w_MAX_INCL_VAT, F_ordinal_w_MAX_EXCL_VAT, ne_w_MIN_EXCL_VAT_w_MIN_INCL_VAT, ne_w_MIN_EXCL_VAT_w_MAX_INCL_VAT, ne_w_MIN_EXCL_VAT_w_MAX_EXCL_VAT, ne_w_MIN_INCL_VAT_w_MAX_INCL_VAT, ne_w_MIN_INCL_VAT_w_MAX_EXCL_VAT, ne_w_MAX_INCL_VAT_w_MAX_EXCL_VAT, -⟩ := id HW
  obtain ⟨T1, X1, e1, st1⟩ := getS2 X0 hx hZ hown (host := "") (Or.inl (hw _ (List.mem_of_getElem? (i := 12) rfl))) Via.refl e0 S_w_MIN_INCL_VAT (g := (mkF m 1 #[.val (.ref w_MAX_INCL_VAT)] [(.ref w_MAX_INCL_VAT)])) rfl (hb hby d2_1)
  obtain ⟨T2, X2, e2, st2⟩ := getS2 X1 hx hZ hown (host := "") (Or.inl (hw _ (List.mem_of_getElem? (i := 14) rfl))) Via.refl e1 S_w_MAX_INCL_VAT (g := (mkF m 8 #[.val (.ref w_MAX_INCL_VAT)] [(.ref w_MAX_INCL_VAT)])) rfl (hb hby d2_8)
  obtain ⟨fs, hr, hrun, hended, hW, hsame⟩ := X2.leave (v := some (.int (1 : Int32))) (fun h => by rw [Bd.returns] at h; cases h)
  refine ⟨_, _, pre0 _ ?_, hrun, hended, _, _, rfl, ?_, ⟨_, rfl⟩, hW, hsame.mono (by decide) (by decide)⟩
  · show Steps p.tables e below (s₁.setTop (mkF m 0 #[.val (.ref w_MAX_INCL_VAT)] [])) _
    refine XS.aloadN X0.here hx rfl (hb hby d2_0) rfl rfl ?_
    show Steps p.tables e below (s₁.setTop (mkF m 1 #[.val (.ref w_MAX_INCL_VAT)] [(.ref w_MAX_INCL_VAT)])) _
    refine st1 _ ?_
    show Steps p.tables e below (T1.setTop (mkF m 4 #[.val (.ref w_MAX_INCL_VAT)] [(.ref w_MIN_INCL_VAT), (.ref w_MAX_INCL_VAT)])) _
    refine Jvm.RoadKit.acmp (g := (mkF m 4 #[.val (.ref w_MAX_INCL_VAT)] [(.ref w_MIN_INCL_VAT), (.ref w_MAX_INCL_VAT)])) X1 hx rfl rfl rfl (pc0 := 4) (pc' := 7) (same := false) rfl (hb hby d2_4) rfl (decide_eq_false fun q => ne_w_MIN_INCL_VAT_w_MAX_INCL_VAT (Value.ref.inj q).symm) (by decide) (by decide) ?_
    show Steps p.tables e below (T1.setTop (mkF m 7 #[.val (.ref w_MAX_INCL_VAT)] [])) _
    refine XS.aloadN X1.here hx rfl (hb hby d2_7) rfl rfl ?_
    show Steps p.tables e below (T1.setTop (mkF m 8 #[.val (.ref w_MAX_INCL_VAT)] [(.ref w_MAX_INCL_VAT)])) _
    refine st2 _ ?_
    show Steps p.tables e below (T2.setTop (mkF m 11 #[.val (.ref w_MAX_INCL_VAT)] [(.ref w_MAX_INCL_VAT), (.ref w_MAX_INCL_VAT)])) _
    refine Jvm.RoadKit.acmp (g := (mkF m 11 #[.val (.ref w_MAX_INCL_VAT)] [(.ref w_MAX_INCL_VAT), (.ref w_MAX_INCL_VAT)])) X2 hx rfl rfl rfl (pc0 := 11) (pc' := 14) (same := true) rfl (hb hby d2_11) rfl (decide_eq_true rfl) (by decide) (by decide) ?_
    show Steps p.tables e below (T2.setTop (mkF m 14 #[.val (.ref w_MAX_INCL_VAT)] [])) _
    refine XS.iconst X2.here hx rfl (hb hby d2_14) ?_
    show Steps p.tables e below (T2.setTop (mkF m 15 #[.val (.ref w_MAX_INCL_VAT)] [(.int (1 : Int32))])) _
    refine XS.goto X2.here hx rfl (pc0 := 15) (pc' := 19) rfl (hb hby d2_15) (by decide) (by decide) ?_
    show Steps p.tables e below (T2.setTop (mkF m 19 #[.val (.ref w_MAX_INCL_VAT)] [(.int (1 : Int32))])) _
    exact retN X2 hx (t := .boolean) Bd.returns (by simp) (hb hby d2_19) hr
  · exact ⟨rfl, N0, e2⟩
set_option maxRecDepth 65536 in
set_option maxHeartbeats 40000000 in
theorem rm0_c1 (l : Launch) (Z : State) (a0 : Array Value) (hw : ∀ d ∈ tables_1, d.before a0 Z = true) (ws : List Jvm.Cond) (w_MIN_EXCL_VAT : Addr) (w_MIN_INCL_VAT : Addr) (w_MAX_INCL_VAT : Addr) (w_MAX_EXCL_VAT : Addr) (p1 : Int32) (h0 : Heap) (n0 : Nat) (Z0 : n0 ≤ h0.size) (HW : World Z h0 w_MIN_EXCL_VAT w_MIN_INCL_VAT w_MAX_INCL_VAT w_MAX_EXCL_VAT) (hk : (p1 &&& (3 : Int32)) = (1 : Int32)) :
    MetFree l x (head1 (Jvm.Cond.code x code maxLocals ret :: ws) room_1) (fun a U => a = #[(.int p1)] ∧ Z.Warmed39 U.vm ∧ U.heap = h0) (fun _ _ _ _ _ => True) (fun _ U o U' => ∃ v L, o = .returned v ∧ Q0 h0 n0 v U'.heap L ∧ FrameEnd U o U' L room_1.cells room_1.slots) := by
  refine MetFree.of_bodySF (plainFor_of_name pn6) hisR ?_
  intro p e s m args below meth c s₁ Bd hml0 hP hK
  obtain ⟨rfl, hZ, hh⟩ := hP
  have hx := Bd.exec
  have hby := Bd.bytes
  have hml : c.maxLocals = 5 := hml0
  have hown : s.vm.findClass "com/example/nuthatch/nuthatch/tariff/PriceBoundInclVatPinLaw" = some m.cls := findClass_of_methodNamed Bd.named
  have X0 : Stand p l e room_1 s m #[(.int p1)] below meth c s₁ [] 0 0 := Stand.of_body Bd
  have e0 : s₁.heap = h0 := by rw [← hh, Bd.state]; rfl
  have N0 := Fr.nil n0
  have pre0 : ∀ t, Steps p.tables e below (s₁.setTop (mkF m 0 #[.val (.int p1), .unset, .unset, .unset, .unset] [])) t → Steps p.tables e below (s₁.setTop (entryFrame m #[(.int p1)] maxLocals)) t := fun t k => castTop (ef55 m p1) k
  obtain ⟨S_w_MIN_EXCL_VAT, E_w_MIN_EXCL_VAT, S_w_MIN_INCL_VAT, E_w_MIN_INCL_VAT, S_w_MAX_INCL_VAT, E_w_MAX_INCL_VAT, S_w_MAX_EXCL_VAT, E_w_MAX_EXCL_VAT, F_ordinal_w_MIN_EXCL_VAT, F_ordinal_w_MIN_INCL_VAT, F_ordinal_w_MAX_INCL_VAT, F_ordinal_w_MAX_EXCL_VAT, ne_w_MIN_EXCL_VAT_w_MIN_INCL_VAT, ne_w_MIN_EXCL_VAT_w_MAX_INCL_VAT, ne_w_MIN_EXCL_VAT_w_MAX_EXCL_VAT, ne_w_MIN_INCL_VAT_w_MAX_INCL_VAT, ne_w_MIN_INCL_VAT_w_MAX_EXCL_VAT, ne_w_MAX_INCL_VAT_w_MAX_EXCL_VAT, -⟩ := id HW
  obtain ⟨_, _, ⟨T1, L1, k1, n1⟩, -, X1, ⟨Lc1, hQ1, l1, y1, z1⟩, st1⟩ := Jvm.LawKit.callS X0 hx (y := (⟨"com/example/nuthatch/nuthatch/tariff/PriceBoundInclVatPinLaw", "pick", "(I)Lcom/example/nuthatch/nuthatch/tariff/PriceBound;"⟩ : MethodName)) hown (mvT hZ (hw _ (List.mem_of_getElem? (i := 0) rfl))) (mvT hZ (hw _ (List.mem_of_getElem? (i := 1) rfl))) (mvT hZ (hw _ (List.mem_of_getElem? (i := 2) rfl))) (mvT hZ (hw _ (List.mem_of_getElem? (i := 3) rfl))) (by decide) (backOf (W := 0) (rm1_8 l Z a0 hw [] w_MIN_EXCL_VAT w_MIN_INCL_VAT w_MAX_INCL_VAT w_MAX_EXCL_VAT h0 n0 Z0 HW) hZ (hw _ (List.mem_of_getElem? (i := 3) rfl)) (hw _ (List.mem_of_getElem? (i := 2) rfl)) (by decide) (by decide)) (g := (mkF m 5 #[.val (.int p1), .val (.int (1 : Int32)), .unset, .unset, .unset] [(.int (1 : Int32))])) rfl (by rw [hml]; rfl) (argsL := [(.int (1 : Int32))]) (rest := []) (lenOf pd7 rfl) rfl (by show 2 * 0 + _ ≤ _; exact Nat.le_of_eq rfl) (hb hby at_5) (fun _ _ => ⟨rfl, e0, (by decide : 0 + 0 ≤ _), (by decide : 0 + 0 ≤ _)⟩)
  dsimp only [Pt.U, Pt.locs, Pt.cells, Pt.slots] at X1 l1 y1 z1 st1 hQ1
  subst l1 y1 z1
  obtain ⟨rfl, N1q, e1⟩ := hQ1
  have N1 := Fr.app N0 N1q
  obtain ⟨cq2, kq2, q2a, q2b, q2c⟩ := isOf hZ e1 E_w_MIN_INCL_VAT
  obtain ⟨_, _, ⟨T2, L2, k2, n2⟩, -, X2, ⟨Lc2, hQ2, l2, y2, z2⟩, st2⟩ := X1.virtualBack hx (y := (⟨"com/example/nuthatch/nuthatch/tariff/PriceBound", "inclVat", "()Z"⟩ : MethodName)) (z := (⟨"com/example/nuthatch/nuthatch/tariff/PriceBound", "inclVat", "()Z"⟩ : MethodName)) hown (mvT hZ (hw _ (List.mem_of_getElem? (i := 7) rfl))) (mvT hZ (hw _ (List.mem_of_getElem? (i := 8) rfl))) (notFace_of_selects (args := #[]) (mvT hZ (hw _ (List.mem_of_getElem? (i := 10) rfl)))) (mvT hZ (hw _ (List.mem_of_getElem? (i := 10) rfl))) (mvT hZ (hw _ (List.mem_of_getElem? (i := 9) rfl))) (by decide) (backOf (W := 0) (rm2_9 l Z a0 hw [] w_MIN_EXCL_VAT w_MIN_INCL_VAT w_MAX_INCL_VAT w_MAX_EXCL_VAT h0 n0 Z0 HW) hZ (hw _ (List.mem_of_getElem? (i := 11) rfl)) (hw _ (List.mem_of_getElem? (i := 5) rfl)) (by decide) (by decide)) q2a q2c (g := (mkF m 26 #[.val (.int p1), .val (.int (1 : Int32)), .val (.ref w_MIN_INCL_VAT), .val (.int (1 : Int32)), .unset] [(.ref w_MIN_INCL_VAT)])) rfl (by rw [hml]; rfl) (Steps.refl _) (argsL := []) (rest := []) (lenOf pd19 rfl) rfl (by show 2 * 0 + _ ≤ _; exact Nat.le_of_eq rfl) (hb hby at_26) (fun _ _ => ⟨rfl, e1, (by decide : 0 + 0 ≤ _), (by decide : 0 + 0 ≤ _)⟩)
  dsimp only [Pt.U, Pt.locs, Pt.cells, Pt.slots] at X2 l2 y2 z2 st2 hQ2
  subst l2 y2 z2
  obtain ⟨rfl, N2q, e2⟩ := hQ2
  have N2 := Fr.app N1 N2q
  obtain ⟨cq3, kq3, q3a, q3b, q3c⟩ := isOf hZ e2 E_w_MIN_INCL_VAT
  obtain ⟨_, _, ⟨T3, L3, k3, n3⟩, -, X3, ⟨Lc3, hQ3, l3, y3, z3⟩, st3⟩ := X2.virtualBack hx (y := (⟨"com/example/nuthatch/nuthatch/tariff/PriceBound", "onInclVat", "()Lcom/example/nuthatch/nuthatch/tariff/PriceBound;"⟩ : MethodName)) (z := (⟨"com/example/nuthatch/nuthatch/tariff/PriceBound", "onInclVat", "()Lcom/example/nuthatch/nuthatch/tariff/PriceBound;"⟩ : MethodName)) hown (mvT hZ (hw _ (List.mem_of_getElem? (i := 16) rfl))) (mvT hZ (hw _ (List.mem_of_getElem? (i := 17) rfl))) (notFace_of_selects (args := #[]) (mvT hZ (hw _ (List.mem_of_getElem? (i := 19) rfl)))) (mvT hZ (hw _ (List.mem_of_getElem? (i := 19) rfl))) (mvT hZ (hw _ (List.mem_of_getElem? (i := 18) rfl))) (by decide) (backOf (W := 1) (rm3_11 l Z a0 hw [] w_MIN_EXCL_VAT w_MIN_INCL_VAT w_MAX_INCL_VAT w_MAX_EXCL_VAT h0 n0 Z0 HW) hZ (hw _ (List.mem_of_getElem? (i := 20) rfl)) (hw _ (List.mem_of_getElem? (i := 5) rfl)) (by decide) (by decide)) q3a q3c (g := (mkF m 42 #[.val (.int p1), .val (.int (1 : Int32)), .val (.ref w_MIN_INCL_VAT), .val (.int (1 : Int32)), .val (.int (1 : Int32))] [(.ref w_MIN_INCL_VAT), (.int (1 : Int32))])) rfl (by rw [hml]; rfl) (Steps.refl _) (argsL := []) (rest := [(.int (1 : Int32))]) (lenOf pd37 rfl) rfl (by show 2 * 0 + _ ≤ _; exact Nat.le_of_eq rfl) (hb hby at_42) (fun _ _ => ⟨rfl, e2, (by decide : 0 + 0 ≤ _), (by decide : 0 + 0 ≤ _)⟩)
  dsimp only [Pt.U, Pt.locs, Pt.cells, Pt.slots] at X3 l3 y3 z3 st3 hQ3
  subst l3 y3 z3
  obtain ⟨rfl, N3q, e3⟩ := hQ3
  have N3 := Fr.app N2 N3q
  obtain ⟨cq4, kq4, q4a, q4b, q4c⟩ := isOf hZ e3 E_w_MIN_INCL_VAT
  obtain ⟨_, _, ⟨T4, L4, k4, n4⟩, -, X4, ⟨Lc4, hQ4, l4, y4, z4⟩, st4⟩ := X3.virtualBack hx (y := (⟨"com/example/nuthatch/nuthatch/tariff/PriceBound", "opposite", "()Lcom/example/nuthatch/nuthatch/tariff/PriceBound;"⟩ : MethodName)) (z := (⟨"com/example/nuthatch/nuthatch/tariff/PriceBound", "opposite", "()Lcom/example/nuthatch/nuthatch/tariff/PriceBound;"⟩ : MethodName)) hown (mvT hZ (hw _ (List.mem_of_getElem? (i := 28) rfl))) (mvT hZ (hw _ (List.mem_of_getElem? (i := 29) rfl))) (notFace_of_selects (args := #[]) (mvT hZ (hw _ (List.mem_of_getElem? (i := 31) rfl)))) (mvT hZ (hw _ (List.mem_of_getElem? (i := 31) rfl))) (mvT hZ (hw _ (List.mem_of_getElem? (i := 30) rfl))) (by decide) (backOf (W := 0) (rm5_13 l Z a0 hw [] w_MIN_EXCL_VAT w_MIN_INCL_VAT w_MAX_INCL_VAT w_MAX_EXCL_VAT h0 n0 Z0 HW) hZ (hw _ (List.mem_of_getElem? (i := 32) rfl)) (hw _ (List.mem_of_getElem? (i := 5) rfl)) (by decide) (by decide)) q4a q4c (g := (mkF m 60 #[.val (.int p1), .val (.int (1 : Int32)), .val (.ref w_MIN_INCL_VAT), .val (.int (1 : Int32)), .val (.int (1 : Int32))] [(.ref w_MIN_INCL_VAT)])) rfl (by rw [hml]; rfl) (Steps.refl _) (argsL := []) (rest := []) (lenOf pd37 rfl) rfl (by show 2 * 0 + _ ≤ _; exact Nat.le_of_eq rfl) (hb hby at_60) (fun _ _ => ⟨rfl, e3, (by decide : 0 + 0 ≤ _), (by decide : 0 + 0 ≤ _)⟩)
  dsimp only [Pt.U, Pt.locs, Pt.cells, Pt.slots] at X4 l4 y4 z4 st4 hQ4
  subst l4 y4 z4
  obtain ⟨rfl, N4q, e4⟩ := hQ4
  have N4 := Fr.app N3 N4q
  obtain ⟨cq5, kq5, q5a, q5b, q5c⟩ := isOf hZ e4 E_w_MAX_INCL_VAT
  obtain ⟨_, _, ⟨T5, L5, k5, n5⟩, -, X5, ⟨Lc5, hQ5, l5, y5, z5⟩, st5⟩ := X4.virtualBack hx (y := (⟨"com/example/nuthatch/nuthatch/tariff/PriceBound", "inclVat", "()Z"⟩ : MethodName)) (z := (⟨"com/example/nuthatch/nuthatch/tariff/PriceBound", "inclVat", "()Z"⟩ : MethodName)) hown (mvT hZ (hw _ (List.mem_of_getElem? (i := 7) rfl))) (mvT hZ (hw _ (List.mem_of_getElem? (i := 8) rfl))) (notFace_of_selects (args := #[]) (mvT hZ (hw _ (List.mem_of_getElem? (i := 10) rfl)))) (mvT hZ (hw _ (List.mem_of_getElem? (i := 10) rfl))) (mvT hZ (hw _ (List.mem_of_getElem? (i := 9) rfl))) (by decide) (backOf (W := 0) (rm2_14 l Z a0 hw [] w_MIN_EXCL_VAT w_MIN_INCL_VAT w_MAX_INCL_VAT w_MAX_EXCL_VAT h0 n0 Z0 HW) hZ (hw _ (List.mem_of_getElem? (i := 11) rfl)) (hw _ (List.mem_of_getElem? (i := 5) rfl)) (by decide) (by decide)) q5a q5c (g := (mkF m 63 #[.val (.int p1), .val (.int (1 : Int32)), .val (.ref w_MIN_INCL_VAT), .val (.int (1 : Int32)), .val (.int (1 : Int32))] [(.ref w_MAX_INCL_VAT)])) rfl (by rw [hml]; rfl) (Steps.refl _) (argsL := []) (rest := []) (lenOf pd19 rfl) rfl (by show 2 * 0 + _ ≤ _; exact Nat.le_of_eq rfl) (hb hby at_63) (fun _ _ => ⟨rfl, e4, (by decide : 0 + 0 ≤ _), (by decide : 0 + 0 ≤ _)⟩)
  dsimp only [Pt.U, Pt.locs, Pt.cells, Pt.slots] at X5 l5 y5 z5 st5 hQ5
  subst l5 y5 z5
  obtain ⟨rfl, N5q, e5⟩ := hQ5
  have N5 := Fr.app N4 N5q
  obtain ⟨fs, hr, hrun, hended, hW, hsame⟩ := X5.leave (v := some (.int (1 : Int32))) (fun h => by rw [Bd.returns] at h; cases h)
  refine ⟨_, _, pre0 _ ?_, hrun, hended, _, _, rfl, ?_, ⟨_, rfl⟩, hW, hsame.mono (by decide) (by decide)⟩
  · show Steps p.tables e below (s₁.setTop (mkF m 0 #[.val (.int p1), .unset, .unset, .unset, .unset] [])) _
    refine XS.iloadN X0.here hx rfl (hb hby at_0) rfl ?_
    show Steps p.tables e below (s₁.setTop (mkF m 1 #[.val (.int p1), .unset, .unset, .unset, .unset] [(.int p1)])) _
    refine XS.iconst X0.here hx rfl (hb hby at_1) ?_
    show Steps p.tables e below (s₁.setTop (mkF m 2 #[.val (.int p1), .unset, .unset, .unset, .unset] [(.int (3 : Int32)), (.int p1)])) _
    refine XS.iand X0.here hx rfl (hb hby at_2) rfl ?_
    rw [hk]
    show Steps p.tables e below (s₁.setTop (mkF m 3 #[.val (.int p1), .unset, .unset, .unset, .unset] [(.int (1 : Int32))])) _
    refine XS.istoreN X0.here hx rfl (hb hby at_3) rfl (l' := #[.val (.int p1), .val (.int (1 : Int32)), .unset, .unset, .unset]) rfl ?_
    show Steps p.tables e below (s₁.setTop (mkF m 4 #[.val (.int p1), .val (.int (1 : Int32)), .unset, .unset, .unset] [])) _
    refine XS.iloadN X0.here hx rfl (hb hby at_4) rfl ?_
    show Steps p.tables e below (s₁.setTop (mkF m 5 #[.val (.int p1), .val (.int (1 : Int32)), .unset, .unset, .unset] [(.int (1 : Int32))])) _
    refine st1 _ ?_
    show Steps p.tables e below (T1.setTop (mkF m 8 #[.val (.int p1), .val (.int (1 : Int32)), .unset, .unset, .unset] [(.ref w_MIN_INCL_VAT)])) _
    refine XS.astoreN X1.here hx rfl (hb hby at_8) rfl rfl (l' := #[.val (.int p1), .val (.int (1 : Int32)), .val (.ref w_MIN_INCL_VAT), .unset, .unset]) rfl ?_
    show Steps p.tables e below (T1.setTop (mkF m 9 #[.val (.int p1), .val (.int (1 : Int32)), .val (.ref w_MIN_INCL_VAT), .unset, .unset] [])) _
    refine XS.iloadN X1.here hx rfl (hb hby at_9) rfl ?_
    show Steps p.tables e below (T1.setTop (mkF m 10 #[.val (.int p1), .val (.int (1 : Int32)), .val (.ref w_MIN_INCL_VAT), .unset, .unset] [(.int (1 : Int32))])) _
    refine XS.iconst X1.here hx rfl (hb hby at_10) ?_
    show Steps p.tables e below (T1.setTop (mkF m 11 #[.val (.int p1), .val (.int (1 : Int32)), .val (.ref w_MIN_INCL_VAT), .unset, .unset] [(.int (1 : Int32)), (.int (1 : Int32))])) _
    refine XS.icmpYes X1.here hx rfl (pc0 := 11) (pc' := 19) rfl (hb hby at_11) rfl (teq (by decide : (1 : Int32) = (1 : Int32))).1 (by decide) (by decide) ?_
    show Steps p.tables e below (T1.setTop (mkF m 19 #[.val (.int p1), .val (.int (1 : Int32)), .val (.ref w_MIN_INCL_VAT), .unset, .unset] [])) _
    refine XS.iconst X1.here hx rfl (hb hby at_19) ?_
    show Steps p.tables e below (T1.setTop (mkF m 20 #[.val (.int p1), .val (.int (1 : Int32)), .val (.ref w_MIN_INCL_VAT), .unset, .unset] [(.int (1 : Int32))])) _
    refine XS.goto X1.here hx rfl (pc0 := 20) (pc' := 24) rfl (hb hby at_20) (by decide) (by decide) ?_
    show Steps p.tables e below (T1.setTop (mkF m 24 #[.val (.int p1), .val (.int (1 : Int32)), .val (.ref w_MIN_INCL_VAT), .unset, .unset] [(.int (1 : Int32))])) _
    refine XS.istoreN X1.here hx rfl (hb hby at_24) rfl (l' := #[.val (.int p1), .val (.int (1 : Int32)), .val (.ref w_MIN_INCL_VAT), .val (.int (1 : Int32)), .unset]) rfl ?_
    show Steps p.tables e below (T1.setTop (mkF m 25 #[.val (.int p1), .val (.int (1 : Int32)), .val (.ref w_MIN_INCL_VAT), .val (.int (1 : Int32)), .unset] [])) _
    refine XS.aloadN X1.here hx rfl (hb hby at_25) rfl rfl ?_
    show Steps p.tables e below (T1.setTop (mkF m 26 #[.val (.int p1), .val (.int (1 : Int32)), .val (.ref w_MIN_INCL_VAT), .val (.int (1 : Int32)), .unset] [(.ref w_MIN_INCL_VAT)])) _
    refine st2.trans ?_
    show Steps p.tables e below (T2.setTop (mkF m 29 #[.val (.int p1), .val (.int (1 : Int32)), .val (.ref w_MIN_INCL_VAT), .val (.int (1 : Int32)), .unset] [(.int (1 : Int32))])) _
    refine XS.istore X2.here hx rfl (hb hby at_29) rfl (l' := #[.val (.int p1), .val (.int (1 : Int32)), .val (.ref w_MIN_INCL_VAT), .val (.int (1 : Int32)), .val (.int (1 : Int32))]) rfl ?_
    show Steps p.tables e below (T2.setTop (mkF m 31 #[.val (.int p1), .val (.int (1 : Int32)), .val (.ref w_MIN_INCL_VAT), .val (.int (1 : Int32)), .val (.int (1 : Int32))] [])) _
    refine XS.iload X2.here hx rfl (hb hby at_31) rfl ?_
    show Steps p.tables e below (T2.setTop (mkF m 33 #[.val (.int p1), .val (.int (1 : Int32)), .val (.ref w_MIN_INCL_VAT), .val (.int (1 : Int32)), .val (.int (1 : Int32))] [(.int (1 : Int32))])) _
    refine XS.iloadN X2.here hx rfl (hb hby at_33) rfl ?_
    show Steps p.tables e below (T2.setTop (mkF m 34 #[.val (.int p1), .val (.int (1 : Int32)), .val (.ref w_MIN_INCL_VAT), .val (.int (1 : Int32)), .val (.int (1 : Int32))] [(.int (1 : Int32)), (.int (1 : Int32))])) _
    refine XS.icmpYes X2.here hx rfl (pc0 := 34) (pc' := 39) rfl (hb hby at_34) rfl (teq (by decide : (1 : Int32) = (1 : Int32))).1 (by decide) (by decide) ?_
    show Steps p.tables e below (T2.setTop (mkF m 39 #[.val (.int p1), .val (.int (1 : Int32)), .val (.ref w_MIN_INCL_VAT), .val (.int (1 : Int32)), .val (.int (1 : Int32))] [])) _
    refine XS.iload X2.here hx rfl (hb hby at_39) rfl ?_
    show Steps p.tables e below (T2.setTop (mkF m 41 #[.val (.int p1), .val (.int (1 : Int32)), .val (.ref w_MIN_INCL_VAT), .val (.int (1 : Int32)), .val (.int (1 : Int32))] [(.int (1 : Int32))])) _
    refine XS.aloadN X2.here hx rfl (hb hby at_41) rfl rfl ?_
    show Steps p.tables e below (T2.setTop (mkF m 42 #[.val (.int p1), .val (.int (1 : Int32)), .val (.ref w_MIN_INCL_VAT), .val (.int (1 : Int32)), .val (.int (1 : Int32))] [(.ref w_MIN_INCL_VAT), (.int (1 : Int32))])) _
    refine st3.trans ?_
    show Steps p.tables e below (T3.setTop (mkF m 45 #[.val (.int p1), .val (.int (1 : Int32)), .val (.ref w_MIN_INCL_VAT), .val (.int (1 : Int32)), .val (.int (1 : Int32))] [(.ref w_MIN_INCL_VAT), (.int (1 : Int32))])) _
    refine XS.aloadN X3.here hx rfl (hb hby at_45) rfl rfl ?_
    show Steps p.tables e below (T3.setTop (mkF m 46 #[.val (.int p1), .val (.int (1 : Int32)), .val (.ref w_MIN_INCL_VAT), .val (.int (1 : Int32)), .val (.int (1 : Int32))] [(.ref w_MIN_INCL_VAT), (.ref w_MIN_INCL_VAT), (.int (1 : Int32))])) _
    refine Jvm.RoadKit.acmp (g := (mkF m 46 #[.val (.int p1), .val (.int (1 : Int32)), .val (.ref w_MIN_INCL_VAT), .val (.int (1 : Int32)), .val (.int (1 : Int32))] [(.ref w_MIN_INCL_VAT), (.ref w_MIN_INCL_VAT), (.int (1 : Int32))])) X3 hx rfl rfl rfl (pc0 := 46) (pc' := 49) (same := true) rfl (hb hby at_46) rfl (decide_eq_true rfl) (by decide) (by decide) ?_
    show Steps p.tables e below (T3.setTop (mkF m 49 #[.val (.int p1), .val (.int (1 : Int32)), .val (.ref w_MIN_INCL_VAT), .val (.int (1 : Int32)), .val (.int (1 : Int32))] [(.int (1 : Int32))])) _
    refine XS.iconst X3.here hx rfl (hb hby at_49) ?_
    show Steps p.tables e below (T3.setTop (mkF m 50 #[.val (.int p1), .val (.int (1 : Int32)), .val (.ref w_MIN_INCL_VAT), .val (.int (1 : Int32)), .val (.int (1 : Int32))] [(.int (1 : Int32)), (.int (1 : Int32))])) _
    refine XS.goto X3.here hx rfl (pc0 := 50) (pc' := 54) rfl (hb hby at_50) (by decide) (by decide) ?_
    show Steps p.tables e below (T3.setTop (mkF m 54 #[.val (.int p1), .val (.int (1 : Int32)), .val (.ref w_MIN_INCL_VAT), .val (.int (1 : Int32)), .val (.int (1 : Int32))] [(.int (1 : Int32)), (.int (1 : Int32))])) _
    refine XS.icmpYes X3.here hx rfl (pc0 := 54) (pc' := 59) rfl (hb hby at_54) rfl (teq (by decide : (1 : Int32) = (1 : Int32))).1 (by decide) (by decide) ?_
    show Steps p.tables e below (T3.setTop (mkF m 59 #[.val (.int p1), .val (.int (1 : Int32)), .val (.ref w_MIN_INCL_VAT), .val (.int (1 : Int32)), .val (.int (1 : Int32))] [])) _
    refine XS.aloadN X3.here hx rfl (hb hby at_59) rfl rfl ?_
    show Steps p.tables e below (T3.setTop (mkF m 60 #[.val (.int p1), .val (.int (1 : Int32)), .val (.ref w_MIN_INCL_VAT), .val (.int (1 : Int32)), .val (.int (1 : Int32))] [(.ref w_MIN_INCL_VAT)])) _
    refine st4.trans ?_
    show Steps p.tables e below (T4.setTop (mkF m 63 #[.val (.int p1), .val (.int (1 : Int32)), .val (.ref w_MIN_INCL_VAT), .val (.int (1 : Int32)), .val (.int (1 : Int32))] [(.ref w_MAX_INCL_VAT)])) _
    refine st5.trans ?_
    show Steps p.tables e below (T5.setTop (mkF m 66 #[.val (.int p1), .val (.int (1 : Int32)), .val (.ref w_MIN_INCL_VAT), .val (.int (1 : Int32)), .val (.int (1 : Int32))] [(.int (1 : Int32))])) _
    refine XS.iload X5.here hx rfl (hb hby at_66) rfl ?_
    show Steps p.tables e below (T5.setTop (mkF m 68 #[.val (.int p1), .val (.int (1 : Int32)), .val (.ref w_MIN_INCL_VAT), .val (.int (1 : Int32)), .val (.int (1 : Int32))] [(.int (1 : Int32)), (.int (1 : Int32))])) _
    refine XS.icmpNo X5.here hx rfl (hb hby at_68) rfl (teq (by decide : (1 : Int32) = (1 : Int32))).2 ?_
    show Steps p.tables e below (T5.setTop (mkF m 71 #[.val (.int p1), .val (.int (1 : Int32)), .val (.ref w_MIN_INCL_VAT), .val (.int (1 : Int32)), .val (.int (1 : Int32))] [])) _
    refine XS.iconst X5.here hx rfl (hb hby at_71) ?_
    show Steps p.tables e below (T5.setTop (mkF m 72 #[.val (.int p1), .val (.int (1 : Int32)), .val (.ref w_MIN_INCL_VAT), .val (.int (1 : Int32)), .val (.int (1 : Int32))] [(.int (1 : Int32))])) _
    refine XS.goto X5.here hx rfl (pc0 := 72) (pc' := 76) rfl (hb hby at_72) (by decide) (by decide) ?_
    show Steps p.tables e below (T5.setTop (mkF m 76 #[.val (.int p1), .val (.int (1 : Int32)), .val (.ref w_MIN_INCL_VAT), .val (.int (1 : Int32)), .val (.int (1 : Int32))] [(.int (1 : Int32))])) _
    exact retN X5 hx (t := .boolean) Bd.returns (by simp) (hb hby at_76) hr
  · exact ⟨rfl, N5⟩
theorem d1_17 : decode method_2_code 17 = .ok (.iload_n 0, 1) := by decide +kernel
theorem d1_18 : decode method_2_code 18 = .ok (.iconst 2, 1) := by decide +kernel
theorem d1_19 : decode method_2_code 19 = .ok (.if_icmp .ne 7, 3) := by decide +kernel
theorem d1_22 : decode method_2_code 22 = .ok (.getstatic 16, 3) := by decide +kernel
theorem d1_25 : decode method_2_code 25 = .ok (.areturn, 1) := by decide +kernel
def Q1_16 (Z : State) (w_MIN_EXCL_VAT : Addr) (w_MIN_INCL_VAT : Addr) (w_MAX_INCL_VAT : Addr) (w_MAX_EXCL_VAT : Addr) (h0 : Heap) (n0 : Nat) (v : Option Value) (h : Heap) (L : List Loc) : Prop := v = some (.ref w_MAX_EXCL_VAT) ∧ Fr n0 L ∧ h = h0
set_option maxRecDepth 65536 in
set_option maxHeartbeats 40000000 in
theorem rm1_16 (l : Launch) (Z : State) (a0 : Array Value) (hw : ∀ d ∈ tables_1, d.before a0 Z = true) (ws : List Jvm.Cond) (w_MIN_EXCL_VAT : Addr) (w_MIN_INCL_VAT : Addr) (w_MAX_INCL_VAT : Addr) (w_MAX_EXCL_VAT : Addr) (h0 : Heap) (n0 : Nat) (Z0 : n0 ≤ h0.size) (HW : World Z h0 w_MIN_EXCL_VAT w_MIN_INCL_VAT w_MAX_INCL_VAT w_MAX_EXCL_VAT) :
    MetFree l (⟨"com/example/nuthatch/nuthatch/tariff/PriceBoundInclVatPinLaw", "pick", "(I)Lcom/example/nuthatch/nuthatch/tariff/PriceBound;"⟩ : MethodName) (head1 (Jvm.Cond.code (⟨"com/example/nuthatch/nuthatch/tariff/PriceBoundInclVatPinLaw", "pick", "(I)Lcom/example/nuthatch/nuthatch/tariff/PriceBound;"⟩ : MethodName) method_2_code 1 (some (.object "com/example/nuthatch/nuthatch/tariff/PriceBound")) :: ws) ({ frames := 0, cells := 0, slots := 0, locals := 0 } : Room)) (fun a U => a = #[(.int (2 : Int32))] ∧ Z.Warmed39 U.vm ∧ U.heap = h0) (fun _ _ _ _ _ => True) (fun _ U o U' => ∃ v L, o = .returned v ∧ Q1_16 Z w_MIN_EXCL_VAT w_MIN_INCL_VAT w_MAX_INCL_VAT w_MAX_EXCL_VAT h0 n0 v U'.heap L ∧ FrameEnd U o U' L ({ frames := 0, cells := 0, slots := 0, locals := 0 } : Room).cells ({ frames := 0, cells := 0, slots := 0, locals := 0 } : Room).slots) := by
  refine MetFree.of_bodySF (plainFor_of_name pn6) hisR ?_
  intro p e s m args below meth c s₁ Bd hml0 hP hK
  obtain ⟨rfl, hZ, hh⟩ := hP
  have hx := Bd.exec
  have hby := Bd.bytes
  have hml : c.maxLocals = 1 := hml0
  have hown : s.vm.findClass "com/example/nuthatch/nuthatch/tariff/PriceBoundInclVatPinLaw" = some m.cls := findClass_of_methodNamed Bd.named
  have X0 : Stand p l e ({ frames := 0, cells := 0, slots := 0, locals := 0 } : Room) s m #[(.int (2 : Int32))] below meth c s₁ [] 0 0 := Stand.of_body Bd
  have e0 : s₁.heap = h0 := by rw [← hh, Bd.state]; rfl
  have N0 := Fr.nil n0
  have pre0 : ∀ t, Steps p.tables e below (s₁.setTop (mkF m 0 #[.val (.int (2 : Int32))] [])) t → Steps p.tables e below (s₁.setTop (entryFrame m #[(.int (2 : Int32))] 1)) t := fun t k => castTop (ef5 m (2 : Int32)) k
  obtain ⟨S_w_MIN_EXCL_VAT, E_w_MIN_EXCL_VAT, S_w_MIN_INCL_VAT, E_w_MIN_INCL_VAT, S_w_MAX_INCL_VAT, E_w_MAX_INCL_VAT, S_w_MAX_EXCL_VAT, E_w_MAX_EXCL_VAT, F_ordinal_w_MIN_EXCL_VAT, F_ordinal_w_MIN_INCL_VAT, F_ordinal_w_MAX_INCL_VAT, F_ordinal_w_MAX_EXCL_VAT, ne_w_MIN_EXCL_VAT_w_MIN_INCL_VAT, ne_w_MIN_EXCL_VAT_w_MAX_INCL_VAT, ne_w_MIN_EXCL_VAT_w_MAX_EXCL_VAT, ne_w_MIN_INCL_VAT_w_MAX_INCL_VAT, ne_w_MIN_INCL_VAT_w_MAX_EXCL_VAT, ne_w_MAX_INCL_VAT_w_MAX_EXCL_VAT, -⟩ := id HW
  obtain ⟨T1, X1, e1, st1⟩ := getS2 X0 hx hZ hown (host := "") (Or.inl (hw _ (List.mem_of_getElem? (i := 43) rfl))) Via.refl e0 S_w_MAX_EXCL_VAT (g := (mkF m 22 #[.val (.int (2 : Int32))] [])) rfl (hb hby d1_22)
  obtain ⟨fs, hr, hrun, hended, hW, hsame⟩ := X1.leave (v := some (.ref w_MAX_EXCL_VAT)) (fun h => by rw [Bd.returns] at h; cases h)
  refine ⟨_, _, pre0 _ ?_, hrun, hended, _, _, rfl, ?_, ⟨_, rfl⟩, hW, hsame.mono (by decide) (by decide)⟩
  · show Steps p.tables e below (s₁.setTop (mkF m 0 #[.val (.int (2 : Int32))] [])) _
    refine XS.iloadN X0.here hx rfl (hb hby d1_0) rfl ?_
    show Steps p.tables e below (s₁.setTop (mkF m 1 #[.val (.int (2 : Int32))] [(.int (2 : Int32))])) _
    refine XS.ifYes X0.here hx rfl (pc0 := 1) (pc' := 8) rfl (hb hby d1_1) rfl ((if0 _ _).trans (feq (by decide : ¬ ((2 : Int32) = (0 : Int32)))).2) (by decide) (by decide) ?_
    show Steps p.tables e below (s₁.setTop (mkF m 8 #[.val (.int (2 : Int32))] [])) _
    refine XS.iloadN X0.here hx rfl (hb hby d1_8) rfl ?_
    show Steps p.tables e below (s₁.setTop (mkF m 9 #[.val (.int (2 : Int32))] [(.int (2 : Int32))])) _
    refine XS.iconst X0.here hx rfl (hb hby d1_9) ?_
    show Steps p.tables e below (s₁.setTop (mkF m 10 #[.val (.int (2 : Int32))] [(.int (1 : Int32)), (.int (2 : Int32))])) _
    refine XS.icmpYes X0.here hx rfl (pc0 := 10) (pc' := 17) rfl (hb hby d1_10) rfl (feq (by decide : ¬ ((2 : Int32) = (1 : Int32)))).2 (by decide) (by decide) ?_
    show Steps p.tables e below (s₁.setTop (mkF m 17 #[.val (.int (2 : Int32))] [])) _
    refine XS.iloadN X0.here hx rfl (hb hby d1_17) rfl ?_
    show Steps p.tables e below (s₁.setTop (mkF m 18 #[.val (.int (2 : Int32))] [(.int (2 : Int32))])) _
    refine XS.iconst X0.here hx rfl (hb hby d1_18) ?_
    show Steps p.tables e below (s₁.setTop (mkF m 19 #[.val (.int (2 : Int32))] [(.int (2 : Int32)), (.int (2 : Int32))])) _
    refine XS.icmpNo X0.here hx rfl (hb hby d1_19) rfl (teq (by decide : (2 : Int32) = (2 : Int32))).2 ?_
    show Steps p.tables e below (s₁.setTop (mkF m 22 #[.val (.int (2 : Int32))] [])) _
    refine st1 _ ?_
    show Steps p.tables e below (T1.setTop (mkF m 25 #[.val (.int (2 : Int32))] [(.ref w_MAX_EXCL_VAT)])) _
    jvm_step X1.here [X1.here.top, hx, (hb hby d1_25), X1.method', Bd.returns, Value.isRef, FieldType.isReference]
    first | (intro acts; rw [hr _ acts rfl rfl rfl]) | rw [hr _ _ rfl rfl rfl]
    exact Steps.refl _
  · exact ⟨rfl, N0, e1⟩
theorem d4_14 : decode prog_67_method_4_code 14 = .ok (.iconst 1, 1) := by decide +kernel
theorem d4_15 : decode prog_67_method_4_code 15 = .ok (.goto 4, 3) := by decide +kernel
def Q4_17 (Z : State) (w_MIN_EXCL_VAT : Addr) (w_MIN_INCL_VAT : Addr) (w_MAX_INCL_VAT : Addr) (w_MAX_EXCL_VAT : Addr) (h0 : Heap) (n0 : Nat) (v : Option Value) (h : Heap) (L : List Loc) : Prop := v = some (.int (1 : Int32)) ∧ Fr n0 L ∧ h = h0
set_option maxRecDepth 65536 in
set_option maxHeartbeats 40000000 in
theorem rm4_17 (l : Launch) (Z : State) (a0 : Array Value) (hw : ∀ d ∈ tables_1, d.before a0 Z = true) (ws : List Jvm.Cond) (w_MIN_EXCL_VAT : Addr) (w_MIN_INCL_VAT : Addr) (w_MAX_INCL_VAT : Addr) (w_MAX_EXCL_VAT : Addr) (h0 : Heap) (n0 : Nat) (Z0 : n0 ≤ h0.size) (HW : World Z h0 w_MIN_EXCL_VAT w_MIN_INCL_VAT w_MAX_INCL_VAT w_MAX_EXCL_VAT) :
    MetFree l (⟨"com/example/nuthatch/nuthatch/tariff/PriceBound", "isMaximum", "()Z"⟩ : MethodName) (head1 (Jvm.Cond.code (⟨"com/example/nuthatch/nuthatch/tariff/PriceBound", "isMaximum", "()Z"⟩ : MethodName) prog_67_method_4_code 1 (some .boolean) :: ws) ({ frames := 0, cells := 0, slots := 0, locals := 0 } : Room)) (fun a U => a = #[(.ref w_MAX_EXCL_VAT)] ∧ Z.Warmed39 U.vm ∧ U.heap = h0) (fun _ _ _ _ _ => True) (fun _ U o U' => ∃ v L, o = .returned v ∧ Q4_17 Z w_MIN_EXCL_VAT w_MIN_INCL_VAT w_MAX_INCL_VAT w_MAX_EXCL_VAT h0 n0 v U'.heap L ∧ FrameEnd U o U' L ({ frames := 0, cells := 0, slots := 0, locals := 0 } : Room).cells ({ frames := 0, cells := 0, slots := 0, locals := 0 } : Room).slots) := by
  refine MetFree.of_bodySF (plainFor_of_name pn18) hisR ?_
  intro p e s m args below meth c s₁ Bd hml0 hP hK
  obtain ⟨rfl, hZ, hh⟩ := hP
  have hx := Bd.exec
  have hby := Bd.bytes
  have hml : c.maxLocals = 1 := hml0
  have hown : s.vm.findClass "com/example/nuthatch/nuthatch/tariff/PriceBound" = some m.cls := findClass_of_methodNamed Bd.named
  have X0 : Stand p l e ({ frames := 0, cells := 0, slots := 0, locals := 0 } : Room) s m #[(.ref w_MAX_EXCL_VAT)] below meth c s₁ [] 0 0 := Stand.of_body Bd
  have e0 : s₁.heap = h0 := by rw [← hh, Bd.state]; rfl
  have N0 := Fr.nil n0
  have pre0 : ∀ t, Steps p.tables e below (s₁.setTop (mkF m 0 #[.val (.ref w_MAX_EXCL_VAT)] [])) t → Steps p.tables e below (s₁.setTop (entryFrame m #[(.ref w_MAX_EXCL_VAT)] 1)) t := fun t k => castTop (ef30 m w_MAX_EXCL_VAT) k
  obtain ⟨S_w_MIN_EXCL_VAT, E_w_MIN_EXCL_VAT, S_w_MIN_INCL_VAT, E_w_MIN_INCL_VAT, S_w_MAX_INCL_VAT, E_w_MAX_INCL_VAT, S_w_MAX_EXCL_VAT, E_w_MAX_EXCL_VAT, F_ordinal_w_MIN_EXCL_VAT, F_ordinal_w_MIN_INCL_VAT, F_ordinal_w_MAX_INCL_VAT, F_ordinal_w_MAX_EXCL_VAT, ne_w_MIN_EXCL_VAT_w_MIN_INCL_VAT, ne_w_MIN_EXCL_VAT_w_MAX_INCL_VAT, ne_w_MIN_EXCL_VAT_w_MAX_EXCL_VAT, ne_w_MIN_INCL_VAT_w_MAX_INCL_VAT, ne_w_MIN_INCL_VAT_w_MAX_EXCL_VAT, ne_w_MAX_INCL_VAT_w_MAX_EXCL_VAT, -⟩ := id HW
  obtain ⟨T1, X1, e1, st1⟩ := getS2 X0 hx hZ hown (host := "") (Or.inl (hw _ (List.mem_of_getElem? (i := 26) rfl))) Via.refl e0 S_w_MAX_EXCL_VAT (g := (mkF m 1 #[.val (.ref w_MAX_EXCL_VAT)] [(.ref w_MAX_EXCL_VAT)])) rfl (hb hby d4_1)
  obtain ⟨fs, hr, hrun, hended, hW, hsame⟩ := X1.leave (v := some (.int (1 : Int32))) (fun h => by rw [Bd.returns] at h; cases h)
  refine ⟨_, _, pre0 _ ?_, hrun, hended, _, _, rfl, ?_, ⟨_, rfl⟩, hW, hsame.mono (by decide) (by decide)⟩
  · show Steps p.tables e below (s₁.setTop (mkF m 0 #[.val (.ref w_MAX_EXCL_VAT)] [])) _
    refine XS.aloadN X0.here hx rfl (hb hby d4_0) rfl rfl ?_
    show Steps p.tables e below (s₁.setTop (mkF m 1 #[.val (.ref w_MAX_EXCL_VAT)] [(.ref w_MAX_EXCL_VAT)])) _
    refine st1 _ ?_
    show Steps p.tables e below (T1.setTop (mkF m 4 #[.val (.ref w_MAX_EXCL_VAT)] [(.ref w_MAX_EXCL_VAT), (.ref w_MAX_EXCL_VAT)])) _
    refine Jvm.RoadKit.acmp (g := (mkF m 4 #[.val (.ref w_MAX_EXCL_VAT)] [(.ref w_MAX_EXCL_VAT), (.ref w_MAX_EXCL_VAT)])) X1 hx rfl rfl rfl (pc0 := 4) (pc' := 14) (same := true) rfl (hb hby d4_4) rfl (decide_eq_true rfl) (by decide) (by decide) ?_
    show Steps p.tables e below (T1.setTop (mkF m 14 #[.val (.ref w_MAX_EXCL_VAT)] [])) _
    refine XS.iconst X1.here hx rfl (hb hby d4_14) ?_
    show Steps p.tables e below (T1.setTop (mkF m 15 #[.val (.ref w_MAX_EXCL_VAT)] [(.int (1 : Int32))])) _
    refine XS.goto X1.here hx rfl (pc0 := 15) (pc' := 19) rfl (hb hby d4_15) (by decide) (by decide) ?_
    show Steps p.tables e below (T1.setTop (mkF m 19 #[.val (.ref w_MAX_EXCL_VAT)] [(.int (1 : Int32))])) _
    exact retN X1 hx (t := .boolean) Bd.returns (by simp) (hb hby d4_19) hr
  · exact ⟨rfl, N0, e1⟩
theorem d3_7 : decode prog_67_method_6_code 7 = .ok (.getstatic 13, 3) := by decide +kernel
theorem d3_10 : decode prog_67_method_6_code 10 = .ok (.goto 6, 3) := by decide +kernel
def Q3_18 (Z : State) (w_MIN_EXCL_VAT : Addr) (w_MIN_INCL_VAT : Addr) (w_MAX_INCL_VAT : Addr) (w_MAX_EXCL_VAT : Addr) (h0 : Heap) (n0 : Nat) (v : Option Value) (h : Heap) (L : List Loc) : Prop := v = some (.ref w_MAX_INCL_VAT) ∧ Fr n0 L ∧ h = h0
set_option maxRecDepth 65536 in
set_option maxHeartbeats 40000000 in
theorem rm3_18 (l : Launch) (Z : State) (a0 : Array Value) (hw : ∀ d ∈ tables_1, d.before a0 Z = true) (ws : List Jvm.Cond) (w_MIN_EXCL_VAT : Addr) (w_MIN_INCL_VAT : Addr) (w_MAX_INCL_VAT : Addr) (w_MAX_EXCL_VAT : Addr) (h0 : Heap) (n0 : Nat) (Z0 : n0 ≤ h0.size) (HW : World Z h0 w_MIN_EXCL_VAT w_MIN_INCL_VAT w_MAX_INCL_VAT w_MAX_EXCL_VAT) :
    MetFree l (⟨"com/example/nuthatch/nuthatch/tariff/PriceBound", "onInclVat", "()Lcom/example/nuthatch/nuthatch/tariff/PriceBound;"⟩ : MethodName) (head1 (Jvm.Cond.code (⟨"com/example/nuthatch/nuthatch/tariff/PriceBound", "onInclVat", "()Lcom/example/nuthatch/nuthatch/tariff/PriceBound;"⟩ : MethodName) prog_67_method_6_code 1 (some (.object "com/example/nuthatch/nuthatch/tariff/PriceBound")) :: ws) ({ frames := 1, cells := 0, slots := 0, locals := 12 } : Room)) (fun a U => a = #[(.ref w_MAX_EXCL_VAT)] ∧ Z.Warmed39 U.vm ∧ U.heap = h0) (fun _ _ _ _ _ => True) (fun _ U o U' => ∃ v L, o = .returned v ∧ Q3_18 Z w_MIN_EXCL_VAT w_MIN_INCL_VAT w_MAX_INCL_VAT w_MAX_EXCL_VAT h0 n0 v U'.heap L ∧ FrameEnd U o U' L ({ frames := 1, cells := 0, slots := 0, locals := 12 } : Room).cells ({ frames := 1, cells := 0, slots := 0, locals := 12 } : Room).slots) := by
  refine MetFree.of_bodySF (plainFor_of_name pn18) hisR ?_
  intro p e s m args below meth c s₁ Bd hml0 hP hK
  obtain ⟨rfl, hZ, hh⟩ := hP
  have hx := Bd.exec
  have hby := Bd.bytes
  have hml : c.maxLocals = 1 := hml0
  have hown : s.vm.findClass "com/example/nuthatch/nuthatch/tariff/PriceBound" = some m.cls := findClass_of_methodNamed Bd.named
  have X0 : Stand p l e ({ frames := 1, cells := 0, slots := 0, locals := 12 } : Room) s m #[(.ref w_MAX_EXCL_VAT)] below meth c s₁ [] 0 0 := Stand.of_body Bd
  have e0 : s₁.heap = h0 := by rw [← hh, Bd.state]; rfl
  have N0 := Fr.nil n0
  have pre0 : ∀ t, Steps p.tables e below (s₁.setTop (mkF m 0 #[.val (.ref w_MAX_EXCL_VAT)] [])) t → Steps p.tables e below (s₁.setTop (entryFrame m #[(.ref w_MAX_EXCL_VAT)] 1)) t := fun t k => castTop (ef36 m w_MAX_EXCL_VAT) k
  obtain ⟨S_w_MIN_EXCL_VAT, E_w_MIN_EXCL_VAT, S_w_MIN_INCL_VAT, E_w_MIN_INCL_VAT, S_w_MAX_INCL_VAT, E_w_MAX_INCL_VAT, S_w_MAX_EXCL_VAT, E_w_MAX_EXCL_VAT, F_ordinal_w_MIN_EXCL_VAT, F_ordinal_w_MIN_INCL_VAT, F_ordinal_w_MAX_INCL_VAT, F_ordinal_w_MAX_EXCL_VAT, ne_w_MIN_EXCL_VAT_w_MIN_INCL_VAT, ne_w_MIN_EXCL_VAT_w_MAX_INCL_VAT, ne_w_MIN_EXCL_VAT_w_MAX_EXCL_VAT, ne_w_MIN_INCL_VAT_w_MAX_INCL_VAT, ne_w_MIN_INCL_VAT_w_MAX_EXCL_VAT, ne_w_MAX_INCL_VAT_w_MAX_EXCL_VAT, -⟩ := id HW
  obtain ⟨cq1, kq1, q1a, q1b, q1c⟩ := isOf hZ e0 E_w_MAX_EXCL_VAT
  obtain ⟨_, _, ⟨T1, L1, k1, n1⟩, -, X1, ⟨Lc1, hQ1, l1, y1, z1⟩, st1⟩ := X0.virtualBack hx (y := (⟨"com/example/nuthatch/nuthatch/tariff/PriceBound", "isMaximum", "()Z"⟩ : MethodName)) (z := (⟨"com/example/nuthatch/nuthatch/tariff/PriceBound", "isMaximum", "()Z"⟩ : MethodName)) hown (mvT hZ (hw _ (List.mem_of_getElem? (i := 21) rfl))) (mvT hZ (hw _ (List.mem_of_getElem? (i := 22) rfl))) (notFace_of_selects (args := #[]) (mvT hZ (hw _ (List.mem_of_getElem? (i := 24) rfl)))) (mvT hZ (hw _ (List.mem_of_getElem? (i := 24) rfl))) (mvT hZ (hw _ (List.mem_of_getElem? (i := 23) rfl))) (by decide) (backOf (W := 0) (rm4_17 l Z a0 hw [] w_MIN_EXCL_VAT w_MIN_INCL_VAT w_MAX_INCL_VAT w_MAX_EXCL_VAT h0 n0 Z0 HW) hZ (hw _ (List.mem_of_getElem? (i := 25) rfl)) (hw _ (List.mem_of_getElem? (i := 5) rfl)) (by decide) (by decide)) q1a q1c (g := (mkF m 1 #[.val (.ref w_MAX_EXCL_VAT)] [(.ref w_MAX_EXCL_VAT)])) rfl (by rw [hml]; rfl) (Steps.refl _) (argsL := []) (rest := []) (lenOf pd19 rfl) rfl (by show 2 * 0 + _ ≤ _; exact Nat.le_of_eq rfl) (hb hby d3_1) (fun _ _ => ⟨rfl, e0, (by decide : 0 + 0 ≤ _), (by decide : 0 + 0 ≤ _)⟩)
  dsimp only [Pt.U, Pt.locs, Pt.cells, Pt.slots] at X1 l1 y1 z1 st1 hQ1
  subst l1 y1 z1
  obtain ⟨rfl, N1q, e1⟩ := hQ1
  have N1 := Fr.app N0 N1q
  obtain ⟨T2, X2, e2, st2⟩ := getS2 X1 hx hZ hown (host := "") (Or.inl (hw _ (List.mem_of_getElem? (i := 14) rfl))) Via.refl e1 S_w_MAX_INCL_VAT (g := (mkF m 7 #[.val (.ref w_MAX_EXCL_VAT)] [])) rfl (hb hby d3_7)
  obtain ⟨fs, hr, hrun, hended, hW, hsame⟩ := X2.leave (v := some (.ref w_MAX_INCL_VAT)) (fun h => by rw [Bd.returns] at h; cases h)
  refine ⟨_, _, pre0 _ ?_, hrun, hended, _, _, rfl, ?_, ⟨_, rfl⟩, hW, hsame.mono (by decide) (by decide)⟩
  · show Steps p.tables e below (s₁.setTop (mkF m 0 #[.val (.ref w_MAX_EXCL_VAT)] [])) _
    refine XS.aloadN X0.here hx rfl (hb hby d3_0) rfl rfl ?_
    show Steps p.tables e below (s₁.setTop (mkF m 1 #[.val (.ref w_MAX_EXCL_VAT)] [(.ref w_MAX_EXCL_VAT)])) _
    refine st1.trans ?_
    show Steps p.tables e below (T1.setTop (mkF m 4 #[.val (.ref w_MAX_EXCL_VAT)] [(.int (1 : Int32))])) _
    refine XS.ifNo X1.here hx rfl (hb hby d3_4) rfl ((if0 _ _).trans (feq (by decide : ¬ ((1 : Int32) = (0 : Int32)))).1) ?_
    show Steps p.tables e below (T1.setTop (mkF m 7 #[.val (.ref w_MAX_EXCL_VAT)] [])) _
    refine st2 _ ?_
    show Steps p.tables e below (T2.setTop (mkF m 10 #[.val (.ref w_MAX_EXCL_VAT)] [(.ref w_MAX_INCL_VAT)])) _
    refine XS.goto X2.here hx rfl (pc0 := 10) (pc' := 16) rfl (hb hby d3_10) (by decide) (by decide) ?_
    show Steps p.tables e below (T2.setTop (mkF m 16 #[.val (.ref w_MAX_EXCL_VAT)] [(.ref w_MAX_INCL_VAT)])) _
    jvm_step X2.here [X2.here.top, hx, (hb hby d3_16), X2.method', Bd.returns, Value.isRef, FieldType.isReference]
    first | (intro acts; rw [hr _ acts rfl rfl rfl]) | rw [hr _ _ rfl rfl rfl]
    exact Steps.refl _
  · exact ⟨rfl, N1, e2⟩
def Q6_19 (Z : State) (w_MIN_EXCL_VAT : Addr) (w_MIN_INCL_VAT : Addr) (w_MAX_INCL_VAT : Addr) (w_MAX_EXCL_VAT : Addr) (h0 : Heap) (n0 : Nat) (v : Option Value) (h : Heap) (L : List Loc) : Prop := v = some (.int (2 : Int32)) ∧ Fr n0 L ∧ h = h0
set_option maxRecDepth 65536 in
set_option maxHeartbeats 40000000 in
theorem rm6_19 (l : Launch) (Z : State) (a0 : Array Value) (hw : ∀ d ∈ tables_1, d.before a0 Z = true) (ws : List Jvm.Cond) (w_MIN_EXCL_VAT : Addr) (w_MIN_INCL_VAT : Addr) (w_MAX_INCL_VAT : Addr) (w_MAX_EXCL_VAT : Addr) (h0 : Heap) (n0 : Nat) (Z0 : n0 ≤ h0.size) (HW : World Z h0 w_MIN_EXCL_VAT w_MIN_INCL_VAT w_MAX_INCL_VAT w_MAX_EXCL_VAT) :
    MetFree l (⟨"java/lang/Enum", "ordinal", "()I"⟩ : MethodName) (head1 (Jvm.Cond.code (⟨"java/lang/Enum", "ordinal", "()I"⟩ : MethodName) jdk_37_method_2_code 1 (some .int) :: ws) ({ frames := 0, cells := 0, slots := 0, locals := 0 } : Room)) (fun a U => a = #[(.ref w_MAX_EXCL_VAT)] ∧ Z.Warmed39 U.vm ∧ U.heap = h0) (fun _ _ _ _ _ => True) (fun _ U o U' => ∃ v L, o = .returned v ∧ Q6_19 Z w_MIN_EXCL_VAT w_MIN_INCL_VAT w_MAX_INCL_VAT w_MAX_EXCL_VAT h0 n0 v U'.heap L ∧ FrameEnd U o U' L ({ frames := 0, cells := 0, slots := 0, locals := 0 } : Room).cells ({ frames := 0, cells := 0, slots := 0, locals := 0 } : Room).slots) := by
  refine MetFree.of_bodySF (plainFor_of_name pn44) hisR ?_
  intro p e s m args below meth c s₁ Bd hml0 hP hK
  obtain ⟨rfl, hZ, hh⟩ := hP
  have hx := Bd.exec
  have hby := Bd.bytes
  have hml : c.maxLocals = 1 := hml0
  have hown : s.vm.findClass "java/lang/Enum" = some m.cls := findClass_of_methodNamed Bd.named
  have X0 : Stand p l e ({ frames := 0, cells := 0, slots := 0, locals := 0 } : Room) s m #[(.ref w_MAX_EXCL_VAT)] below meth c s₁ [] 0 0 := Stand.of_body Bd
  have e0 : s₁.heap = h0 := by rw [← hh, Bd.state]; rfl
  have N0 := Fr.nil n0
  have pre0 : ∀ t, Steps p.tables e below (s₁.setTop (mkF m 0 #[.val (.ref w_MAX_EXCL_VAT)] [])) t → Steps p.tables e below (s₁.setTop (entryFrame m #[(.ref w_MAX_EXCL_VAT)] 1)) t := fun t k => castTop (ef43 m w_MAX_EXCL_VAT) k
  obtain ⟨S_w_MIN_EXCL_VAT, E_w_MIN_EXCL_VAT, S_w_MIN_INCL_VAT, E_w_MIN_INCL_VAT, S_w_MAX_INCL_VAT, E_w_MAX_INCL_VAT, S_w_MAX_EXCL_VAT, E_w_MAX_EXCL_VAT, F_ordinal_w_MIN_EXCL_VAT, F_ordinal_w_MIN_INCL_VAT, F_ordinal_w_MAX_INCL_VAT, F_ordinal_w_MAX_EXCL_VAT, ne_w_MIN_EXCL_VAT_w_MIN_INCL_VAT, ne_w_MIN_EXCL_VAT_w_MAX_INCL_VAT, ne_w_MIN_EXCL_VAT_w_MAX_EXCL_VAT, ne_w_MIN_INCL_VAT_w_MAX_INCL_VAT, ne_w_MIN_INCL_VAT_w_MAX_EXCL_VAT, ne_w_MAX_INCL_VAT_w_MAX_EXCL_VAT, -⟩ := id HW
  obtain ⟨T1, X1, e1, st1⟩ := getF X0 hx hZ hown (host := "") (Or.inl (hw _ (List.mem_of_getElem? (i := 40) rfl))) Via.refl e0 F_ordinal_w_MAX_EXCL_VAT (g := (mkF m 1 #[.val (.ref w_MAX_EXCL_VAT)] [(.ref w_MAX_EXCL_VAT)])) rfl rfl (hb hby d6_1)
  obtain ⟨fs, hr, hrun, hended, hW, hsame⟩ := X1.leave (v := some (.int (2 : Int32))) (fun h => by rw [Bd.returns] at h; cases h)
  refine ⟨_, _, pre0 _ ?_, hrun, hended, _, _, rfl, ?_, ⟨_, rfl⟩, hW, hsame.mono (by decide) (by decide)⟩
  · show Steps p.tables e below (s₁.setTop (mkF m 0 #[.val (.ref w_MAX_EXCL_VAT)] [])) _
    refine XS.aloadN X0.here hx rfl (hb hby d6_0) rfl rfl ?_
    show Steps p.tables e below (s₁.setTop (mkF m 1 #[.val (.ref w_MAX_EXCL_VAT)] [(.ref w_MAX_EXCL_VAT)])) _
    refine st1 _ ?_
    show Steps p.tables e below (T1.setTop (mkF m 4 #[.val (.ref w_MAX_EXCL_VAT)] [(.int (2 : Int32))])) _
    exact Jvm.RoadKit.retI X1 hx Bd.returns (hb hby d6_4) hr
  · exact ⟨rfl, N0, e1⟩
theorem d5_58 : decode prog_67_method_7_code 58 = .ok (.getstatic 3, 3) := by decide +kernel
theorem d5_61 : decode prog_67_method_7_code 61 = .ok (.goto 6, 3) := by decide +kernel
def Q5_20 (Z : State) (w_MIN_EXCL_VAT : Addr) (w_MIN_INCL_VAT : Addr) (w_MAX_INCL_VAT : Addr) (w_MAX_EXCL_VAT : Addr) (h0 : Heap) (n0 : Nat) (v : Option Value) (h : Heap) (L : List Loc) : Prop := v = some (.ref w_MIN_EXCL_VAT) ∧ Fr n0 L ∧ h = h0
set_option maxRecDepth 65536 in
set_option maxHeartbeats 40000000 in
theorem rm5_20 (l : Launch) (Z : State) (a0 : Array Value) (hw : ∀ d ∈ tables_1, d.before a0 Z = true) (ws : List Jvm.Cond) (w_MIN_EXCL_VAT : Addr) (w_MIN_INCL_VAT : Addr) (w_MAX_INCL_VAT : Addr) (w_MAX_EXCL_VAT : Addr) (h0 : Heap) (n0 : Nat) (Z0 : n0 ≤ h0.size) (HW : World Z h0 w_MIN_EXCL_VAT w_MIN_INCL_VAT w_MAX_INCL_VAT w_MAX_EXCL_VAT) :
    MetFree l (⟨"com/example/nuthatch/nuthatch/tariff/PriceBound", "opposite", "()Lcom/example/nuthatch/nuthatch/tariff/PriceBound;"⟩ : MethodName) (head1 (Jvm.Cond.code (⟨"com/example/nuthatch/nuthatch/tariff/PriceBound", "opposite", "()Lcom/example/nuthatch/nuthatch/tariff/PriceBound;"⟩ : MethodName) prog_67_method_7_code 1 (some (.object "com/example/nuthatch/nuthatch/tariff/PriceBound")) :: ws) ({ frames := 1, cells := 0, slots := 0, locals := 12 } : Room)) (fun a U => a = #[(.ref w_MAX_EXCL_VAT)] ∧ Z.Warmed39 U.vm ∧ U.heap = h0) (fun _ _ _ _ _ => True) (fun _ U o U' => ∃ v L, o = .returned v ∧ Q5_20 Z w_MIN_EXCL_VAT w_MIN_INCL_VAT w_MAX_INCL_VAT w_MAX_EXCL_VAT h0 n0 v U'.heap L ∧ FrameEnd U o U' L ({ frames := 1, cells := 0, slots := 0, locals := 12 } : Room).cells ({ frames := 1, cells := 0, slots := 0, locals := 12 } : Room).slots) := by
  refine MetFree.of_bodySF (plainFor_of_name pn18) hisR ?_
  intro p e s m args below meth c s₁ Bd hml0 hP hK
  obtain ⟨rfl, hZ, hh⟩ := hP
  have hx := Bd.exec
  have hby := Bd.bytes
  have hml : c.maxLocals = 1 := hml0
  have hown : s.vm.findClass "com/example/nuthatch/nuthatch/tariff/PriceBound" = some m.cls := findClass_of_methodNamed Bd.named
  have X0 : Stand p l e ({ frames := 1, cells := 0, slots := 0, locals := 12 } : Room) s m #[(.ref w_MAX_EXCL_VAT)] below meth c s₁ [] 0 0 := Stand.of_body Bd
  have e0 : s₁.heap = h0 := by rw [← hh, Bd.state]; rfl
  have N0 := Fr.nil n0
  have pre0 : ∀ t, Steps p.tables e below (s₁.setTop (mkF m 0 #[.val (.ref w_MAX_EXCL_VAT)] [])) t → Steps p.tables e below (s₁.setTop (entryFrame m #[(.ref w_MAX_EXCL_VAT)] 1)) t := fun t k => castTop (ef52 m w_MAX_EXCL_VAT) k
  obtain ⟨S_w_MIN_EXCL_VAT, E_w_MIN_EXCL_VAT, S_w_MIN_INCL_VAT, E_w_MIN_INCL_VAT, S_w_MAX_INCL_VAT, E_w_MAX_INCL_VAT, S_w_MAX_EXCL_VAT, E_w_MAX_EXCL_VAT, F_ordinal_w_MIN_EXCL_VAT, F_ordinal_w_MIN_INCL_VAT, F_ordinal_w_MAX_INCL_VAT, F_ordinal_w_MAX_EXCL_VAT, ne_w_MIN_EXCL_VAT_w_MIN_INCL_VAT, ne_w_MIN_EXCL_VAT_w_MAX_INCL_VAT, ne_w_MIN_EXCL_VAT_w_MAX_EXCL_VAT, ne_w_MIN_INCL_VAT_w_MAX_INCL_VAT, ne_w_MIN_INCL_VAT_w_MAX_EXCL_VAT, ne_w_MAX_INCL_VAT_w_MAX_EXCL_VAT, -⟩ := id HW
  obtain ⟨cq1, kq1, q1a, q1b, q1c⟩ := isOf hZ e0 E_w_MAX_EXCL_VAT
  obtain ⟨_, _, ⟨T1, L1, k1, n1⟩, -, X1, ⟨Lc1, hQ1, l1, y1, z1⟩, st1⟩ := X0.virtualBackUp hx (x := (⟨"com/example/nuthatch/nuthatch/tariff/PriceBound", "ordinal", "()I"⟩ : MethodName)) (y := (⟨"java/lang/Enum", "ordinal", "()I"⟩ : MethodName)) hown (mvT hZ (hw _ (List.mem_of_getElem? (i := 33) rfl))) (mvT hZ (hw _ (List.mem_of_getElem? (i := 34) rfl))) (mvT hZ (hw _ (List.mem_of_getElem? (i := 35) rfl))) (by decide) (mvT hZ (hw _ (List.mem_of_getElem? (i := 37) rfl))) (mvT hZ (hw _ (List.mem_of_getElem? (i := 36) rfl))) (backOf (W := 0) (rm6_19 l Z a0 hw [] w_MIN_EXCL_VAT w_MIN_INCL_VAT w_MAX_INCL_VAT w_MAX_EXCL_VAT h0 n0 Z0 HW) hZ (hw _ (List.mem_of_getElem? (i := 39) rfl)) (hw _ (List.mem_of_getElem? (i := 38) rfl)) (by decide) (by decide)) q1a q1c (g := (mkF m 1 #[.val (.ref w_MAX_EXCL_VAT)] [(.ref w_MAX_EXCL_VAT)])) rfl (by rw [hml]; rfl) (Steps.refl _) (argsL := []) (rest := []) (lenOf pd45 rfl) rfl (by show 2 * 0 + _ ≤ _; exact Nat.le_of_eq rfl) (hb hby d5_1) (fun _ _ => ⟨rfl, e0, (by decide : 0 + 0 ≤ _), (by decide : 0 + 0 ≤ _)⟩)
  dsimp only [Pt.U, Pt.locs, Pt.cells, Pt.slots] at X1 l1 y1 z1 st1 hQ1
  subst l1 y1 z1
  obtain ⟨rfl, N1q, e1⟩ := hQ1
  have N1 := Fr.app N0 N1q
  obtain ⟨T2, X2, e2, st2⟩ := getS2 X1 hx hZ hown (host := "") (Or.inl (hw _ (List.mem_of_getElem? (i := 44) rfl))) Via.refl e1 S_w_MIN_EXCL_VAT (g := (mkF m 58 #[.val (.ref w_MAX_EXCL_VAT)] [])) rfl (hb hby d5_58)
  obtain ⟨fs, hr, hrun, hended, hW, hsame⟩ := X2.leave (v := some (.ref w_MIN_EXCL_VAT)) (fun h => by rw [Bd.returns] at h; cases h)
  refine ⟨_, _, pre0 _ ?_, hrun, hended, _, _, rfl, ?_, ⟨_, rfl⟩, hW, hsame.mono (by decide) (by decide)⟩
  · show Steps p.tables e below (s₁.setTop (mkF m 0 #[.val (.ref w_MAX_EXCL_VAT)] [])) _
    refine XS.aloadN X0.here hx rfl (hb hby d5_0) rfl rfl ?_
    show Steps p.tables e below (s₁.setTop (mkF m 1 #[.val (.ref w_MAX_EXCL_VAT)] [(.ref w_MAX_EXCL_VAT)])) _
    refine st1.trans ?_
    show Steps p.tables e below (T1.setTop (mkF m 4 #[.val (.ref w_MAX_EXCL_VAT)] [(.int (2 : Int32))])) _
    refine XS.tswIn X1.here hx rfl (pc0 := 4) (pc' := 58) rfl (hb hby d5_4) rfl (by decide) (o := 54) (by decide) (by decide) (by decide) ?_
    show Steps p.tables e below (T1.setTop (mkF m 58 #[.val (.ref w_MAX_EXCL_VAT)] [])) _
    refine st2 _ ?_
    show Steps p.tables e below (T2.setTop (mkF m 61 #[.val (.ref w_MAX_EXCL_VAT)] [(.ref w_MIN_EXCL_VAT)])) _
    refine XS.goto X2.here hx rfl (pc0 := 61) (pc' := 67) rfl (hb hby d5_61) (by decide) (by decide) ?_
    show Steps p.tables e below (T2.setTop (mkF m 67 #[.val (.ref w_MAX_EXCL_VAT)] [(.ref w_MIN_EXCL_VAT)])) _
    jvm_step X2.here [X2.here.top, hx, (hb hby d5_67), X2.method', Bd.returns, Value.isRef, FieldType.isReference]
    first | (intro acts; rw [hr _ acts rfl rfl rfl]) | rw [hr _ _ rfl rfl rfl]
    exact Steps.refl _
  · exact ⟨rfl, N1, e2⟩
set_option maxRecDepth 65536 in
set_option maxHeartbeats 40000000 in
theorem rm0_c2 (l : Launch) (Z : State) (a0 : Array Value) (hw : ∀ d ∈ tables_1, d.before a0 Z = true) (ws : List Jvm.Cond) (w_MIN_EXCL_VAT : Addr) (w_MIN_INCL_VAT : Addr) (w_MAX_INCL_VAT : Addr) (w_MAX_EXCL_VAT : Addr) (p1 : Int32) (h0 : Heap) (n0 : Nat) (Z0 : n0 ≤ h0.size) (HW : World Z h0 w_MIN_EXCL_VAT w_MIN_INCL_VAT w_MAX_INCL_VAT w_MAX_EXCL_VAT) (hk : (p1 &&& (3 : Int32)) = (2 : Int32)) :
    MetFree l x (head1 (Jvm.Cond.code x code maxLocals ret :: ws) room_1) (fun a U => a = #[(.int p1)] ∧ Z.Warmed39 U.vm ∧ U.heap = h0) (fun _ _ _ _ _ => True) (fun _ U o U' => ∃ v L, o = .returned v ∧ Q0 h0 n0 v U'.heap L ∧ FrameEnd U o U' L room_1.cells room_1.slots) := by
  refine MetFree.of_bodySF (plainFor_of_name pn6) hisR ?_
  intro p e s m args below meth c s₁ Bd hml0 hP hK
  obtain ⟨rfl, hZ, hh⟩ := hP
  have hx := Bd.exec
  have hby := Bd.bytes
  have hml : c.maxLocals = 5 := hml0
  have hown : s.vm.findClass "com/example/nuthatch/nuthatch/tariff/PriceBoundInclVatPinLaw" = some m.cls := findClass_of_methodNamed Bd.named
  have X0 : Stand p l e room_1 s m #[(.int p1)] below meth c s₁ [] 0 0 := Stand.of_body Bd
  have e0 : s₁.heap = h0 := by rw [← hh, Bd.state]; rfl
  have N0 := Fr.nil n0
  have pre0 : ∀ t, Steps p.tables e below (s₁.setTop (mkF m 0 #[.val (.int p1), .unset, .unset, .unset, .unset] [])) t → Steps p.tables e below (s₁.setTop (entryFrame m #[(.int p1)] maxLocals)) t := fun t k => castTop (ef55 m p1) k
  obtain ⟨S_w_MIN_EXCL_VAT, E_w_MIN_EXCL_VAT, S_w_MIN_INCL_VAT, E_w_MIN_INCL_VAT, S_w_MAX_INCL_VAT, E_w_MAX_INCL_VAT, S_w_MAX_EXCL_VAT, E_w_MAX_EXCL_VAT, F_ordinal_w_MIN_EXCL_VAT, F_ordinal_w_MIN_INCL_VAT, F_ordinal_w_MAX_INCL_VAT, F_ordinal_w_MAX_EXCL_VAT, ne_w_MIN_EXCL_VAT_w_MIN_INCL_VAT, ne_w_MIN_EXCL_VAT_w_MAX_INCL_VAT, ne_w_MIN_EXCL_VAT_w_MAX_EXCL_VAT, ne_w_MIN_INCL_VAT_w_MAX_INCL_VAT, ne_w_MIN_INCL_VAT_w_MAX_EXCL_VAT, ne_w_MAX_INCL_VAT_w_MAX_EXCL_VAT, -⟩ := id HW
  obtain ⟨_, _, ⟨T1, L1, k1, n1⟩, -, X1, ⟨Lc1, hQ1, l1, y1, z1⟩, st1⟩ := Jvm.LawKit.callS X0 hx (y := (⟨"com/example/nuthatch/nuthatch/tariff/PriceBoundInclVatPinLaw", "pick", "(I)Lcom/example/nuthatch/nuthatch/tariff/PriceBound;"⟩ : MethodName)) hown (mvT hZ (hw _ (List.mem_of_getElem? (i := 0) rfl))) (mvT hZ (hw _ (List.mem_of_getElem? (i := 1) rfl))) (mvT hZ (hw _ (List.mem_of_getElem? (i := 2) rfl))) (mvT hZ (hw _ (List.mem_of_getElem? (i := 3) rfl))) (by decide) (backOf (W := 0) (rm1_16 l Z a0 hw [] w_MIN_EXCL_VAT w_MIN_INCL_VAT w_MAX_INCL_VAT w_MAX_EXCL_VAT h0 n0 Z0 HW) hZ (hw _ (List.mem_of_getElem? (i := 3) rfl)) (hw _ (List.mem_of_getElem? (i := 2) rfl)) (by decide) (by decide)) (g := (mkF m 5 #[.val (.int p1), .val (.int (2 : Int32)), .unset, .unset, .unset] [(.int (2 : Int32))])) rfl (by rw [hml]; rfl) (argsL := [(.int (2 : Int32))]) (rest := []) (lenOf pd7 rfl) rfl (by show 2 * 0 + _ ≤ _; exact Nat.le_of_eq rfl) (hb hby at_5) (fun _ _ => ⟨rfl, e0, (by decide : 0 + 0 ≤ _), (by decide : 0 + 0 ≤ _)⟩)
  dsimp only [Pt.U, Pt.locs, Pt.cells, Pt.slots] at X1 l1 y1 z1 st1 hQ1
  subst l1 y1 z1
  obtain ⟨rfl, N1q, e1⟩ := hQ1
  have N1 := Fr.app N0 N1q
  obtain ⟨cq2, kq2, q2a, q2b, q2c⟩ := isOf hZ e1 E_w_MAX_EXCL_VAT
  obtain ⟨_, _, ⟨T2, L2, k2, n2⟩, -, X2, ⟨Lc2, hQ2, l2, y2, z2⟩, st2⟩ := X1.virtualBack hx (y := (⟨"com/example/nuthatch/nuthatch/tariff/PriceBound", "inclVat", "()Z"⟩ : MethodName)) (z := (⟨"com/example/nuthatch/nuthatch/tariff/PriceBound", "inclVat", "()Z"⟩ : MethodName)) hown (mvT hZ (hw _ (List.mem_of_getElem? (i := 7) rfl))) (mvT hZ (hw _ (List.mem_of_getElem? (i := 8) rfl))) (notFace_of_selects (args := #[]) (mvT hZ (hw _ (List.mem_of_getElem? (i := 10) rfl)))) (mvT hZ (hw _ (List.mem_of_getElem? (i := 10) rfl))) (mvT hZ (hw _ (List.mem_of_getElem? (i := 9) rfl))) (by decide) (backOf (W := 0) (rm2_6 l Z a0 hw [] w_MIN_EXCL_VAT w_MIN_INCL_VAT w_MAX_INCL_VAT w_MAX_EXCL_VAT h0 n0 Z0 HW) hZ (hw _ (List.mem_of_getElem? (i := 11) rfl)) (hw _ (List.mem_of_getElem? (i := 5) rfl)) (by decide) (by decide)) q2a q2c (g := (mkF m 26 #[.val (.int p1), .val (.int (2 : Int32)), .val (.ref w_MAX_EXCL_VAT), .val (.int (0 : Int32)), .unset] [(.ref w_MAX_EXCL_VAT)])) rfl (by rw [hml]; rfl) (Steps.refl _) (argsL := []) (rest := []) (lenOf pd19 rfl) rfl (by show 2 * 0 + _ ≤ _; exact Nat.le_of_eq rfl) (hb hby at_26) (fun _ _ => ⟨rfl, e1, (by decide : 0 + 0 ≤ _), (by decide : 0 + 0 ≤ _)⟩)
  dsimp only [Pt.U, Pt.locs, Pt.cells, Pt.slots] at X2 l2 y2 z2 st2 hQ2
  subst l2 y2 z2
  obtain ⟨rfl, N2q, e2⟩ := hQ2
  have N2 := Fr.app N1 N2q
  obtain ⟨cq3, kq3, q3a, q3b, q3c⟩ := isOf hZ e2 E_w_MAX_EXCL_VAT
  obtain ⟨_, _, ⟨T3, L3, k3, n3⟩, -, X3, ⟨Lc3, hQ3, l3, y3, z3⟩, st3⟩ := X2.virtualBack hx (y := (⟨"com/example/nuthatch/nuthatch/tariff/PriceBound", "onInclVat", "()Lcom/example/nuthatch/nuthatch/tariff/PriceBound;"⟩ : MethodName)) (z := (⟨"com/example/nuthatch/nuthatch/tariff/PriceBound", "onInclVat", "()Lcom/example/nuthatch/nuthatch/tariff/PriceBound;"⟩ : MethodName)) hown (mvT hZ (hw _ (List.mem_of_getElem? (i := 16) rfl))) (mvT hZ (hw _ (List.mem_of_getElem? (i := 17) rfl))) (notFace_of_selects (args := #[]) (mvT hZ (hw _ (List.mem_of_getElem? (i := 19) rfl)))) (mvT hZ (hw _ (List.mem_of_getElem? (i := 19) rfl))) (mvT hZ (hw _ (List.mem_of_getElem? (i := 18) rfl))) (by decide) (backOf (W := 1) (rm3_18 l Z a0 hw [] w_MIN_EXCL_VAT w_MIN_INCL_VAT w_MAX_INCL_VAT w_MAX_EXCL_VAT h0 n0 Z0 HW) hZ (hw _ (List.mem_of_getElem? (i := 20) rfl)) (hw _ (List.mem_of_getElem? (i := 5) rfl)) (by decide) (by decide)) q3a q3c (g := (mkF m 42 #[.val (.int p1), .val (.int (2 : Int32)), .val (.ref w_MAX_EXCL_VAT), .val (.int (0 : Int32)), .val (.int (0 : Int32))] [(.ref w_MAX_EXCL_VAT), (.int (0 : Int32))])) rfl (by rw [hml]; rfl) (Steps.refl _) (argsL := []) (rest := [(.int (0 : Int32))]) (lenOf pd37 rfl) rfl (by show 2 * 0 + _ ≤ _; exact Nat.le_of_eq rfl) (hb hby at_42) (fun _ _ => ⟨rfl, e2, (by decide : 0 + 0 ≤ _), (by decide : 0 + 0 ≤ _)⟩)
  dsimp only [Pt.U, Pt.locs, Pt.cells, Pt.slots] at X3 l3 y3 z3 st3 hQ3
  subst l3 y3 z3
  obtain ⟨rfl, N3q, e3⟩ := hQ3
  have N3 := Fr.app N2 N3q
  obtain ⟨cq4, kq4, q4a, q4b, q4c⟩ := isOf hZ e3 E_w_MAX_EXCL_VAT
  obtain ⟨_, _, ⟨T4, L4, k4, n4⟩, -, X4, ⟨Lc4, hQ4, l4, y4, z4⟩, st4⟩ := X3.virtualBack hx (y := (⟨"com/example/nuthatch/nuthatch/tariff/PriceBound", "opposite", "()Lcom/example/nuthatch/nuthatch/tariff/PriceBound;"⟩ : MethodName)) (z := (⟨"com/example/nuthatch/nuthatch/tariff/PriceBound", "opposite", "()Lcom/example/nuthatch/nuthatch/tariff/PriceBound;"⟩ : MethodName)) hown (mvT hZ (hw _ (List.mem_of_getElem? (i := 28) rfl))) (mvT hZ (hw _ (List.mem_of_getElem? (i := 29) rfl))) (notFace_of_selects (args := #[]) (mvT hZ (hw _ (List.mem_of_getElem? (i := 31) rfl)))) (mvT hZ (hw _ (List.mem_of_getElem? (i := 31) rfl))) (mvT hZ (hw _ (List.mem_of_getElem? (i := 30) rfl))) (by decide) (backOf (W := 0) (rm5_20 l Z a0 hw [] w_MIN_EXCL_VAT w_MIN_INCL_VAT w_MAX_INCL_VAT w_MAX_EXCL_VAT h0 n0 Z0 HW) hZ (hw _ (List.mem_of_getElem? (i := 32) rfl)) (hw _ (List.mem_of_getElem? (i := 5) rfl)) (by decide) (by decide)) q4a q4c (g := (mkF m 60 #[.val (.int p1), .val (.int (2 : Int32)), .val (.ref w_MAX_EXCL_VAT), .val (.int (0 : Int32)), .val (.int (0 : Int32))] [(.ref w_MAX_EXCL_VAT)])) rfl (by rw [hml]; rfl) (Steps.refl _) (argsL := []) (rest := []) (lenOf pd37 rfl) rfl (by show 2 * 0 + _ ≤ _; exact Nat.le_of_eq rfl) (hb hby at_60) (fun _ _ => ⟨rfl, e3, (by decide : 0 + 0 ≤ _), (by decide : 0 + 0 ≤ _)⟩)
  dsimp only [Pt.U, Pt.locs, Pt.cells, Pt.slots] at X4 l4 y4 z4 st4 hQ4
  subst l4 y4 z4
  obtain ⟨rfl, N4q, e4⟩ := hQ4
  have N4 := Fr.app N3 N4q
  obtain ⟨cq5, kq5, q5a, q5b, q5c⟩ := isOf hZ e4 E_w_MIN_EXCL_VAT
  obtain ⟨_, _, ⟨T5, L5, k5, n5⟩, -, X5, ⟨Lc5, hQ5, l5, y5, z5⟩, st5⟩ := X4.virtualBack hx (y := (⟨"com/example/nuthatch/nuthatch/tariff/PriceBound", "inclVat", "()Z"⟩ : MethodName)) (z := (⟨"com/example/nuthatch/nuthatch/tariff/PriceBound", "inclVat", "()Z"⟩ : MethodName)) hown (mvT hZ (hw _ (List.mem_of_getElem? (i := 7) rfl))) (mvT hZ (hw _ (List.mem_of_getElem? (i := 8) rfl))) (notFace_of_selects (args := #[]) (mvT hZ (hw _ (List.mem_of_getElem? (i := 10) rfl)))) (mvT hZ (hw _ (List.mem_of_getElem? (i := 10) rfl))) (mvT hZ (hw _ (List.mem_of_getElem? (i := 9) rfl))) (by decide) (backOf (W := 0) (rm2_1 l Z a0 hw [] w_MIN_EXCL_VAT w_MIN_INCL_VAT w_MAX_INCL_VAT w_MAX_EXCL_VAT h0 n0 Z0 HW) hZ (hw _ (List.mem_of_getElem? (i := 11) rfl)) (hw _ (List.mem_of_getElem? (i := 5) rfl)) (by decide) (by decide)) q5a q5c (g := (mkF m 63 #[.val (.int p1), .val (.int (2 : Int32)), .val (.ref w_MAX_EXCL_VAT), .val (.int (0 : Int32)), .val (.int (0 : Int32))] [(.ref w_MIN_EXCL_VAT)])) rfl (by rw [hml]; rfl) (Steps.refl _) (argsL := []) (rest := []) (lenOf pd19 rfl) rfl (by show 2 * 0 + _ ≤ _; exact Nat.le_of_eq rfl) (hb hby at_63) (fun _ _ => ⟨rfl, e4, (by decide : 0 + 0 ≤ _), (by decide : 0 + 0 ≤ _)⟩)
  dsimp only [Pt.U, Pt.locs, Pt.cells, Pt.slots] at X5 l5 y5 z5 st5 hQ5
  subst l5 y5 z5
  obtain ⟨rfl, N5q, e5⟩ := hQ5
  have N5 := Fr.app N4 N5q
  obtain ⟨fs, hr, hrun, hended, hW, hsame⟩ := X5.leave (v := some (.int (1 : Int32))) (fun h => by rw [Bd.returns] at h; cases h)
  refine ⟨_, _, pre0 _ ?_, hrun, hended, _, _, rfl, ?_, ⟨_, rfl⟩, hW, hsame.mono (by decide) (by decide)⟩
  · show Steps p.tables e below (s₁.setTop (mkF m 0 #[.val (.int p1), .unset, .unset, .unset, .unset] [])) _
    refine XS.iloadN X0.here hx rfl (hb hby at_0) rfl ?_
    show Steps p.tables e below (s₁.setTop (mkF m 1 #[.val (.int p1), .unset, .unset, .unset, .unset] [(.int p1)])) _
    refine XS.iconst X0.here hx rfl (hb hby at_1) ?_
    show Steps p.tables e below (s₁.setTop (mkF m 2 #[.val (.int p1), .unset, .unset, .unset, .unset] [(.int (3 : Int32)), (.int p1)])) _
    refine XS.iand X0.here hx rfl (hb hby at_2) rfl ?_
    rw [hk]
    show Steps p.tables e below (s₁.setTop (mkF m 3 #[.val (.int p1), .unset, .unset, .unset, .unset] [(.int (2 : Int32))])) _
    refine XS.istoreN X0.here hx rfl (hb hby at_3) rfl (l' := #[.val (.int p1), .val (.int (2 : Int32)), .unset, .unset, .unset]) rfl ?_
    show Steps p.tables e below (s₁.setTop (mkF m 4 #[.val (.int p1), .val (.int (2 : Int32)), .unset, .unset, .unset] [])) _
    refine XS.iloadN X0.here hx rfl (hb hby at_4) rfl ?_
    show Steps p.tables e below (s₁.setTop (mkF m 5 #[.val (.int p1), .val (.int (2 : Int32)), .unset, .unset, .unset] [(.int (2 : Int32))])) _
    refine st1 _ ?_
    show Steps p.tables e below (T1.setTop (mkF m 8 #[.val (.int p1), .val (.int (2 : Int32)), .unset, .unset, .unset] [(.ref w_MAX_EXCL_VAT)])) _
    refine XS.astoreN X1.here hx rfl (hb hby at_8) rfl rfl (l' := #[.val (.int p1), .val (.int (2 : Int32)), .val (.ref w_MAX_EXCL_VAT), .unset, .unset]) rfl ?_
    show Steps p.tables e below (T1.setTop (mkF m 9 #[.val (.int p1), .val (.int (2 : Int32)), .val (.ref w_MAX_EXCL_VAT), .unset, .unset] [])) _
    refine XS.iloadN X1.here hx rfl (hb hby at_9) rfl ?_
    show Steps p.tables e below (T1.setTop (mkF m 10 #[.val (.int p1), .val (.int (2 : Int32)), .val (.ref w_MAX_EXCL_VAT), .unset, .unset] [(.int (2 : Int32))])) _
    refine XS.iconst X1.here hx rfl (hb hby at_10) ?_
    show Steps p.tables e below (T1.setTop (mkF m 11 #[.val (.int p1), .val (.int (2 : Int32)), .val (.ref w_MAX_EXCL_VAT), .unset, .unset] [(.int (1 : Int32)), (.int (2 : Int32))])) _
    refine XS.icmpNo X1.here hx rfl (hb hby at_11) rfl (feq (by decide : ¬ ((2 : Int32) = (1 : Int32)))).1 ?_
    show Steps p.tables e below (T1.setTop (mkF m 14 #[.val (.int p1), .val (.int (2 : Int32)), .val (.ref w_MAX_EXCL_VAT), .unset, .unset] [])) _
    refine XS.iloadN X1.here hx rfl (hb hby at_14) rfl ?_
    show Steps p.tables e below (T1.setTop (mkF m 15 #[.val (.int p1), .val (.int (2 : Int32)), .val (.ref w_MAX_EXCL_VAT), .unset, .unset] [(.int (2 : Int32))])) _
    refine XS.iconst X1.here hx rfl (hb hby at_15) ?_
    show Steps p.tables e below (T1.setTop (mkF m 16 #[.val (.int p1), .val (.int (2 : Int32)), .val (.ref w_MAX_EXCL_VAT), .unset, .unset] [(.int (3 : Int32)), (.int (2 : Int32))])) _
    refine XS.icmpYes X1.here hx rfl (pc0 := 16) (pc' := 23) rfl (hb hby at_16) rfl (feq (by decide : ¬ ((2 : Int32) = (3 : Int32)))).2 (by decide) (by decide) ?_
    show Steps p.tables e below (T1.setTop (mkF m 23 #[.val (.int p1), .val (.int (2 : Int32)), .val (.ref w_MAX_EXCL_VAT), .unset, .unset] [])) _
    refine XS.iconst X1.here hx rfl (hb hby at_23) ?_
    show Steps p.tables e below (T1.setTop (mkF m 24 #[.val (.int p1), .val (.int (2 : Int32)), .val (.ref w_MAX_EXCL_VAT), .unset, .unset] [(.int (0 : Int32))])) _
    refine XS.istoreN X1.here hx rfl (hb hby at_24) rfl (l' := #[.val (.int p1), .val (.int (2 : Int32)), .val (.ref w_MAX_EXCL_VAT), .val (.int (0 : Int32)), .unset]) rfl ?_
    show Steps p.tables e below (T1.setTop (mkF m 25 #[.val (.int p1), .val (.int (2 : Int32)), .val (.ref w_MAX_EXCL_VAT), .val (.int (0 : Int32)), .unset] [])) _
    refine XS.aloadN X1.here hx rfl (hb hby at_25) rfl rfl ?_
    show Steps p.tables e below (T1.setTop (mkF m 26 #[.val (.int p1), .val (.int (2 : Int32)), .val (.ref w_MAX_EXCL_VAT), .val (.int (0 : Int32)), .unset] [(.ref w_MAX_EXCL_VAT)])) _
    refine st2.trans ?_
    show Steps p.tables e below (T2.setTop (mkF m 29 #[.val (.int p1), .val (.int (2 : Int32)), .val (.ref w_MAX_EXCL_VAT), .val (.int (0 : Int32)), .unset] [(.int (0 : Int32))])) _
    refine XS.istore X2.here hx rfl (hb hby at_29) rfl (l' := #[.val (.int p1), .val (.int (2 : Int32)), .val (.ref w_MAX_EXCL_VAT), .val (.int (0 : Int32)), .val (.int (0 : Int32))]) rfl ?_
    show Steps p.tables e below (T2.setTop (mkF m 31 #[.val (.int p1), .val (.int (2 : Int32)), .val (.ref w_MAX_EXCL_VAT), .val (.int (0 : Int32)), .val (.int (0 : Int32))] [])) _
    refine XS.iload X2.here hx rfl (hb hby at_31) rfl ?_
    show Steps p.tables e below (T2.setTop (mkF m 33 #[.val (.int p1), .val (.int (2 : Int32)), .val (.ref w_MAX_EXCL_VAT), .val (.int (0 : Int32)), .val (.int (0 : Int32))] [(.int (0 : Int32))])) _
    refine XS.iloadN X2.here hx rfl (hb hby at_33) rfl ?_
    show Steps p.tables e below (T2.setTop (mkF m 34 #[.val (.int p1), .val (.int (2 : Int32)), .val (.ref w_MAX_EXCL_VAT), .val (.int (0 : Int32)), .val (.int (0 : Int32))] [(.int (0 : Int32)), (.int (0 : Int32))])) _
    refine XS.icmpYes X2.here hx rfl (pc0 := 34) (pc' := 39) rfl (hb hby at_34) rfl (teq (by decide : (0 : Int32) = (0 : Int32))).1 (by decide) (by decide) ?_
    show Steps p.tables e below (T2.setTop (mkF m 39 #[.val (.int p1), .val (.int (2 : Int32)), .val (.ref w_MAX_EXCL_VAT), .val (.int (0 : Int32)), .val (.int (0 : Int32))] [])) _
    refine XS.iload X2.here hx rfl (hb hby at_39) rfl ?_
    show Steps p.tables e below (T2.setTop (mkF m 41 #[.val (.int p1), .val (.int (2 : Int32)), .val (.ref w_MAX_EXCL_VAT), .val (.int (0 : Int32)), .val (.int (0 : Int32))] [(.int (0 : Int32))])) _
    refine XS.aloadN X2.here hx rfl (hb hby at_41) rfl rfl ?_
    show Steps p.tables e below (T2.setTop (mkF m 42 #[.val (.int p1), .val (.int (2 : Int32)), .val (.ref w_MAX_EXCL_VAT), .val (.int (0 : Int32)), .val (.int (0 : Int32))] [(.ref w_MAX_EXCL_VAT), (.int (0 : Int32))])) _
    refine st3.trans ?_
    show Steps p.tables e below (T3.setTop (mkF m 45 #[.val (.int p1), .val (.int (2 : Int32)), .val (.ref w_MAX_EXCL_VAT), .val (.int (0 : Int32)), .val (.int (0 : Int32))] [(.ref w_MAX_INCL_VAT), (.int (0 : Int32))])) _
    refine XS.aloadN X3.here hx rfl (hb hby at_45) rfl rfl ?_
    show Steps p.tables e below (T3.setTop (mkF m 46 #[.val (.int p1), .val (.int (2 : Int32)), .val (.ref w_MAX_EXCL_VAT), .val (.int (0 : Int32)), .val (.int (0 : Int32))] [(.ref w_MAX_EXCL_VAT), (.ref w_MAX_INCL_VAT), (.int (0 : Int32))])) _
    refine Jvm.RoadKit.acmp (g := (mkF m 46 #[.val (.int p1), .val (.int (2 : Int32)), .val (.ref w_MAX_EXCL_VAT), .val (.int (0 : Int32)), .val (.int (0 : Int32))] [(.ref w_MAX_EXCL_VAT), (.ref w_MAX_INCL_VAT), (.int (0 : Int32))])) X3 hx rfl rfl rfl (pc0 := 46) (pc' := 53) (same := false) rfl (hb hby at_46) rfl (decide_eq_false fun q => ne_w_MAX_INCL_VAT_w_MAX_EXCL_VAT (Value.ref.inj q)) (by decide) (by decide) ?_
    show Steps p.tables e below (T3.setTop (mkF m 53 #[.val (.int p1), .val (.int (2 : Int32)), .val (.ref w_MAX_EXCL_VAT), .val (.int (0 : Int32)), .val (.int (0 : Int32))] [(.int (0 : Int32))])) _
    refine XS.iconst X3.here hx rfl (hb hby at_53) ?_
    show Steps p.tables e below (T3.setTop (mkF m 54 #[.val (.int p1), .val (.int (2 : Int32)), .val (.ref w_MAX_EXCL_VAT), .val (.int (0 : Int32)), .val (.int (0 : Int32))] [(.int (0 : Int32)), (.int (0 : Int32))])) _
    refine XS.icmpYes X3.here hx rfl (pc0 := 54) (pc' := 59) rfl (hb hby at_54) rfl (teq (by decide : (0 : Int32) = (0 : Int32))).1 (by decide) (by decide) ?_
    show Steps p.tables e below (T3.setTop (mkF m 59 #[.val (.int p1), .val (.int (2 : Int32)), .val (.ref w_MAX_EXCL_VAT), .val (.int (0 : Int32)), .val (.int (0 : Int32))] [])) _
    refine XS.aloadN X3.here hx rfl (hb hby at_59) rfl rfl ?_
    show Steps p.tables e below (T3.setTop (mkF m 60 #[.val (.int p1), .val (.int (2 : Int32)), .val (.ref w_MAX_EXCL_VAT), .val (.int (0 : Int32)), .val (.int (0 : Int32))] [(.ref w_MAX_EXCL_VAT)])) _
    refine st4.trans ?_
    show Steps p.tables e below (T4.setTop (mkF m 63 #[.val (.int p1), .val (.int (2 : Int32)), .val (.ref w_MAX_EXCL_VAT), .val (.int (0 : Int32)), .val (.int (0 : Int32))] [(.ref w_MIN_EXCL_VAT)])) _
    refine st5.trans ?_
    show Steps p.tables e below (T5.setTop (mkF m 66 #[.val (.int p1), .val (.int (2 : Int32)), .val (.ref w_MAX_EXCL_VAT), .val (.int (0 : Int32)), .val (.int (0 : Int32))] [(.int (0 : Int32))])) _
    refine XS.iload X5.here hx rfl (hb hby at_66) rfl ?_
    show Steps p.tables e below (T5.setTop (mkF m 68 #[.val (.int p1), .val (.int (2 : Int32)), .val (.ref w_MAX_EXCL_VAT), .val (.int (0 : Int32)), .val (.int (0 : Int32))] [(.int (0 : Int32)), (.int (0 : Int32))])) _
    refine XS.icmpNo X5.here hx rfl (hb hby at_68) rfl (teq (by decide : (0 : Int32) = (0 : Int32))).2 ?_
    show Steps p.tables e below (T5.setTop (mkF m 71 #[.val (.int p1), .val (.int (2 : Int32)), .val (.ref w_MAX_EXCL_VAT), .val (.int (0 : Int32)), .val (.int (0 : Int32))] [])) _
    refine XS.iconst X5.here hx rfl (hb hby at_71) ?_
    show Steps p.tables e below (T5.setTop (mkF m 72 #[.val (.int p1), .val (.int (2 : Int32)), .val (.ref w_MAX_EXCL_VAT), .val (.int (0 : Int32)), .val (.int (0 : Int32))] [(.int (1 : Int32))])) _
    refine XS.goto X5.here hx rfl (pc0 := 72) (pc' := 76) rfl (hb hby at_72) (by decide) (by decide) ?_
    show Steps p.tables e below (T5.setTop (mkF m 76 #[.val (.int p1), .val (.int (2 : Int32)), .val (.ref w_MAX_EXCL_VAT), .val (.int (0 : Int32)), .val (.int (0 : Int32))] [(.int (1 : Int32))])) _
    exact retN X5 hx (t := .boolean) Bd.returns (by simp) (hb hby at_76) hr
  · exact ⟨rfl, N5⟩
theorem d1_26 : decode method_2_code 26 = .ok (.getstatic 19, 3) := by decide +kernel
theorem d1_29 : decode method_2_code 29 = .ok (.areturn, 1) := by decide +kernel
def Q1_22 (Z : State) (w_MIN_EXCL_VAT : Addr) (w_MIN_INCL_VAT : Addr) (w_MAX_INCL_VAT : Addr) (w_MAX_EXCL_VAT : Addr) (h0 : Heap) (n0 : Nat) (v : Option Value) (h : Heap) (L : List Loc) : Prop := v = some (.ref w_MAX_INCL_VAT) ∧ Fr n0 L ∧ h = h0
set_option maxRecDepth 65536 in
set_option maxHeartbeats 40000000 in
theorem rm1_22 (l : Launch) (Z : State) (a0 : Array Value) (hw : ∀ d ∈ tables_1, d.before a0 Z = true) (ws : List Jvm.Cond) (w_MIN_EXCL_VAT : Addr) (w_MIN_INCL_VAT : Addr) (w_MAX_INCL_VAT : Addr) (w_MAX_EXCL_VAT : Addr) (h0 : Heap) (n0 : Nat) (Z0 : n0 ≤ h0.size) (HW : World Z h0 w_MIN_EXCL_VAT w_MIN_INCL_VAT w_MAX_INCL_VAT w_MAX_EXCL_VAT) :
    MetFree l (⟨"com/example/nuthatch/nuthatch/tariff/PriceBoundInclVatPinLaw", "pick", "(I)Lcom/example/nuthatch/nuthatch/tariff/PriceBound;"⟩ : MethodName) (head1 (Jvm.Cond.code (⟨"com/example/nuthatch/nuthatch/tariff/PriceBoundInclVatPinLaw", "pick", "(I)Lcom/example/nuthatch/nuthatch/tariff/PriceBound;"⟩ : MethodName) method_2_code 1 (some (.object "com/example/nuthatch/nuthatch/tariff/PriceBound")) :: ws) ({ frames := 0, cells := 0, slots := 0, locals := 0 } : Room)) (fun a U => a = #[(.int (3 : Int32))] ∧ Z.Warmed39 U.vm ∧ U.heap = h0) (fun _ _ _ _ _ => True) (fun _ U o U' => ∃ v L, o = .returned v ∧ Q1_22 Z w_MIN_EXCL_VAT w_MIN_INCL_VAT w_MAX_INCL_VAT w_MAX_EXCL_VAT h0 n0 v U'.heap L ∧ FrameEnd U o U' L ({ frames := 0, cells := 0, slots := 0, locals := 0 } : Room).cells ({ frames := 0, cells := 0, slots := 0, locals := 0 } : Room).slots) := by
  refine MetFree.of_bodySF (plainFor_of_name pn6) hisR ?_
  intro p e s m args below meth c s₁ Bd hml0 hP hK
  obtain ⟨rfl, hZ, hh⟩ := hP
  have hx := Bd.exec
  have hby := Bd.bytes
  have hml : c.maxLocals = 1 := hml0
  have hown : s.vm.findClass "com/example/nuthatch/nuthatch/tariff/PriceBoundInclVatPinLaw" = some m.cls := findClass_of_methodNamed Bd.named
  have X0 : Stand p l e ({ frames := 0, cells := 0, slots := 0, locals := 0 } : Room) s m #[(.int (3 : Int32))] below meth c s₁ [] 0 0 := Stand.of_body Bd
  have e0 : s₁.heap = h0 := by rw [← hh, Bd.state]; rfl
  have N0 := Fr.nil n0
  have pre0 : ∀ t, Steps p.tables e below (s₁.setTop (mkF m 0 #[.val (.int (3 : Int32))] [])) t → Steps p.tables e below (s₁.setTop (entryFrame m #[(.int (3 : Int32))] 1)) t := fun t k => castTop (ef5 m (3 : Int32)) k
  obtain ⟨S_w_MIN_EXCL_VAT, E_w_MIN_EXCL_VAT, S_w_MIN_INCL_VAT, E_w_MIN_INCL_VAT, S_w_MAX_INCL_VAT, E_w_MAX_INCL_VAT, S_w_MAX_EXCL_VAT, E_w_MAX_EXCL_VAT, F_ordinal_w_MIN_EXCL_VAT, F_ordinal_w_MIN_INCL_VAT, F_ordinal_w_MAX_INCL_VAT, F_ordinal_w_MAX_EXCL_VAT, ne_w_MIN_EXCL_VAT_w_MIN_INCL_VAT, ne_w_MIN_EXCL_VAT_w_MAX_INCL_VAT, ne_w_MIN_EXCL_VAT_w_MAX_EXCL_VAT, ne_w_MIN_INCL_VAT_w_MAX_INCL_VAT, ne_w_MIN_INCL_VAT_w_MAX_EXCL_VAT, ne_w_MAX_INCL_VAT_w_MAX_EXCL_VAT, -⟩ := id HW
  obtain ⟨T1, X1, e1, st1⟩ := getS2 X0 hx hZ hown (host := "") (Or.inl (hw _ (List.mem_of_getElem? (i := 42) rfl))) Via.refl e0 S_w_MAX_INCL_VAT (g := (mkF m 26 #[.val (.int (3 : Int32))] [])) rfl (hb hby d1_26)
  obtain ⟨fs, hr, hrun, hended, hW, hsame⟩ := X1.leave (v := some (.ref w_MAX_INCL_VAT)) (fun h => by rw [Bd.returns] at h; cases h)
  refine ⟨_, _, pre0 _ ?_, hrun, hended, _, _, rfl, ?_, ⟨_, rfl⟩, hW, hsame.mono (by decide) (by decide)⟩
  · show Steps p.tables e below (s₁.setTop (mkF m 0 #[.val (.int (3 : Int32))] [])) _
    refine XS.iloadN X0.here hx rfl (hb hby d1_0) rfl ?_
    show Steps p.tables e below (s₁.setTop (mkF m 1 #[.val (.int (3 : Int32))] [(.int (3 : Int32))])) _
    refine XS.ifYes X0.here hx rfl (pc0 := 1) (pc' := 8) rfl (hb hby d1_1) rfl ((if0 _ _).trans (feq (by decide : ¬ ((3 : Int32) = (0 : Int32)))).2) (by decide) (by decide) ?_
    show Steps p.tables e below (s₁.setTop (mkF m 8 #[.val (.int (3 : Int32))] [])) _
    refine XS.iloadN X0.here hx rfl (hb hby d1_8) rfl ?_
    show Steps p.tables e below (s₁.setTop (mkF m 9 #[.val (.int (3 : Int32))] [(.int (3 : Int32))])) _
    refine XS.iconst X0.here hx rfl (hb hby d1_9) ?_
    show Steps p.tables e below (s₁.setTop (mkF m 10 #[.val (.int (3 : Int32))] [(.int (1 : Int32)), (.int (3 : Int32))])) _
    refine XS.icmpYes X0.here hx rfl (pc0 := 10) (pc' := 17) rfl (hb hby d1_10) rfl (feq (by decide : ¬ ((3 : Int32) = (1 : Int32)))).2 (by decide) (by decide) ?_
    show Steps p.tables e below (s₁.setTop (mkF m 17 #[.val (.int (3 : Int32))] [])) _
    refine XS.iloadN X0.here hx rfl (hb hby d1_17) rfl ?_
    show Steps p.tables e below (s₁.setTop (mkF m 18 #[.val (.int (3 : Int32))] [(.int (3 : Int32))])) _
    refine XS.iconst X0.here hx rfl (hb hby d1_18) ?_
    show Steps p.tables e below (s₁.setTop (mkF m 19 #[.val (.int (3 : Int32))] [(.int (2 : Int32)), (.int (3 : Int32))])) _
    refine XS.icmpYes X0.here hx rfl (pc0 := 19) (pc' := 26) rfl (hb hby d1_19) rfl (feq (by decide : ¬ ((3 : Int32) = (2 : Int32)))).2 (by decide) (by decide) ?_
    show Steps p.tables e below (s₁.setTop (mkF m 26 #[.val (.int (3 : Int32))] [])) _
    refine st1 _ ?_
    show Steps p.tables e below (T1.setTop (mkF m 29 #[.val (.int (3 : Int32))] [(.ref w_MAX_INCL_VAT)])) _
    jvm_step X1.here [X1.here.top, hx, (hb hby d1_29), X1.method', Bd.returns, Value.isRef, FieldType.isReference]
    first | (intro acts; rw [hr _ acts rfl rfl rfl]) | rw [hr _ _ rfl rfl rfl]
    exact Steps.refl _
  · exact ⟨rfl, N0, e1⟩
def Q4_23 (Z : State) (w_MIN_EXCL_VAT : Addr) (w_MIN_INCL_VAT : Addr) (w_MAX_INCL_VAT : Addr) (w_MAX_EXCL_VAT : Addr) (h0 : Heap) (n0 : Nat) (v : Option Value) (h : Heap) (L : List Loc) : Prop := v = some (.int (1 : Int32)) ∧ Fr n0 L ∧ h = h0
set_option maxRecDepth 65536 in
set_option maxHeartbeats 40000000 in
theorem rm4_23 (l : Launch) (Z : State) (a0 : Array Value) (hw : ∀ d ∈ tables_1, d.before a0 Z = true) (ws : List Jvm.Cond) (w_MIN_EXCL_VAT : Addr) (w_MIN_INCL_VAT : Addr) (w_MAX_INCL_VAT : Addr) (w_MAX_EXCL_VAT : Addr) (h0 : Heap) (n0 : Nat) (Z0 : n0 ≤ h0.size) (HW : World Z h0 w_MIN_EXCL_VAT w_MIN_INCL_VAT w_MAX_INCL_VAT w_MAX_EXCL_VAT) :
    MetFree l (⟨"com/example/nuthatch/nuthatch/tariff/PriceBound", "isMaximum", "()Z"⟩ : MethodName) (head1 (Jvm.Cond.code (⟨"com/example/nuthatch/nuthatch/tariff/PriceBound", "isMaximum", "()Z"⟩ : MethodName) prog_67_method_4_code 1 (some .boolean) :: ws) ({ frames := 0, cells := 0, slots := 0, locals := 0 } : Room)) (fun a U => a = #[(.ref w_MAX_INCL_VAT)] ∧ Z.Warmed39 U.vm ∧ U.heap = h0) (fun _ _ _ _ _ => True) (fun _ U o U' => ∃ v L, o = .returned v ∧ Q4_23 Z w_MIN_EXCL_VAT w_MIN_INCL_VAT w_MAX_INCL_VAT w_MAX_EXCL_VAT h0 n0 v U'.heap L ∧ FrameEnd U o U' L ({ frames := 0, cells := 0, slots := 0, locals := 0 } : Room).cells ({ frames := 0, cells := 0, slots := 0, locals := 0 } : Room).slots) := by
  refine MetFree.of_bodySF (plainFor_of_name pn18) hisR ?_
  intro p e s m args below meth c s₁ Bd hml0 hP hK
  obtain ⟨rfl, hZ, hh⟩ := hP
  have hx := Bd.exec
  have hby := Bd.bytes
  have hml : c.maxLocals = 1 := hml0
  have hown : s.vm.findClass "com/example/nuthatch/nuthatch/tariff/PriceBound" = some m.cls := findClass_of_methodNamed Bd.named
  have X0 : Stand p l e ({ frames := 0, cells := 0, slots := 0, locals := 0 } : Room) s m #[(.ref w_MAX_INCL_VAT)] below meth c s₁ [] 0 0 := Stand.of_body Bd
  have e0 : s₁.heap = h0 := by rw [← hh, Bd.state]; rfl
  have N0 := Fr.nil n0
  have pre0 : ∀ t, Steps p.tables e below (s₁.setTop (mkF m 0 #[.val (.ref w_MAX_INCL_VAT)] [])) t → Steps p.tables e below (s₁.setTop (entryFrame m #[(.ref w_MAX_INCL_VAT)] 1)) t := fun t k => castTop (ef30 m w_MAX_INCL_VAT) k
  obtain ⟨S_w_MIN_EXCL_VAT, E_w_MIN_EXCL_VAT, S_w_MIN_INCL_VAT, E_w_MIN_INCL_VAT, S_w_MAX_INCL_VAT, E_w_MAX_INCL_VAT, S_w_MAX_EXCL_VAT, E_w_MAX_EXCL_VAT, F_ordinal_w_MIN_EXCL_VAT, F_ordinal_w_MIN_INCL_VAT, F_ordinal_w_MAX_INCL_VAT, F_ordinal_w_MAX_EXCL_VAT, ne_w_MIN_EXCL_VAT_w_MIN_INCL_VAT, ne_w_MIN_EXCL_VAT_w_MAX_INCL_VAT, ne_w_MIN_EXCL_VAT_w_MAX_EXCL_VAT, ne_w_MIN_INCL_VAT_w_MAX_INCL_VAT, ne_w_MIN_INCL_VAT_w_MAX_EXCL_VAT, ne_w_MAX_INCL_VAT_w_MAX_EXCL_VAT, -⟩ := id HW
  obtain ⟨T1, X1, e1, st1⟩ := getS2 X0 hx hZ hown (host := "") (Or.inl (hw _ (List.mem_of_getElem? (i := 26) rfl))) Via.refl e0 S_w_MAX_EXCL_VAT (g := (mkF m 1 #[.val (.ref w_MAX_INCL_VAT)] [(.ref w_MAX_INCL_VAT)])) rfl (hb hby d4_1)
  obtain ⟨T2, X2, e2, st2⟩ := getS2 X1 hx hZ hown (host := "") (Or.inl (hw _ (List.mem_of_getElem? (i := 14) rfl))) Via.refl e1 S_w_MAX_INCL_VAT (g := (mkF m 8 #[.val (.ref w_MAX_INCL_VAT)] [(.ref w_MAX_INCL_VAT)])) rfl (hb hby d4_8)
  obtain ⟨fs, hr, hrun, hended, hW, hsame⟩ := X2.leave (v := some (.int (1 : Int32))) (fun h => by rw [Bd.returns] at h; cases h)
  refine ⟨_, _, pre0 _ ?_, hrun, hended, _, _, rfl, ?_, ⟨_, rfl⟩, hW, hsame.mono (by decide) (by decide)⟩
  · show Steps p.tables e below (s₁.setTop (mkF m 0 #[.val (.ref w_MAX_INCL_VAT)] [])) _
    refine XS.aloadN X0.here hx rfl (hb hby d4_0) rfl rfl ?_
    show Steps p.tables e below (s₁.setTop (mkF m 1 #[.val (.ref w_MAX_INCL_VAT)] [(.ref w_MAX_INCL_VAT)])) _
    refine st1 _ ?_
    show Steps p.tables e below (T1.setTop (mkF m 4 #[.val (.ref w_MAX_INCL_VAT)] [(.ref w_MAX_EXCL_VAT), (.ref w_MAX_INCL_VAT)])) _
    refine Jvm.RoadKit.acmp (g := (mkF m 4 #[.val (.ref w_MAX_INCL_VAT)] [(.ref w_MAX_EXCL_VAT), (.ref w_MAX_INCL_VAT)])) X1 hx rfl rfl rfl (pc0 := 4) (pc' := 7) (same := false) rfl (hb hby d4_4) rfl (decide_eq_false fun q => ne_w_MAX_INCL_VAT_w_MAX_EXCL_VAT (Value.ref.inj q)) (by decide) (by decide) ?_
    show Steps p.tables e below (T1.setTop (mkF m 7 #[.val (.ref w_MAX_INCL_VAT)] [])) _
    refine XS.aloadN X1.here hx rfl (hb hby d4_7) rfl rfl ?_
    show Steps p.tables e below (T1.setTop (mkF m 8 #[.val (.ref w_MAX_INCL_VAT)] [(.ref w_MAX_INCL_VAT)])) _
    refine st2 _ ?_
    show Steps p.tables e below (T2.setTop (mkF m 11 #[.val (.ref w_MAX_INCL_VAT)] [(.ref w_MAX_INCL_VAT), (.ref w_MAX_INCL_VAT)])) _
    refine Jvm.RoadKit.acmp (g := (mkF m 11 #[.val (.ref w_MAX_INCL_VAT)] [(.ref w_MAX_INCL_VAT), (.ref w_MAX_INCL_VAT)])) X2 hx rfl rfl rfl (pc0 := 11) (pc' := 14) (same := true) rfl (hb hby d4_11) rfl (decide_eq_true rfl) (by decide) (by decide) ?_
    show Steps p.tables e below (T2.setTop (mkF m 14 #[.val (.ref w_MAX_INCL_VAT)] [])) _
    refine XS.iconst X2.here hx rfl (hb hby d4_14) ?_
    show Steps p.tables e below (T2.setTop (mkF m 15 #[.val (.ref w_MAX_INCL_VAT)] [(.int (1 : Int32))])) _
    refine XS.goto X2.here hx rfl (pc0 := 15) (pc' := 19) rfl (hb hby d4_15) (by decide) (by decide) ?_
    show Steps p.tables e below (T2.setTop (mkF m 19 #[.val (.ref w_MAX_INCL_VAT)] [(.int (1 : Int32))])) _
    exact retN X2 hx (t := .boolean) Bd.returns (by simp) (hb hby d4_19) hr
  · exact ⟨rfl, N0, e2⟩
def Q3_24 (Z : State) (w_MIN_EXCL_VAT : Addr) (w_MIN_INCL_VAT : Addr) (w_MAX_INCL_VAT : Addr) (w_MAX_EXCL_VAT : Addr) (h0 : Heap) (n0 : Nat) (v : Option Value) (h : Heap) (L : List Loc) : Prop := v = some (.ref w_MAX_INCL_VAT) ∧ Fr n0 L ∧ h = h0
set_option maxRecDepth 65536 in
set_option maxHeartbeats 40000000 in
theorem rm3_24 (l : Launch) (Z : State) (a0 : Array Value) (hw : ∀ d ∈ tables_1, d.before a0 Z = true) (ws : List Jvm.Cond) (w_MIN_EXCL_VAT : Addr) (w_MIN_INCL_VAT : Addr) (w_MAX_INCL_VAT : Addr) (w_MAX_EXCL_VAT : Addr) (h0 : Heap) (n0 : Nat) (Z0 : n0 ≤ h0.size) (HW : World Z h0 w_MIN_EXCL_VAT w_MIN_INCL_VAT w_MAX_INCL_VAT w_MAX_EXCL_VAT) :
    MetFree l (⟨"com/example/nuthatch/nuthatch/tariff/PriceBound", "onInclVat", "()Lcom/example/nuthatch/nuthatch/tariff/PriceBound;"⟩ : MethodName) (head1 (Jvm.Cond.code (⟨"com/example/nuthatch/nuthatch/tariff/PriceBound", "onInclVat", "()Lcom/example/nuthatch/nuthatch/tariff/PriceBound;"⟩ : MethodName) prog_67_method_6_code 1 (some (.object "com/example/nuthatch/nuthatch/tariff/PriceBound")) :: ws) ({ frames := 1, cells := 0, slots := 0, locals := 12 } : Room)) (fun a U => a = #[(.ref w_MAX_INCL_VAT)] ∧ Z.Warmed39 U.vm ∧ U.heap = h0) (fun _ _ _ _ _ => True) (fun _ U o U' => ∃ v L, o = .returned v ∧ Q3_24 Z w_MIN_EXCL_VAT w_MIN_INCL_VAT w_MAX_INCL_VAT w_MAX_EXCL_VAT h0 n0 v U'.heap L ∧ FrameEnd U o U' L ({ frames := 1, cells := 0, slots := 0, locals := 12 } : Room).cells ({ frames := 1, cells := 0, slots := 0, locals := 12 } : Room).slots) := by
  refine MetFree.of_bodySF (plainFor_of_name pn18) hisR ?_
  intro p e s m args below meth c s₁ Bd hml0 hP hK
  obtain ⟨rfl, hZ, hh⟩ := hP
  have hx := Bd.exec
  have hby := Bd.bytes
  have hml : c.maxLocals = 1 := hml0
  have hown : s.vm.findClass "com/example/nuthatch/nuthatch/tariff/PriceBound" = some m.cls := findClass_of_methodNamed Bd.named
  have X0 : Stand p l e ({ frames := 1, cells := 0, slots := 0, locals := 12 } : Room) s m #[(.ref w_MAX_INCL_VAT)] below meth c s₁ [] 0 0 := Stand.of_body Bd
  have e0 : s₁.heap = h0 := by rw [← hh, Bd.state]; rfl
  have N0 := Fr.nil n0
  have pre0 : ∀ t, Steps p.tables e below (s₁.setTop (mkF m 0 #[.val (.ref w_MAX_INCL_VAT)] [])) t → Steps p.tables e below (s₁.setTop (entryFrame m #[(.ref w_MAX_INCL_VAT)] 1)) t := fun t k => castTop (ef36 m w_MAX_INCL_VAT) k
  obtain ⟨S_w_MIN_EXCL_VAT, E_w_MIN_EXCL_VAT, S_w_MIN_INCL_VAT, E_w_MIN_INCL_VAT, S_w_MAX_INCL_VAT, E_w_MAX_INCL_VAT, S_w_MAX_EXCL_VAT, E_w_MAX_EXCL_VAT, F_ordinal_w_MIN_EXCL_VAT, F_ordinal_w_MIN_INCL_VAT, F_ordinal_w_MAX_INCL_VAT, F_ordinal_w_MAX_EXCL_VAT, ne_w_MIN_EXCL_VAT_w_MIN_INCL_VAT, ne_w_MIN_EXCL_VAT_w_MAX_INCL_VAT, ne_w_MIN_EXCL_VAT_w_MAX_EXCL_VAT, ne_w_MIN_INCL_VAT_w_MAX_INCL_VAT, ne_w_MIN_INCL_VAT_w_MAX_EXCL_VAT, ne_w_MAX_INCL_VAT_w_MAX_EXCL_VAT, -⟩ := id HW
  obtain ⟨cq1, kq1, q1a, q1b, q1c⟩ := isOf hZ e0 E_w_MAX_INCL_VAT
  obtain ⟨_, _, ⟨T1, L1, k1, n1⟩, -, X1, ⟨Lc1, hQ1, l1, y1, z1⟩, st1⟩ := X0.virtualBack hx (y := (⟨"com/example/nuthatch/nuthatch/tariff/PriceBound", "isMaximum", "()Z"⟩ : MethodName)) (z := (⟨"com/example/nuthatch/nuthatch/tariff/PriceBound", "isMaximum", "()Z"⟩ : MethodName)) hown (mvT hZ (hw _ (List.mem_of_getElem? (i := 21) rfl))) (mvT hZ (hw _ (List.mem_of_getElem? (i := 22) rfl))) (notFace_of_selects (args := #[]) (mvT hZ (hw _ (List.mem_of_getElem? (i := 24) rfl)))) (mvT hZ (hw _ (List.mem_of_getElem? (i := 24) rfl))) (mvT hZ (hw _ (List.mem_of_getElem? (i := 23) rfl))) (by decide) (backOf (W := 0) (rm4_23 l Z a0 hw [] w_MIN_EXCL_VAT w_MIN_INCL_VAT w_MAX_INCL_VAT w_MAX_EXCL_VAT h0 n0 Z0 HW) hZ (hw _ (List.mem_of_getElem? (i := 25) rfl)) (hw _ (List.mem_of_getElem? (i := 5) rfl)) (by decide) (by decide)) q1a q1c (g := (mkF m 1 #[.val (.ref w_MAX_INCL_VAT)] [(.ref w_MAX_INCL_VAT)])) rfl (by rw [hml]; rfl) (Steps.refl _) (argsL := []) (rest := []) (lenOf pd19 rfl) rfl (by show 2 * 0 + _ ≤ _; exact Nat.le_of_eq rfl) (hb hby d3_1) (fun _ _ => ⟨rfl, e0, (by decide : 0 + 0 ≤ _), (by decide : 0 + 0 ≤ _)⟩)
  dsimp only [Pt.U, Pt.locs, Pt.cells, Pt.slots] at X1 l1 y1 z1 st1 hQ1
  subst l1 y1 z1
  obtain ⟨rfl, N1q, e1⟩ := hQ1
  have N1 := Fr.app N0 N1q
  obtain ⟨T2, X2, e2, st2⟩ := getS2 X1 hx hZ hown (host := "") (Or.inl (hw _ (List.mem_of_getElem? (i := 14) rfl))) Via.refl e1 S_w_MAX_INCL_VAT (g := (mkF m 7 #[.val (.ref w_MAX_INCL_VAT)] [])) rfl (hb hby d3_7)
  obtain ⟨fs, hr, hrun, hended, hW, hsame⟩ := X2.leave (v := some (.ref w_MAX_INCL_VAT)) (fun h => by rw [Bd.returns] at h; cases h)
  refine ⟨_, _, pre0 _ ?_, hrun, hended, _, _, rfl, ?_, ⟨_, rfl⟩, hW, hsame.mono (by decide) (by decide)⟩
  · show Steps p.tables e below (s₁.setTop (mkF m 0 #[.val (.ref w_MAX_INCL_VAT)] [])) _
    refine XS.aloadN X0.here hx rfl (hb hby d3_0) rfl rfl ?_
    show Steps p.tables e below (s₁.setTop (mkF m 1 #[.val (.ref w_MAX_INCL_VAT)] [(.ref w_MAX_INCL_VAT)])) _
    refine st1.trans ?_
    show Steps p.tables e below (T1.setTop (mkF m 4 #[.val (.ref w_MAX_INCL_VAT)] [(.int (1 : Int32))])) _
    refine XS.ifNo X1.here hx rfl (hb hby d3_4) rfl ((if0 _ _).trans (feq (by decide : ¬ ((1 : Int32) = (0 : Int32)))).1) ?_
    show Steps p.tables e below (T1.setTop (mkF m 7 #[.val (.ref w_MAX_INCL_VAT)] [])) _
    refine st2 _ ?_
    show Steps p.tables e below (T2.setTop (mkF m 10 #[.val (.ref w_MAX_INCL_VAT)] [(.ref w_MAX_INCL_VAT)])) _
    refine XS.goto X2.here hx rfl (pc0 := 10) (pc' := 16) rfl (hb hby d3_10) (by decide) (by decide) ?_
    show Steps p.tables e below (T2.setTop (mkF m 16 #[.val (.ref w_MAX_INCL_VAT)] [(.ref w_MAX_INCL_VAT)])) _
    jvm_step X2.here [X2.here.top, hx, (hb hby d3_16), X2.method', Bd.returns, Value.isRef, FieldType.isReference]
    first | (intro acts; rw [hr _ acts rfl rfl rfl]) | rw [hr _ _ rfl rfl rfl]
    exact Steps.refl _
  · exact ⟨rfl, N1, e2⟩
def Q6_25 (Z : State) (w_MIN_EXCL_VAT : Addr) (w_MIN_INCL_VAT : Addr) (w_MAX_INCL_VAT : Addr) (w_MAX_EXCL_VAT : Addr) (h0 : Heap) (n0 : Nat) (v : Option Value) (h : Heap) (L : List Loc) : Prop := v = some (.int (3 : Int32)) ∧ Fr n0 L ∧ h = h0
set_option maxRecDepth 65536 in
set_option maxHeartbeats 40000000 in
theorem rm6_25 (l : Launch) (Z : State) (a0 : Array Value) (hw : ∀ d ∈ tables_1, d.before a0 Z = true) (ws : List Jvm.Cond) (w_MIN_EXCL_VAT : Addr) (w_MIN_INCL_VAT : Addr) (w_MAX_INCL_VAT : Addr) (w_MAX_EXCL_VAT : Addr) (h0 : Heap) (n0 : Nat) (Z0 : n0 ≤ h0.size) (HW : World Z h0 w_MIN_EXCL_VAT w_MIN_INCL_VAT w_MAX_INCL_VAT w_MAX_EXCL_VAT) :
    MetFree l (⟨"java/lang/Enum", "ordinal", "()I"⟩ : MethodName) (head1 (Jvm.Cond.code (⟨"java/lang/Enum", "ordinal", "()I"⟩ : MethodName) jdk_37_method_2_code 1 (some .int) :: ws) ({ frames := 0, cells := 0, slots := 0, locals := 0 } : Room)) (fun a U => a = #[(.ref w_MAX_INCL_VAT)] ∧ Z.Warmed39 U.vm ∧ U.heap = h0) (fun _ _ _ _ _ => True) (fun _ U o U' => ∃ v L, o = .returned v ∧ Q6_25 Z w_MIN_EXCL_VAT w_MIN_INCL_VAT w_MAX_INCL_VAT w_MAX_EXCL_VAT h0 n0 v U'.heap L ∧ FrameEnd U o U' L ({ frames := 0, cells := 0, slots := 0, locals := 0 } : Room).cells ({ frames := 0, cells := 0, slots := 0, locals := 0 } : Room).slots) := by
  refine MetFree.of_bodySF (plainFor_of_name pn44) hisR ?_
  intro p e s m args below meth c s₁ Bd hml0 hP hK
  obtain ⟨rfl, hZ, hh⟩ := hP
  have hx := Bd.exec
  have hby := Bd.bytes
  have hml : c.maxLocals = 1 := hml0
  have hown : s.vm.findClass "java/lang/Enum" = some m.cls := findClass_of_methodNamed Bd.named
  have X0 : Stand p l e ({ frames := 0, cells := 0, slots := 0, locals := 0 } : Room) s m #[(.ref w_MAX_INCL_VAT)] below meth c s₁ [] 0 0 := Stand.of_body Bd
  have e0 : s₁.heap = h0 := by rw [← hh, Bd.state]; rfl
  have N0 := Fr.nil n0
  have pre0 : ∀ t, Steps p.tables e below (s₁.setTop (mkF m 0 #[.val (.ref w_MAX_INCL_VAT)] [])) t → Steps p.tables e below (s₁.setTop (entryFrame m #[(.ref w_MAX_INCL_VAT)] 1)) t := fun t k => castTop (ef43 m w_MAX_INCL_VAT) k
  obtain ⟨S_w_MIN_EXCL_VAT, E_w_MIN_EXCL_VAT, S_w_MIN_INCL_VAT, E_w_MIN_INCL_VAT, S_w_MAX_INCL_VAT, E_w_MAX_INCL_VAT, S_w_MAX_EXCL_VAT, E_w_MAX_EXCL_VAT, F_ordinal_w_MIN_EXCL_VAT, F_ordinal_w_MIN_INCL_VAT, F_ordinal_w_MAX_INCL_VAT, F_ordinal_w_MAX_EXCL_VAT, ne_w_MIN_EXCL_VAT_w_MIN_INCL_VAT, ne_w_MIN_EXCL_VAT_w_MAX_INCL_VAT, ne_w_MIN_EXCL_VAT_w_MAX_EXCL_VAT, ne_w_MIN_INCL_VAT_w_MAX_INCL_VAT, ne_w_MIN_INCL_VAT_w_MAX_EXCL_VAT, ne_w_MAX_INCL_VAT_w_MAX_EXCL_VAT, -⟩ := id HW
  obtain ⟨T1, X1, e1, st1⟩ := getF X0 hx hZ hown (host := "") (Or.inl (hw _ (List.mem_of_getElem? (i := 40) rfl))) Via.refl e0 F_ordinal_w_MAX_INCL_VAT (g := (mkF m 1 #[.val (.ref w_MAX_INCL_VAT)] [(.ref w_MAX_INCL_VAT)])) rfl rfl (hb hby d6_1)
  obtain ⟨fs, hr, hrun, hended, hW, hsame⟩ := X1.leave (v := some (.int (3 : Int32))) (fun h => by rw [Bd.returns] at h; cases h)
  refine ⟨_, _, pre0 _ ?_, hrun, hended, _, _, rfl, ?_, ⟨_, rfl⟩, hW, hsame.mono (by decide) (by decide)⟩
  · show Steps p.tables e below (s₁.setTop (mkF m 0 #[.val (.ref w_MAX_INCL_VAT)] [])) _
    refine XS.aloadN X0.here hx rfl (hb hby d6_0) rfl rfl ?_
    show Steps p.tables e below (s₁.setTop (mkF m 1 #[.val (.ref w_MAX_INCL_VAT)] [(.ref w_MAX_INCL_VAT)])) _
    refine st1 _ ?_
    show Steps p.tables e below (T1.setTop (mkF m 4 #[.val (.ref w_MAX_INCL_VAT)] [(.int (3 : Int32))])) _
    exact Jvm.RoadKit.retI X1 hx Bd.returns (hb hby d6_4) hr
  · exact ⟨rfl, N0, e1⟩
theorem d5_64 : decode prog_67_method_7_code 64 = .ok (.getstatic 7, 3) := by decide +kernel
def Q5_26 (Z : State) (w_MIN_EXCL_VAT : Addr) (w_MIN_INCL_VAT : Addr) (w_MAX_INCL_VAT : Addr) (w_MAX_EXCL_VAT : Addr) (h0 : Heap) (n0 : Nat) (v : Option Value) (h : Heap) (L : List Loc) : Prop := v = some (.ref w_MIN_INCL_VAT) ∧ Fr n0 L ∧ h = h0
set_option maxRecDepth 65536 in
set_option maxHeartbeats 40000000 in
theorem rm5_26 (l : Launch) (Z : State) (a0 : Array Value) (hw : ∀ d ∈ tables_1, d.before a0 Z = true) (ws : List Jvm.Cond) (w_MIN_EXCL_VAT : Addr) (w_MIN_INCL_VAT : Addr) (w_MAX_INCL_VAT : Addr) (w_MAX_EXCL_VAT : Addr) (h0 : Heap) (n0 : Nat) (Z0 : n0 ≤ h0.size) (HW : World Z h0 w_MIN_EXCL_VAT w_MIN_INCL_VAT w_MAX_INCL_VAT w_MAX_EXCL_VAT) :
    MetFree l (⟨"com/example/nuthatch/nuthatch/tariff/PriceBound", "opposite", "()Lcom/example/nuthatch/nuthatch/tariff/PriceBound;"⟩ : MethodName) (head1 (Jvm.Cond.code (⟨"com/example/nuthatch/nuthatch/tariff/PriceBound", "opposite", "()Lcom/example/nuthatch/nuthatch/tariff/PriceBound;"⟩ : MethodName) prog_67_method_7_code 1 (some (.object "com/example/nuthatch/nuthatch/tariff/PriceBound")) :: ws) ({ frames := 1, cells := 0, slots := 0, locals := 12 } : Room)) (fun a U => a = #[(.ref w_MAX_INCL_VAT)] ∧ Z.Warmed39 U.vm ∧ U.heap = h0) (fun _ _ _ _ _ => True) (fun _ U o U' => ∃ v L, o = .returned v ∧ Q5_26 Z w_MIN_EXCL_VAT w_MIN_INCL_VAT w_MAX_INCL_VAT w_MAX_EXCL_VAT h0 n0 v U'.heap L ∧ FrameEnd U o U' L ({ frames := 1, cells := 0, slots := 0, locals := 12 } : Room).cells ({ frames := 1, cells := 0, slots := 0, locals := 12 } : Room).slots) := by
  refine MetFree.of_bodySF (plainFor_of_name pn18) hisR ?_
  intro p e s m args below meth c s₁ Bd hml0 hP hK
  obtain ⟨rfl, hZ, hh⟩ := hP
  have hx := Bd.exec
  have hby := Bd.bytes
  have hml : c.maxLocals = 1 := hml0
  have hown : s.vm.findClass "com/example/nuthatch/nuthatch/tariff/PriceBound" = some m.cls := findClass_of_methodNamed Bd.named
  have X0 : Stand p l e ({ frames := 1, cells := 0, slots := 0, locals := 12 } : Room) s m #[(.ref w_MAX_INCL_VAT)] below meth c s₁ [] 0 0 := Stand.of_body Bd
  have e0 : s₁.heap = h0 := by rw [← hh, Bd.state]; rfl
  have N0 := Fr.nil n0
  have pre0 : ∀ t, Steps p.tables e below (s₁.setTop (mkF m 0 #[.val (.ref w_MAX_INCL_VAT)] [])) t → Steps p.tables e below (s₁.setTop (entryFrame m #[(.ref w_MAX_INCL_VAT)] 1)) t := fun t k => castTop (ef52 m w_MAX_INCL_VAT) k
  obtain ⟨S_w_MIN_EXCL_VAT, E_w_MIN_EXCL_VAT, S_w_MIN_INCL_VAT, E_w_MIN_INCL_VAT, S_w_MAX_INCL_VAT, E_w_MAX_INCL_VAT, S_w_MAX_EXCL_VAT, E_w_MAX_EXCL_VAT, F_ordinal_w_MIN_EXCL_VAT, F_ordinal_w_MIN_INCL_VAT, F_ordinal_w_MAX_INCL_VAT, F_ordinal_w_MAX_EXCL_VAT, ne_w_MIN_EXCL_VAT_w_MIN_INCL_VAT, ne_w_MIN_EXCL_VAT_w_MAX_INCL_VAT, ne_w_MIN_EXCL_VAT_w_MAX_EXCL_VAT, ne_w_MIN_INCL_VAT_w_MAX_INCL_VAT, ne_w_MIN_INCL_VAT_w_MAX_EXCL_VAT, ne_w_MAX_INCL_VAT_w_MAX_EXCL_VAT, -⟩ := id HW
  obtain ⟨cq1, kq1, q1a, q1b, q1c⟩ := isOf hZ e0 E_w_MAX_INCL_VAT
  obtain ⟨_, _, ⟨T1, L1, k1, n1⟩, -, X1, ⟨Lc1, hQ1, l1, y1, z1⟩, st1⟩ := X0.virtualBackUp hx (x := (⟨"com/example/nuthatch/nuthatch/tariff/PriceBound", "ordinal", "()I"⟩ : MethodName)) (y := (⟨"java/lang/Enum", "ordinal", "()I"⟩ : MethodName)) hown (mvT hZ (hw _ (List.mem_of_getElem? (i := 33) rfl))) (mvT hZ (hw _ (List.mem_of_getElem? (i := 34) rfl))) (mvT hZ (hw _ (List.mem_of_getElem? (i := 35) rfl))) (by decide) (mvT hZ (hw _ (List.mem_of_getElem? (i := 37) rfl))) (mvT hZ (hw _ (List.mem_of_getElem? (i := 36) rfl))) (backOf (W := 0) (rm6_25 l Z a0 hw [] w_MIN_EXCL_VAT w_MIN_INCL_VAT w_MAX_INCL_VAT w_MAX_EXCL_VAT h0 n0 Z0 HW) hZ (hw _ (List.mem_of_getElem? (i := 39) rfl)) (hw _ (List.mem_of_getElem? (i := 38) rfl)) (by decide) (by decide)) q1a q1c (g := (mkF m 1 #[.val (.ref w_MAX_INCL_VAT)] [(.ref w_MAX_INCL_VAT)])) rfl (by rw [hml]; rfl) (Steps.refl _) (argsL := []) (rest := []) (lenOf pd45 rfl) rfl (by show 2 * 0 + _ ≤ _; exact Nat.le_of_eq rfl) (hb hby d5_1) (fun _ _ => ⟨rfl, e0, (by decide : 0 + 0 ≤ _), (by decide : 0 + 0 ≤ _)⟩)
  dsimp only [Pt.U, Pt.locs, Pt.cells, Pt.slots] at X1 l1 y1 z1 st1 hQ1
  subst l1 y1 z1
  obtain ⟨rfl, N1q, e1⟩ := hQ1
  have N1 := Fr.app N0 N1q
  obtain ⟨T2, X2, e2, st2⟩ := getS2 X1 hx hZ hown (host := "") (Or.inl (hw _ (List.mem_of_getElem? (i := 12) rfl))) Via.refl e1 S_w_MIN_INCL_VAT (g := (mkF m 64 #[.val (.ref w_MAX_INCL_VAT)] [])) rfl (hb hby d5_64)
  obtain ⟨fs, hr, hrun, hended, hW, hsame⟩ := X2.leave (v := some (.ref w_MIN_INCL_VAT)) (fun h => by rw [Bd.returns] at h; cases h)
  refine ⟨_, _, pre0 _ ?_, hrun, hended, _, _, rfl, ?_, ⟨_, rfl⟩, hW, hsame.mono (by decide) (by decide)⟩
  · show Steps p.tables e below (s₁.setTop (mkF m 0 #[.val (.ref w_MAX_INCL_VAT)] [])) _
    refine XS.aloadN X0.here hx rfl (hb hby d5_0) rfl rfl ?_
    show Steps p.tables e below (s₁.setTop (mkF m 1 #[.val (.ref w_MAX_INCL_VAT)] [(.ref w_MAX_INCL_VAT)])) _
    refine st1.trans ?_
    show Steps p.tables e below (T1.setTop (mkF m 4 #[.val (.ref w_MAX_INCL_VAT)] [(.int (3 : Int32))])) _
    refine XS.tswIn X1.here hx rfl (pc0 := 4) (pc' := 64) rfl (hb hby d5_4) rfl (by decide) (o := 60) (by decide) (by decide) (by decide) ?_
    show Steps p.tables e below (T1.setTop (mkF m 64 #[.val (.ref w_MAX_INCL_VAT)] [])) _
    refine st2 _ ?_
    show Steps p.tables e below (T2.setTop (mkF m 67 #[.val (.ref w_MAX_INCL_VAT)] [(.ref w_MIN_INCL_VAT)])) _
    jvm_step X2.here [X2.here.top, hx, (hb hby d5_67), X2.method', Bd.returns, Value.isRef, FieldType.isReference]
    first | (intro acts; rw [hr _ acts rfl rfl rfl]) | rw [hr _ _ rfl rfl rfl]
    exact Steps.refl _
  · exact ⟨rfl, N1, e2⟩
set_option maxRecDepth 65536 in
set_option maxHeartbeats 40000000 in
theorem rm0_c3 (l : Launch) (Z : State) (a0 : Array Value) (hw : ∀ d ∈ tables_1, d.before a0 Z = true) (ws : List Jvm.Cond) (w_MIN_EXCL_VAT : Addr) (w_MIN_INCL_VAT : Addr) (w_MAX_INCL_VAT : Addr) (w_MAX_EXCL_VAT : Addr) (p1 : Int32) (h0 : Heap) (n0 : Nat) (Z0 : n0 ≤ h0.size) (HW : World Z h0 w_MIN_EXCL_VAT w_MIN_INCL_VAT w_MAX_INCL_VAT w_MAX_EXCL_VAT) (hk : (p1 &&& (3 : Int32)) = (3 : Int32)) :
    MetFree l x (head1 (Jvm.Cond.code x code maxLocals ret :: ws) room_1) (fun a U => a = #[(.int p1)] ∧ Z.Warmed39 U.vm ∧ U.heap = h0) (fun _ _ _ _ _ => True) (fun _ U o U' => ∃ v L, o = .returned v ∧ Q0 h0 n0 v U'.heap L ∧ FrameEnd U o U' L room_1.cells room_1.slots) := by
  refine MetFree.of_bodySF (plainFor_of_name pn6) hisR ?_
  intro p e s m args below meth c s₁ Bd hml0 hP hK
  obtain ⟨rfl, hZ, hh⟩ := hP
  have hx := Bd.exec
  have hby := Bd.bytes
  have hml : c.maxLocals = 5 := hml0
  have hown : s.vm.findClass "com/example/nuthatch/nuthatch/tariff/PriceBoundInclVatPinLaw" = some m.cls := findClass_of_methodNamed Bd.named
  have X0 : Stand p l e room_1 s m #[(.int p1)] below meth c s₁ [] 0 0 := Stand.of_body Bd
  have e0 : s₁.heap = h0 := by rw [← hh, Bd.state]; rfl
  have N0 := Fr.nil n0
  have pre0 : ∀ t, Steps p.tables e below (s₁.setTop (mkF m 0 #[.val (.int p1), .unset, .unset, .unset, .unset] [])) t → Steps p.tables e below (s₁.setTop (entryFrame m #[(.int p1)] maxLocals)) t := fun t k => castTop (ef55 m p1) k
  obtain ⟨S_w_MIN_EXCL_VAT, E_w_MIN_EXCL_VAT, S_w_MIN_INCL_VAT, E_w_MIN_INCL_VAT, S_w_MAX_INCL_VAT, E_w_MAX_INCL_VAT, S_w_MAX_EXCL_VAT, E_w_MAX_EXCL_VAT, F_ordinal_w_MIN_EXCL_VAT, F_ordinal_w_MIN_INCL_VAT, F_ordinal_w_MAX_INCL_VAT, F_ordinal_w_MAX_EXCL_VAT, ne_w_MIN_EXCL_VAT_w_MIN_INCL_VAT, ne_w_MIN_EXCL_VAT_w_MAX_INCL_VAT, ne_w_MIN_EXCL_VAT_w_MAX_EXCL_VAT, ne_w_MIN_INCL_VAT_w_MAX_INCL_VAT, ne_w_MIN_INCL_VAT_w_MAX_EXCL_VAT, ne_w_MAX_INCL_VAT_w_MAX_EXCL_VAT, -⟩ := id HW
  obtain ⟨_, _, ⟨T1, L1, k1, n1⟩, -, X1, ⟨Lc1, hQ1, l1, y1, z1⟩, st1⟩ := Jvm.LawKit.callS X0 hx (y := (⟨"com/example/nuthatch/nuthatch/tariff/PriceBoundInclVatPinLaw", "pick", "(I)Lcom/example/nuthatch/nuthatch/tariff/PriceBound;"⟩ : MethodName)) hown (mvT hZ (hw _ (List.mem_of_getElem? (i := 0) rfl))) (mvT hZ (hw _ (List.mem_of_getElem? (i := 1) rfl))) (mvT hZ (hw _ (List.mem_of_getElem? (i := 2) rfl))) (mvT hZ (hw _ (List.mem_of_getElem? (i := 3) rfl))) (by decide) (backOf (W := 0) (rm1_22 l Z a0 hw [] w_MIN_EXCL_VAT w_MIN_INCL_VAT w_MAX_INCL_VAT w_MAX_EXCL_VAT h0 n0 Z0 HW) hZ (hw _ (List.mem_of_getElem? (i := 3) rfl)) (hw _ (List.mem_of_getElem? (i := 2) rfl)) (by decide) (by decide)) (g := (mkF m 5 #[.val (.int p1), .val (.int (3 : Int32)), .unset, .unset, .unset] [(.int (3 : Int32))])) rfl (by rw [hml]; rfl) (argsL := [(.int (3 : Int32))]) (rest := []) (lenOf pd7 rfl) rfl (by show 2 * 0 + _ ≤ _; exact Nat.le_of_eq rfl) (hb hby at_5) (fun _ _ => ⟨rfl, e0, (by decide : 0 + 0 ≤ _), (by decide : 0 + 0 ≤ _)⟩)
  dsimp only [Pt.U, Pt.locs, Pt.cells, Pt.slots] at X1 l1 y1 z1 st1 hQ1
  subst l1 y1 z1
  obtain ⟨rfl, N1q, e1⟩ := hQ1
  have N1 := Fr.app N0 N1q
  obtain ⟨cq2, kq2, q2a, q2b, q2c⟩ := isOf hZ e1 E_w_MAX_INCL_VAT
  obtain ⟨_, _, ⟨T2, L2, k2, n2⟩, -, X2, ⟨Lc2, hQ2, l2, y2, z2⟩, st2⟩ := X1.virtualBack hx (y := (⟨"com/example/nuthatch/nuthatch/tariff/PriceBound", "inclVat", "()Z"⟩ : MethodName)) (z := (⟨"com/example/nuthatch/nuthatch/tariff/PriceBound", "inclVat", "()Z"⟩ : MethodName)) hown (mvT hZ (hw _ (List.mem_of_getElem? (i := 7) rfl))) (mvT hZ (hw _ (List.mem_of_getElem? (i := 8) rfl))) (notFace_of_selects (args := #[]) (mvT hZ (hw _ (List.mem_of_getElem? (i := 10) rfl)))) (mvT hZ (hw _ (List.mem_of_getElem? (i := 10) rfl))) (mvT hZ (hw _ (List.mem_of_getElem? (i := 9) rfl))) (by decide) (backOf (W := 0) (rm2_14 l Z a0 hw [] w_MIN_EXCL_VAT w_MIN_INCL_VAT w_MAX_INCL_VAT w_MAX_EXCL_VAT h0 n0 Z0 HW) hZ (hw _ (List.mem_of_getElem? (i := 11) rfl)) (hw _ (List.mem_of_getElem? (i := 5) rfl)) (by decide) (by decide)) q2a q2c (g := (mkF m 26 #[.val (.int p1), .val (.int (3 : Int32)), .val (.ref w_MAX_INCL_VAT), .val (.int (1 : Int32)), .unset] [(.ref w_MAX_INCL_VAT)])) rfl (by rw [hml]; rfl) (Steps.refl _) (argsL := []) (rest := []) (lenOf pd19 rfl) rfl (by show 2 * 0 + _ ≤ _; exact Nat.le_of_eq rfl) (hb hby at_26) (fun _ _ => ⟨rfl, e1, (by decide : 0 + 0 ≤ _), (by decide : 0 + 0 ≤ _)⟩)
  dsimp only [Pt.U, Pt.locs, Pt.cells, Pt.slots] at X2 l2 y2 z2 st2 hQ2
  subst l2 y2 z2
  obtain ⟨rfl, N2q, e2⟩ := hQ2
  have N2 := Fr.app N1 N2q
  obtain ⟨cq3, kq3, q3a, q3b, q3c⟩ := isOf hZ e2 E_w_MAX_INCL_VAT
  obtain ⟨_, _, ⟨T3, L3, k3, n3⟩, -, X3, ⟨Lc3, hQ3, l3, y3, z3⟩, st3⟩ := X2.virtualBack hx (y := (⟨"com/example/nuthatch/nuthatch/tariff/PriceBound", "onInclVat", "()Lcom/example/nuthatch/nuthatch/tariff/PriceBound;"⟩ : MethodName)) (z := (⟨"com/example/nuthatch/nuthatch/tariff/PriceBound", "onInclVat", "()Lcom/example/nuthatch/nuthatch/tariff/PriceBound;"⟩ : MethodName)) hown (mvT hZ (hw _ (List.mem_of_getElem? (i := 16) rfl))) (mvT hZ (hw _ (List.mem_of_getElem? (i := 17) rfl))) (notFace_of_selects (args := #[]) (mvT hZ (hw _ (List.mem_of_getElem? (i := 19) rfl)))) (mvT hZ (hw _ (List.mem_of_getElem? (i := 19) rfl))) (mvT hZ (hw _ (List.mem_of_getElem? (i := 18) rfl))) (by decide) (backOf (W := 1) (rm3_24 l Z a0 hw [] w_MIN_EXCL_VAT w_MIN_INCL_VAT w_MAX_INCL_VAT w_MAX_EXCL_VAT h0 n0 Z0 HW) hZ (hw _ (List.mem_of_getElem? (i := 20) rfl)) (hw _ (List.mem_of_getElem? (i := 5) rfl)) (by decide) (by decide)) q3a q3c (g := (mkF m 42 #[.val (.int p1), .val (.int (3 : Int32)), .val (.ref w_MAX_INCL_VAT), .val (.int (1 : Int32)), .val (.int (1 : Int32))] [(.ref w_MAX_INCL_VAT), (.int (1 : Int32))])) rfl (by rw [hml]; rfl) (Steps.refl _) (argsL := []) (rest := [(.int (1 : Int32))]) (lenOf pd37 rfl) rfl (by show 2 * 0 + _ ≤ _; exact Nat.le_of_eq rfl) (hb hby at_42) (fun _ _ => ⟨rfl, e2, (by decide : 0 + 0 ≤ _), (by decide : 0 + 0 ≤ _)⟩)
  dsimp only [Pt.U, Pt.locs, Pt.cells, Pt.slots] at X3 l3 y3 z3 st3 hQ3
  subst l3 y3 z3
  obtain ⟨rfl, N3q, e3⟩ := hQ3
  have N3 := Fr.app N2 N3q
  obtain ⟨cq4, kq4, q4a, q4b, q4c⟩ := isOf hZ e3 E_w_MAX_INCL_VAT
  obtain ⟨_, _, ⟨T4, L4, k4, n4⟩, -, X4, ⟨Lc4, hQ4, l4, y4, z4⟩, st4⟩ := X3.virtualBack hx (y := (⟨"com/example/nuthatch/nuthatch/tariff/PriceBound", "opposite", "()Lcom/example/nuthatch/nuthatch/tariff/PriceBound;"⟩ : MethodName)) (z := (⟨"com/example/nuthatch/nuthatch/tariff/PriceBound", "opposite", "()Lcom/example/nuthatch/nuthatch/tariff/PriceBound;"⟩ : MethodName)) hown (mvT hZ (hw _ (List.mem_of_getElem? (i := 28) rfl))) (mvT hZ (hw _ (List.mem_of_getElem? (i := 29) rfl))) (notFace_of_selects (args := #[]) (mvT hZ (hw _ (List.mem_of_getElem? (i := 31) rfl)))) (mvT hZ (hw _ (List.mem_of_getElem? (i := 31) rfl))) (mvT hZ (hw _ (List.mem_of_getElem? (i := 30) rfl))) (by decide) (backOf (W := 0) (rm5_26 l Z a0 hw [] w_MIN_EXCL_VAT w_MIN_INCL_VAT w_MAX_INCL_VAT w_MAX_EXCL_VAT h0 n0 Z0 HW) hZ (hw _ (List.mem_of_getElem? (i := 32) rfl)) (hw _ (List.mem_of_getElem? (i := 5) rfl)) (by decide) (by decide)) q4a q4c (g := (mkF m 60 #[.val (.int p1), .val (.int (3 : Int32)), .val (.ref w_MAX_INCL_VAT), .val (.int (1 : Int32)), .val (.int (1 : Int32))] [(.ref w_MAX_INCL_VAT)])) rfl (by rw [hml]; rfl) (Steps.refl _) (argsL := []) (rest := []) (lenOf pd37 rfl) rfl (by show 2 * 0 + _ ≤ _; exact Nat.le_of_eq rfl) (hb hby at_60) (fun _ _ => ⟨rfl, e3, (by decide : 0 + 0 ≤ _), (by decide : 0 + 0 ≤ _)⟩)
  dsimp only [Pt.U, Pt.locs, Pt.cells, Pt.slots] at X4 l4 y4 z4 st4 hQ4
  subst l4 y4 z4
  obtain ⟨rfl, N4q, e4⟩ := hQ4
  have N4 := Fr.app N3 N4q
  obtain ⟨cq5, kq5, q5a, q5b, q5c⟩ := isOf hZ e4 E_w_MIN_INCL_VAT
  obtain ⟨_, _, ⟨T5, L5, k5, n5⟩, -, X5, ⟨Lc5, hQ5, l5, y5, z5⟩, st5⟩ := X4.virtualBack hx (y := (⟨"com/example/nuthatch/nuthatch/tariff/PriceBound", "inclVat", "()Z"⟩ : MethodName)) (z := (⟨"com/example/nuthatch/nuthatch/tariff/PriceBound", "inclVat", "()Z"⟩ : MethodName)) hown (mvT hZ (hw _ (List.mem_of_getElem? (i := 7) rfl))) (mvT hZ (hw _ (List.mem_of_getElem? (i := 8) rfl))) (notFace_of_selects (args := #[]) (mvT hZ (hw _ (List.mem_of_getElem? (i := 10) rfl)))) (mvT hZ (hw _ (List.mem_of_getElem? (i := 10) rfl))) (mvT hZ (hw _ (List.mem_of_getElem? (i := 9) rfl))) (by decide) (backOf (W := 0) (rm2_9 l Z a0 hw [] w_MIN_EXCL_VAT w_MIN_INCL_VAT w_MAX_INCL_VAT w_MAX_EXCL_VAT h0 n0 Z0 HW) hZ (hw _ (List.mem_of_getElem? (i := 11) rfl)) (hw _ (List.mem_of_getElem? (i := 5) rfl)) (by decide) (by decide)) q5a q5c (g := (mkF m 63 #[.val (.int p1), .val (.int (3 : Int32)), .val (.ref w_MAX_INCL_VAT), .val (.int (1 : Int32)), .val (.int (1 : Int32))] [(.ref w_MIN_INCL_VAT)])) rfl (by rw [hml]; rfl) (Steps.refl _) (argsL := []) (rest := []) (lenOf pd19 rfl) rfl (by show 2 * 0 + _ ≤ _; exact Nat.le_of_eq rfl) (hb hby at_63) (fun _ _ => ⟨rfl, e4, (by decide : 0 + 0 ≤ _), (by decide : 0 + 0 ≤ _)⟩)
  dsimp only [Pt.U, Pt.locs, Pt.cells, Pt.slots] at X5 l5 y5 z5 st5 hQ5
  subst l5 y5 z5
  obtain ⟨rfl, N5q, e5⟩ := hQ5
  have N5 := Fr.app N4 N5q
  obtain ⟨fs, hr, hrun, hended, hW, hsame⟩ := X5.leave (v := some (.int (1 : Int32))) (fun h => by rw [Bd.returns] at h; cases h)
  refine ⟨_, _, pre0 _ ?_, hrun, hended, _, _, rfl, ?_, ⟨_, rfl⟩, hW, hsame.mono (by decide) (by decide)⟩
  · show Steps p.tables e below (s₁.setTop (mkF m 0 #[.val (.int p1), .unset, .unset, .unset, .unset] [])) _
    refine XS.iloadN X0.here hx rfl (hb hby at_0) rfl ?_
    show Steps p.tables e below (s₁.setTop (mkF m 1 #[.val (.int p1), .unset, .unset, .unset, .unset] [(.int p1)])) _
    refine XS.iconst X0.here hx rfl (hb hby at_1) ?_
    show Steps p.tables e below (s₁.setTop (mkF m 2 #[.val (.int p1), .unset, .unset, .unset, .unset] [(.int (3 : Int32)), (.int p1)])) _
    refine XS.iand X0.here hx rfl (hb hby at_2) rfl ?_
    rw [hk]
    show Steps p.tables e below (s₁.setTop (mkF m 3 #[.val (.int p1), .unset, .unset, .unset, .unset] [(.int (3 : Int32))])) _
    refine XS.istoreN X0.here hx rfl (hb hby at_3) rfl (l' := #[.val (.int p1), .val (.int (3 : Int32)), .unset, .unset, .unset]) rfl ?_
    show Steps p.tables e below (s₁.setTop (mkF m 4 #[.val (.int p1), .val (.int (3 : Int32)), .unset, .unset, .unset] [])) _
    refine XS.iloadN X0.here hx rfl (hb hby at_4) rfl ?_
    show Steps p.tables e below (s₁.setTop (mkF m 5 #[.val (.int p1), .val (.int (3 : Int32)), .unset, .unset, .unset] [(.int (3 : Int32))])) _
    refine st1 _ ?_
    show Steps p.tables e below (T1.setTop (mkF m 8 #[.val (.int p1), .val (.int (3 : Int32)), .unset, .unset, .unset] [(.ref w_MAX_INCL_VAT)])) _
    refine XS.astoreN X1.here hx rfl (hb hby at_8) rfl rfl (l' := #[.val (.int p1), .val (.int (3 : Int32)), .val (.ref w_MAX_INCL_VAT), .unset, .unset]) rfl ?_
    show Steps p.tables e below (T1.setTop (mkF m 9 #[.val (.int p1), .val (.int (3 : Int32)), .val (.ref w_MAX_INCL_VAT), .unset, .unset] [])) _
    refine XS.iloadN X1.here hx rfl (hb hby at_9) rfl ?_
    show Steps p.tables e below (T1.setTop (mkF m 10 #[.val (.int p1), .val (.int (3 : Int32)), .val (.ref w_MAX_INCL_VAT), .unset, .unset] [(.int (3 : Int32))])) _
    refine XS.iconst X1.here hx rfl (hb hby at_10) ?_
    show Steps p.tables e below (T1.setTop (mkF m 11 #[.val (.int p1), .val (.int (3 : Int32)), .val (.ref w_MAX_INCL_VAT), .unset, .unset] [(.int (1 : Int32)), (.int (3 : Int32))])) _
    refine XS.icmpNo X1.here hx rfl (hb hby at_11) rfl (feq (by decide : ¬ ((3 : Int32) = (1 : Int32)))).1 ?_
    show Steps p.tables e below (T1.setTop (mkF m 14 #[.val (.int p1), .val (.int (3 : Int32)), .val (.ref w_MAX_INCL_VAT), .unset, .unset] [])) _
    refine XS.iloadN X1.here hx rfl (hb hby at_14) rfl ?_
    show Steps p.tables e below (T1.setTop (mkF m 15 #[.val (.int p1), .val (.int (3 : Int32)), .val (.ref w_MAX_INCL_VAT), .unset, .unset] [(.int (3 : Int32))])) _
    refine XS.iconst X1.here hx rfl (hb hby at_15) ?_
    show Steps p.tables e below (T1.setTop (mkF m 16 #[.val (.int p1), .val (.int (3 : Int32)), .val (.ref w_MAX_INCL_VAT), .unset, .unset] [(.int (3 : Int32)), (.int (3 : Int32))])) _
    refine XS.icmpNo X1.here hx rfl (hb hby at_16) rfl (teq (by decide : (3 : Int32) = (3 : Int32))).2 ?_
    show Steps p.tables e below (T1.setTop (mkF m 19 #[.val (.int p1), .val (.int (3 : Int32)), .val (.ref w_MAX_INCL_VAT), .unset, .unset] [])) _
    refine XS.iconst X1.here hx rfl (hb hby at_19) ?_
    show Steps p.tables e below (T1.setTop (mkF m 20 #[.val (.int p1), .val (.int (3 : Int32)), .val (.ref w_MAX_INCL_VAT), .unset, .unset] [(.int (1 : Int32))])) _
    refine XS.goto X1.here hx rfl (pc0 := 20) (pc' := 24) rfl (hb hby at_20) (by decide) (by decide) ?_
    show Steps p.tables e below (T1.setTop (mkF m 24 #[.val (.int p1), .val (.int (3 : Int32)), .val (.ref w_MAX_INCL_VAT), .unset, .unset] [(.int (1 : Int32))])) _
    refine XS.istoreN X1.here hx rfl (hb hby at_24) rfl (l' := #[.val (.int p1), .val (.int (3 : Int32)), .val (.ref w_MAX_INCL_VAT), .val (.int (1 : Int32)), .unset]) rfl ?_
    show Steps p.tables e below (T1.setTop (mkF m 25 #[.val (.int p1), .val (.int (3 : Int32)), .val (.ref w_MAX_INCL_VAT), .val (.int (1 : Int32)), .unset] [])) _
    refine XS.aloadN X1.here hx rfl (hb hby at_25) rfl rfl ?_
    show Steps p.tables e below (T1.setTop (mkF m 26 #[.val (.int p1), .val (.int (3 : Int32)), .val (.ref w_MAX_INCL_VAT), .val (.int (1 : Int32)), .unset] [(.ref w_MAX_INCL_VAT)])) _
    refine st2.trans ?_
    show Steps p.tables e below (T2.setTop (mkF m 29 #[.val (.int p1), .val (.int (3 : Int32)), .val (.ref w_MAX_INCL_VAT), .val (.int (1 : Int32)), .unset] [(.int (1 : Int32))])) _
    refine XS.istore X2.here hx rfl (hb hby at_29) rfl (l' := #[.val (.int p1), .val (.int (3 : Int32)), .val (.ref w_MAX_INCL_VAT), .val (.int (1 : Int32)), .val (.int (1 : Int32))]) rfl ?_
    show Steps p.tables e below (T2.setTop (mkF m 31 #[.val (.int p1), .val (.int (3 : Int32)), .val (.ref w_MAX_INCL_VAT), .val (.int (1 : Int32)), .val (.int (1 : Int32))] [])) _
    refine XS.iload X2.here hx rfl (hb hby at_31) rfl ?_
    show Steps p.tables e below (T2.setTop (mkF m 33 #[.val (.int p1), .val (.int (3 : Int32)), .val (.ref w_MAX_INCL_VAT), .val (.int (1 : Int32)), .val (.int (1 : Int32))] [(.int (1 : Int32))])) _
    refine XS.iloadN X2.here hx rfl (hb hby at_33) rfl ?_
    show Steps p.tables e below (T2.setTop (mkF m 34 #[.val (.int p1), .val (.int (3 : Int32)), .val (.ref w_MAX_INCL_VAT), .val (.int (1 : Int32)), .val (.int (1 : Int32))] [(.int (1 : Int32)), (.int (1 : Int32))])) _
    refine XS.icmpYes X2.here hx rfl (pc0 := 34) (pc' := 39) rfl (hb hby at_34) rfl (teq (by decide : (1 : Int32) = (1 : Int32))).1 (by decide) (by decide) ?_
    show Steps p.tables e below (T2.setTop (mkF m 39 #[.val (.int p1), .val (.int (3 : Int32)), .val (.ref w_MAX_INCL_VAT), .val (.int (1 : Int32)), .val (.int (1 : Int32))] [])) _
    refine XS.iload X2.here hx rfl (hb hby at_39) rfl ?_
    show Steps p.tables e below (T2.setTop (mkF m 41 #[.val (.int p1), .val (.int (3 : Int32)), .val (.ref w_MAX_INCL_VAT), .val (.int (1 : Int32)), .val (.int (1 : Int32))] [(.int (1 : Int32))])) _
    refine XS.aloadN X2.here hx rfl (hb hby at_41) rfl rfl ?_
    show Steps p.tables e below (T2.setTop (mkF m 42 #[.val (.int p1), .val (.int (3 : Int32)), .val (.ref w_MAX_INCL_VAT), .val (.int (1 : Int32)), .val (.int (1 : Int32))] [(.ref w_MAX_INCL_VAT), (.int (1 : Int32))])) _
    refine st3.trans ?_
    show Steps p.tables e below (T3.setTop (mkF m 45 #[.val (.int p1), .val (.int (3 : Int32)), .val (.ref w_MAX_INCL_VAT), .val (.int (1 : Int32)), .val (.int (1 : Int32))] [(.ref w_MAX_INCL_VAT), (.int (1 : Int32))])) _
    refine XS.aloadN X3.here hx rfl (hb hby at_45) rfl rfl ?_
    show Steps p.tables e below (T3.setTop (mkF m 46 #[.val (.int p1), .val (.int (3 : Int32)), .val (.ref w_MAX_INCL_VAT), .val (.int (1 : Int32)), .val (.int (1 : Int32))] [(.ref w_MAX_INCL_VAT), (.ref w_MAX_INCL_VAT), (.int (1 : Int32))])) _
    refine Jvm.RoadKit.acmp (g := (mkF m 46 #[.val (.int p1), .val (.int (3 : Int32)), .val (.ref w_MAX_INCL_VAT), .val (.int (1 : Int32)), .val (.int (1 : Int32))] [(.ref w_MAX_INCL_VAT), (.ref w_MAX_INCL_VAT), (.int (1 : Int32))])) X3 hx rfl rfl rfl (pc0 := 46) (pc' := 49) (same := true) rfl (hb hby at_46) rfl (decide_eq_true rfl) (by decide) (by decide) ?_
    show Steps p.tables e below (T3.setTop (mkF m 49 #[.val (.int p1), .val (.int (3 : Int32)), .val (.ref w_MAX_INCL_VAT), .val (.int (1 : Int32)), .val (.int (1 : Int32))] [(.int (1 : Int32))])) _
    refine XS.iconst X3.here hx rfl (hb hby at_49) ?_
    show Steps p.tables e below (T3.setTop (mkF m 50 #[.val (.int p1), .val (.int (3 : Int32)), .val (.ref w_MAX_INCL_VAT), .val (.int (1 : Int32)), .val (.int (1 : Int32))] [(.int (1 : Int32)), (.int (1 : Int32))])) _
    refine XS.goto X3.here hx rfl (pc0 := 50) (pc' := 54) rfl (hb hby at_50) (by decide) (by decide) ?_
    show Steps p.tables e below (T3.setTop (mkF m 54 #[.val (.int p1), .val (.int (3 : Int32)), .val (.ref w_MAX_INCL_VAT), .val (.int (1 : Int32)), .val (.int (1 : Int32))] [(.int (1 : Int32)), (.int (1 : Int32))])) _
    refine XS.icmpYes X3.here hx rfl (pc0 := 54) (pc' := 59) rfl (hb hby at_54) rfl (teq (by decide : (1 : Int32) = (1 : Int32))).1 (by decide) (by decide) ?_
    show Steps p.tables e below (T3.setTop (mkF m 59 #[.val (.int p1), .val (.int (3 : Int32)), .val (.ref w_MAX_INCL_VAT), .val (.int (1 : Int32)), .val (.int (1 : Int32))] [])) _
    refine XS.aloadN X3.here hx rfl (hb hby at_59) rfl rfl ?_
    show Steps p.tables e below (T3.setTop (mkF m 60 #[.val (.int p1), .val (.int (3 : Int32)), .val (.ref w_MAX_INCL_VAT), .val (.int (1 : Int32)), .val (.int (1 : Int32))] [(.ref w_MAX_INCL_VAT)])) _
    refine st4.trans ?_
    show Steps p.tables e below (T4.setTop (mkF m 63 #[.val (.int p1), .val (.int (3 : Int32)), .val (.ref w_MAX_INCL_VAT), .val (.int (1 : Int32)), .val (.int (1 : Int32))] [(.ref w_MIN_INCL_VAT)])) _
    refine st5.trans ?_
    show Steps p.tables e below (T5.setTop (mkF m 66 #[.val (.int p1), .val (.int (3 : Int32)), .val (.ref w_MAX_INCL_VAT), .val (.int (1 : Int32)), .val (.int (1 : Int32))] [(.int (1 : Int32))])) _
    refine XS.iload X5.here hx rfl (hb hby at_66) rfl ?_
    show Steps p.tables e below (T5.setTop (mkF m 68 #[.val (.int p1), .val (.int (3 : Int32)), .val (.ref w_MAX_INCL_VAT), .val (.int (1 : Int32)), .val (.int (1 : Int32))] [(.int (1 : Int32)), (.int (1 : Int32))])) _
    refine XS.icmpNo X5.here hx rfl (hb hby at_68) rfl (teq (by decide : (1 : Int32) = (1 : Int32))).2 ?_
    show Steps p.tables e below (T5.setTop (mkF m 71 #[.val (.int p1), .val (.int (3 : Int32)), .val (.ref w_MAX_INCL_VAT), .val (.int (1 : Int32)), .val (.int (1 : Int32))] [])) _
    refine XS.iconst X5.here hx rfl (hb hby at_71) ?_
    show Steps p.tables e below (T5.setTop (mkF m 72 #[.val (.int p1), .val (.int (3 : Int32)), .val (.ref w_MAX_INCL_VAT), .val (.int (1 : Int32)), .val (.int (1 : Int32))] [(.int (1 : Int32))])) _
    refine XS.goto X5.here hx rfl (pc0 := 72) (pc' := 76) rfl (hb hby at_72) (by decide) (by decide) ?_
    show Steps p.tables e below (T5.setTop (mkF m 76 #[.val (.int p1), .val (.int (3 : Int32)), .val (.ref w_MAX_INCL_VAT), .val (.int (1 : Int32)), .val (.int (1 : Int32))] [(.int (1 : Int32))])) _
    exact retN X5 hx (t := .boolean) Bd.returns (by simp) (hb hby at_76) hr
  · exact ⟨rfl, N5⟩
theorem rm0_all (l : Launch) (Z : State) (a0 : Array Value) (hw : ∀ d ∈ tables_1, d.before a0 Z = true) (ws : List Jvm.Cond) (w_MIN_EXCL_VAT : Addr) (w_MIN_INCL_VAT : Addr) (w_MAX_INCL_VAT : Addr) (w_MAX_EXCL_VAT : Addr) (p1 : Int32) (h0 : Heap) (n0 : Nat) (Z0 : n0 ≤ h0.size) (HW : World Z h0 w_MIN_EXCL_VAT w_MIN_INCL_VAT w_MAX_INCL_VAT w_MAX_EXCL_VAT) :
    MetFree l x (head1 (Jvm.Cond.code x code maxLocals ret :: ws) room_1) (fun a U => a = #[(.int p1)] ∧ Z.Warmed39 U.vm ∧ U.heap = h0) (fun _ _ _ _ _ => True) (fun _ U o U' => ∃ v L, o = .returned v ∧ Q0 h0 n0 v U'.heap L ∧ FrameEnd U o U' L room_1.cells room_1.slots) := by
  rcases own_mask p1 with hk | hk | hk | hk
  · skip
    exact rm0_c0 l Z a0 hw ws w_MIN_EXCL_VAT w_MIN_INCL_VAT w_MAX_INCL_VAT w_MAX_EXCL_VAT p1 h0 n0 Z0 HW hk
  · skip
    exact rm0_c1 l Z a0 hw ws w_MIN_EXCL_VAT w_MIN_INCL_VAT w_MAX_INCL_VAT w_MAX_EXCL_VAT p1 h0 n0 Z0 HW hk
  · skip
    exact rm0_c2 l Z a0 hw ws w_MIN_EXCL_VAT w_MIN_INCL_VAT w_MAX_INCL_VAT w_MAX_EXCL_VAT p1 h0 n0 Z0 HW hk
  · skip
    exact rm0_c3 l Z a0 hw ws w_MIN_EXCL_VAT w_MIN_INCL_VAT w_MAX_INCL_VAT w_MAX_EXCL_VAT p1 h0 n0 Z0 HW hk
set_option maxRecDepth 65536 in
set_option maxHeartbeats 40000000 in
theorem comes_1 {Post : Tables → Env → Array Value → State → Outcome → State → Prop} (hpost : ∀ tb e args s v u, (limb_1_1.after args s (.returned v) u = true ∧ limb_1_2.after args s (.returned v) u = true ∧ True) → FrameEnd s (.returned v) u (Jvm.fieldLocs frame_1_writes args s ++ Jvm.arrayLocs frame_1_arrays args s ++ Jvm.staticLocs frame_1_statics s) 0 0 → Post tb e args s (.returned v) u) :
    ArmFor flags0 classFile x code maxLocals ret World_1 tables_1 room_1 Calls_1 rest_1 Pre_1 Post := by
  intro l hfl _ _ p e ha hc hk s m args below hf hA hF happ hP
  obtain ⟨hcalls, hrest, hpre⟩ := hP
  obtain ⟨-, -, -, hnamed, -, -, -, hat⟩ := (Spec.applies_iff hf).mp happ
  obtain ⟨hg, hn⟩ := and_e (Cond.before_iff.mp (show (Jvm.Cond.and given_1 narrow_1).before args s = true from hpre))
  obtain ⟨hg1a, hg1b⟩ := and_e hg
  obtain ⟨w0, rfl⟩ : ∃ w0 : Value, args = #[w0] := by
    have hs : args.size = 1 := by simpa [Cond.value, given_1] using hg1a
    obtain ⟨L⟩ := args
    match L, hs with
    | [w0], _ => exact ⟨w0, rfl⟩
  have hw := fun d (hd : d ∈ tables_1) => atoms_spec (ws := Jvm.Cond.code x code maxLocals ret :: tables_1) hat d (List.mem_cons_of_mem _ hd)
  have hfit : Fit s := fun {y c} hc i hi => by
    obtain ⟨ha, rfl⟩ := Array.getElem?_eq_some_iff.mp hc
    have q := List.all_eq_true.mp ((Array.all_eq_true_iff_forall_mem.mp hF) _ (Array.getElem_mem ha)) i (List.mem_range.mpr hi)
    simpa [Array.getElem?_eq_getElem hi] using q
  obtain ⟨i0, ei0⟩ := is_v hg1b
  obtain rfl : w0 = (.int i0) := Option.some.inj ei0
  obtain ⟨hn1a, hn1b⟩ := and_e hn
  obtain ⟨hn2a, hn2b⟩ := and_e hn1b
  obtain ⟨hn3a, hn3b⟩ := and_e hn2b
  obtain ⟨hn4a, hn4b⟩ := and_e hn3b
  obtain ⟨hn5a, hn5b⟩ := and_e hn4b
  obtain ⟨hn6a, hn6b⟩ := and_e hn5b
  obtain ⟨hn7a, hn7b⟩ := and_e hn6b
  obtain ⟨w_MIN_EXCL_VAT, ev_w_MIN_EXCL_VAT⟩ := exa_v hn1a
  have S_w_MIN_EXCL_VAT := Sta.start ev_w_MIN_EXCL_VAT (Or.inr ⟨(hw _ (List.mem_of_getElem? (i := 5) rfl)), (hw _ (List.mem_of_getElem? (i := 6) rfl))⟩)
  have E_w_MIN_EXCL_VAT := Exa.start ev_w_MIN_EXCL_VAT hn1a
  obtain ⟨w_MIN_INCL_VAT, ev_w_MIN_INCL_VAT⟩ := exa_v hn2a
  have S_w_MIN_INCL_VAT := Sta.start ev_w_MIN_INCL_VAT (Or.inr ⟨(hw _ (List.mem_of_getElem? (i := 5) rfl)), (hw _ (List.mem_of_getElem? (i := 13) rfl))⟩)
  have E_w_MIN_INCL_VAT := Exa.start ev_w_MIN_INCL_VAT hn2a
  obtain ⟨w_MAX_INCL_VAT, ev_w_MAX_INCL_VAT⟩ := exa_v hn5a
  have S_w_MAX_INCL_VAT := Sta.start ev_w_MAX_INCL_VAT (Or.inr ⟨(hw _ (List.mem_of_getElem? (i := 5) rfl)), (hw _ (List.mem_of_getElem? (i := 15) rfl))⟩)
  have E_w_MAX_INCL_VAT := Exa.start ev_w_MAX_INCL_VAT hn5a
  obtain ⟨w_MAX_EXCL_VAT, ev_w_MAX_EXCL_VAT⟩ := exa_v hn7a
  have S_w_MAX_EXCL_VAT := Sta.start ev_w_MAX_EXCL_VAT (Or.inr ⟨(hw _ (List.mem_of_getElem? (i := 5) rfl)), (hw _ (List.mem_of_getElem? (i := 27) rfl))⟩)
  have E_w_MAX_EXCL_VAT := Exa.start ev_w_MAX_EXCL_VAT hn7a
  have F_ordinal_w_MIN_EXCL_VAT := own_fld (k := (0 : Int32)) hn3a ev_w_MIN_EXCL_VAT
  have F_ordinal_w_MIN_INCL_VAT := own_fld (k := (1 : Int32)) hn4a ev_w_MIN_INCL_VAT
  have F_ordinal_w_MAX_INCL_VAT := own_fld (k := (3 : Int32)) hn6a ev_w_MAX_INCL_VAT
  have F_ordinal_w_MAX_EXCL_VAT := own_fld (k := (2 : Int32)) hn7b ev_w_MAX_EXCL_VAT
  have ne_w_MIN_EXCL_VAT_w_MIN_INCL_VAT : ¬ (w_MIN_EXCL_VAT = w_MIN_INCL_VAT) := own_ne F_ordinal_w_MIN_EXCL_VAT F_ordinal_w_MIN_INCL_VAT (by decide)
  have ne_w_MIN_EXCL_VAT_w_MAX_INCL_VAT : ¬ (w_MIN_EXCL_VAT = w_MAX_INCL_VAT) := own_ne F_ordinal_w_MIN_EXCL_VAT F_ordinal_w_MAX_INCL_VAT (by decide)
  have ne_w_MIN_EXCL_VAT_w_MAX_EXCL_VAT : ¬ (w_MIN_EXCL_VAT = w_MAX_EXCL_VAT) := own_ne F_ordinal_w_MIN_EXCL_VAT F_ordinal_w_MAX_EXCL_VAT (by decide)
  have ne_w_MIN_INCL_VAT_w_MAX_INCL_VAT : ¬ (w_MIN_INCL_VAT = w_MAX_INCL_VAT) := own_ne F_ordinal_w_MIN_INCL_VAT F_ordinal_w_MAX_INCL_VAT (by decide)
  have ne_w_MIN_INCL_VAT_w_MAX_EXCL_VAT : ¬ (w_MIN_INCL_VAT = w_MAX_EXCL_VAT) := own_ne F_ordinal_w_MIN_INCL_VAT F_ordinal_w_MAX_EXCL_VAT (by decide)
  have ne_w_MAX_INCL_VAT_w_MAX_EXCL_VAT : ¬ (w_MAX_INCL_VAT = w_MAX_EXCL_VAT) := own_ne F_ordinal_w_MAX_INCL_VAT F_ordinal_w_MAX_EXCL_VAT (by decide)
  have HW : World s s.heap w_MIN_EXCL_VAT w_MIN_INCL_VAT w_MAX_INCL_VAT w_MAX_EXCL_VAT := ⟨S_w_MIN_EXCL_VAT, E_w_MIN_EXCL_VAT, S_w_MIN_INCL_VAT, E_w_MIN_INCL_VAT, S_w_MAX_INCL_VAT, E_w_MAX_INCL_VAT, S_w_MAX_EXCL_VAT, E_w_MAX_EXCL_VAT, F_ordinal_w_MIN_EXCL_VAT, F_ordinal_w_MIN_INCL_VAT, F_ordinal_w_MAX_INCL_VAT, F_ordinal_w_MAX_EXCL_VAT, ne_w_MIN_EXCL_VAT_w_MIN_INCL_VAT, ne_w_MIN_EXCL_VAT_w_MAX_INCL_VAT, ne_w_MIN_EXCL_VAT_w_MAX_EXCL_VAT, ne_w_MIN_INCL_VAT_w_MAX_INCL_VAT, ne_w_MIN_INCL_VAT_w_MAX_EXCL_VAT, ne_w_MAX_INCL_VAT_w_MAX_EXCL_VAT, trivial⟩
  obtain ⟨n, o, h1, h2, h3, _, L, rfl, ⟨rfl, N⟩, hq⟩ := rm0_all l s _ hw tables_1 w_MIN_EXCL_VAT w_MIN_INCL_VAT w_MAX_INCL_VAT w_MAX_EXCL_VAT i0 s.heap s.heap.size (Nat.le_refl _) HW p e ha hc hk s m _ below hf ((Spec.applies_iff_loose hf).mp happ).1 ⟨rfl, State.Warmed39.refl s, rfl⟩ trivial
  exact ⟨n, _, h1, h2, h3, hpost _ _ _ _ _ _ ⟨Cond.after_iff.mpr rfl, Cond.after_iff.mpr (eq_i res_at (Term.int_eval (1)) rfl), trivial⟩ ⟨hq.1, hq.2.1, (hq.2.2.sift fun y hy => Or.inr (N y hy)).mono (by decide) (by decide)⟩⟩
theorem main_1_1 : Claimed_1_1 := comes_1 fun _ _ _ _ _ _ h hF => ⟨h.1, hF⟩
theorem main_1_2 : Claimed_1_2 := comes_1 fun _ _ _ _ _ _ h hF => ⟨h.2.1, hF⟩
end Jvm.Pilot.@@N@@
namespace Jvm.Pilot.@@N@@
open Jvm Jvm.ClassFile Sem Op Lib Jvm.Free Jvm.Stand Jvm.Pilot.@@N@@.Jvm.D
/-! MADE BY PROGRAM (witnessworld.py) out of the Statement's table words and the real class files: 10 classes; the members and pool entries that the words name. The judged class is class 1, her method 2. -/
namespace start1
open Jvm.ClassFile
def u (s : String) : CpInfo := .utf8 (stringToUtf16 s)
/-- a pool by its gaps: so many unusable entries, then the entry; so many at the end -/
def gap : Nat → List CpInfo → List CpInfo
  | 0, r => r
  | n + 1, r => .unusable :: gap n r
def poolList (es : List (Nat × CpInfo)) (last : Nat) : List CpInfo := es.foldr (fun e r => gap e.1 (e.2 :: r)) (gap last [])
def pool (es : List (Nat × CpInfo)) (last : Nat) : Array CpInfo := ⟨poolList es last⟩
def fileOf (pool : Array CpInfo) (this : Nat) (attrs : Array Attribute := #[]) (ms : Array MethodInfo := #[]) (fl : Nat := 33) (sup : Nat := 0) (ifs : Array Nat := #[]) (fds : Array FieldInfo := #[]) : ClassFile where
  minorVersion := 0
  majorVersion := 65
  constantPool := pool
  accessFlags := fl
  thisClass := this
  superClass := sup
  interfaces := ifs
  fields := fds
  methods := ms
  attributes := attrs
def plain (name : String) (sup : Option ClassId) : Class where
  name := name
  kind := .ordinary
  loader := none
  accessFlags := 33
  super := sup
  interfaces := #[]
  cf := none
  fields := #[]
  methods := #[]
  instanceTypes := #[]
  staticTypes := #[]
  resolved := #[]
  callSites := []
  init := .initialized
  statics := none
  mirror := none

def pool0 : Array CpInfo := pool [(5, u "<init>"), (0, u "()V"), (1, .class_ 10), (1, u "java/lang/Object")] 113

def k0m0 : Method := { name := "<init>", desc := "()V", sig := { parameters := [], returnType := none }, accessFlags := 1, code := none }
/-- java/lang/Object -/
def k0 : Class := { plain "java/lang/Object" none with
  accessFlags := 33
  interfaces := #[]
  cf := some (fileOf pool0 8 #[] #[{ accessFlags := 1, nameIndex := 5, descriptorIndex := 6, attributes := #[] }] 33 0 #[] #[])
  fields := #[]
  methods := #[k0m0]
  instanceTypes := #[]
  staticTypes := #[]
  resolved := Array.replicate 124 none
  statics := none }

def pool1 : Array CpInfo := pool [(2, .class_ 4), (1, u "java/lang/Object"), (0, u "<init>"), (0, u "()V"), (0, .fieldref 8 9), (0, .class_ 10), (0, .nameAndType 11 12), (0, u "com/example/nuthatch/nuthatch/tariff/PriceBound"), (0, u "MIN_EXCL_VAT"), (0, u "Lcom/example/nuthatch/nuthatch/tariff/PriceBound;"), (0, .fieldref 8 14), (0, .nameAndType 15 12), (0, u "MIN_INCL_VAT"), (0, .fieldref 8 17), (0, .nameAndType 18 12), (0, u "MAX_EXCL_VAT"), (0, .fieldref 8 20), (0, .nameAndType 21 12), (0, u "MAX_INCL_VAT"), (0, .methodref 23 24), (0, .class_ 25), (0, .nameAndType 26 27), (0, u "com/example/nuthatch/nuthatch/tariff/PriceBoundInclVatPinLaw"), (0, u "pick"), (0, u "(I)Lcom/example/nuthatch/nuthatch/tariff/PriceBound;"), (0, .methodref 8 29), (0, .nameAndType 30 31), (0, u "inclVat"), (0, u "()Z"), (0, .methodref 8 33), (0, .nameAndType 34 35), (0, u "onInclVat"), (0, u "()Lcom/example/nuthatch/nuthatch/tariff/PriceBound;"), (0, .methodref 8 37), (0, .nameAndType 38 35), (0, u "opposite"), (3, u "law"), (0, u "(I)Z")] 2

def k1m0 : Method := { name := "<init>", desc := "()V", sig := { parameters := [], returnType := none }, accessFlags := 1, code := none }
def k1c1 : Code := { maxStack := 2, maxLocals := 1, code := method_2_code, exceptionTable := #[], attributes := #[] }
def k1m1 : Method := { name := "pick", desc := "(I)Lcom/example/nuthatch/nuthatch/tariff/PriceBound;", sig := { parameters := [.int], returnType := some (.object "com/example/nuthatch/nuthatch/tariff/PriceBound") }, accessFlags := 10, code := some k1c1 }
def k1c2 : Code := { maxStack := 3, maxLocals := 5, code := code, exceptionTable := #[], attributes := #[] }
def k1m2 : Method := { name := "law", desc := "(I)Z", sig := { parameters := [.int], returnType := some .boolean }, accessFlags := 9, code := some k1c2 }
/-- com/example/nuthatch/nuthatch/tariff/PriceBoundInclVatPinLaw -/
def k1 : Class := { plain "com/example/nuthatch/nuthatch/tariff/PriceBoundInclVatPinLaw" (some 0) with
  accessFlags := 49
  interfaces := #[]
  cf := some (fileOf pool1 23 #[] #[{ accessFlags := 1, nameIndex := 5, descriptorIndex := 6, attributes := #[] }, { accessFlags := 10, nameIndex := 26, descriptorIndex := 27, attributes := #[] }, { accessFlags := 9, nameIndex := 42, descriptorIndex := 43, attributes := #[] }] 49 2 #[] #[])
  fields := #[]
  methods := #[k1m0, k1m1, k1m2]
  instanceTypes := #[]
  staticTypes := #[]
  resolved := Array.replicate 46 none
  statics := none }

def pool2 : Array CpInfo := pool [(1, .class_ 2), (0, u "java/lang/constant/Constable"), (0, .class_ 4), (0, u "java/lang/Object")] 6

/-- java/lang/constant/Constable -/
def k2 : Class := { plain "java/lang/constant/Constable" (some 0) with
  accessFlags := 1537
  interfaces := #[]
  cf := some (fileOf pool2 1 #[] #[] 1537 3 #[] #[])
  fields := #[]
  methods := #[]
  instanceTypes := #[]
  staticTypes := #[]
  resolved := Array.replicate 11 none
  statics := none }

def pool3 : Array CpInfo := pool [(1, .class_ 2), (0, u "java/lang/Comparable"), (0, .class_ 4), (0, u "java/lang/Object")] 7

/-- java/lang/Comparable -/
def k3 : Class := { plain "java/lang/Comparable" (some 0) with
  accessFlags := 1537
  interfaces := #[]
  cf := some (fileOf pool3 1 #[] #[] 1537 3 #[] #[])
  fields := #[]
  methods := #[]
  instanceTypes := #[]
  staticTypes := #[]
  resolved := Array.replicate 12 none
  statics := none }

def pool4 : Array CpInfo := pool [(1, .class_ 2), (0, u "java/io/Serializable"), (0, .class_ 4), (0, u "java/lang/Object")] 2

/-- java/io/Serializable -/
def k4 : Class := { plain "java/io/Serializable" (some 0) with
  accessFlags := 1537
  interfaces := #[]
  cf := some (fileOf pool4 1 #[] #[] 1537 3 #[] #[])
  fields := #[]
  methods := #[]
  instanceTypes := #[]
  staticTypes := #[]
  resolved := Array.replicate 7 none
  statics := none }

def pool5 : Array CpInfo := pool [(2, .class_ 4), (1, u "java/lang/Enum"), (0, u "name"), (0, u "Ljava/lang/String;"), (0, .fieldref 2 8), (0, .nameAndType 9 10), (0, u "ordinal"), (0, u "I"), (1, .class_ 14), (1, u "java/lang/Object"), (4, u "hash"), (86, .class_ 108), (1, u "java/lang/Enum$EnumDesc"), (2, .class_ 112), (0, u "java/lang/constant/Constable"), (0, .class_ 114), (0, u "java/lang/Comparable"), (0, .class_ 116), (0, u "java/io/Serializable"), (9, u "()I")] 77

def k5c0 : Code := { maxStack := 1, maxLocals := 1, code := jdk_37_method_2_code, exceptionTable := #[], attributes := #[] }
def k5m0 : Method := { name := "ordinal", desc := "()I", sig := { parameters := [], returnType := some .int }, accessFlags := 17, code := some k5c0 }
/-- java/lang/Enum -/
def k5 : Class := { plain "java/lang/Enum" (some 0) with
  accessFlags := 1057
  interfaces := #[2, 3, 4]
  cf := some (fileOf pool5 2 #[.nestMembers #[106]] #[{ accessFlags := 17, nameIndex := 9, descriptorIndex := 126, attributes := #[] }] 1057 12 #[111, 113, 115] #[{ accessFlags := 18, nameIndex := 5, descriptorIndex := 6, attributes := #[] }, { accessFlags := 18, nameIndex := 9, descriptorIndex := 10, attributes := #[] }, { accessFlags := 2, nameIndex := 19, descriptorIndex := 10, attributes := #[] }])
  fields := #[{ name := "name", type := (.object "java/lang/String"), accessFlags := 18, slot := 0, constantValue := 0 }, { name := "ordinal", type := .int, accessFlags := 18, slot := 1, constantValue := 0 }, { name := "hash", type := .int, accessFlags := 2, slot := 2, constantValue := 0 }]
  methods := #[k5m0]
  instanceTypes := #[(.object "java/lang/String"), .int, .int]
  staticTypes := #[]
  resolved := Array.replicate 204 none
  statics := none }

def pool6 : Array CpInfo := pool [(1, .class_ 2), (0, u "com/example/nuthatch/nuthatch/tariff/PriceBound"), (0, .fieldref 1 4), (0, .nameAndType 5 6), (0, u "MIN_EXCL_VAT"), (0, u "Lcom/example/nuthatch/nuthatch/tariff/PriceBound;"), (0, .fieldref 1 8), (0, .nameAndType 9 6), (0, u "MIN_INCL_VAT"), (0, .fieldref 1 11), (0, .nameAndType 12 6), (0, u "MAX_EXCL_VAT"), (0, .fieldref 1 14), (0, .nameAndType 15 6), (0, u "MAX_INCL_VAT"), (2, u "$VALUES"), (0, u "[Lcom/example/nuthatch/nuthatch/tariff/PriceBound;"), (6, .class_ 28), (1, u "java/lang/Enum"), (6, .methodref 1 36), (0, .nameAndType 37 38), (0, u "isMaximum"), (0, u "()Z"), (0, .methodref 1 40), (0, .nameAndType 41 42), (0, u "ordinal"), (0, u "()I"), (19, u "opposite"), (0, u "()Lcom/example/nuthatch/nuthatch/tariff/PriceBound;"), (19, u "inclVat"), (0, u "onInclVat")] 7

def k6c0 : Code := { maxStack := 2, maxLocals := 1, code := prog_67_method_4_code, exceptionTable := #[], attributes := #[] }
def k6m0 : Method := { name := "isMaximum", desc := "()Z", sig := { parameters := [], returnType := some .boolean }, accessFlags := 1, code := some k6c0 }
def k6c1 : Code := { maxStack := 2, maxLocals := 1, code := prog_67_method_5_code, exceptionTable := #[], attributes := #[] }
def k6m1 : Method := { name := "inclVat", desc := "()Z", sig := { parameters := [], returnType := some .boolean }, accessFlags := 1, code := some k6c1 }
def k6c2 : Code := { maxStack := 1, maxLocals := 1, code := prog_67_method_6_code, exceptionTable := #[], attributes := #[] }
def k6m2 : Method := { name := "onInclVat", desc := "()Lcom/example/nuthatch/nuthatch/tariff/PriceBound;", sig := { parameters := [], returnType := some (.object "com/example/nuthatch/nuthatch/tariff/PriceBound") }, accessFlags := 1, code := some k6c2 }
def k6c3 : Code := { maxStack := 4, maxLocals := 1, code := prog_67_method_7_code, exceptionTable := #[], attributes := #[] }
def k6m3 : Method := { name := "opposite", desc := "()Lcom/example/nuthatch/nuthatch/tariff/PriceBound;", sig := { parameters := [], returnType := some (.object "com/example/nuthatch/nuthatch/tariff/PriceBound") }, accessFlags := 1, code := some k6c3 }
/-- com/example/nuthatch/nuthatch/tariff/PriceBound -/
def k6 : Class := { plain "com/example/nuthatch/nuthatch/tariff/PriceBound" (some 5) with
  accessFlags := 16433
  interfaces := #[]
  cf := some (fileOf pool6 1 #[] #[{ accessFlags := 1, nameIndex := 37, descriptorIndex := 38, attributes := #[] }, { accessFlags := 1, nameIndex := 83, descriptorIndex := 38, attributes := #[] }, { accessFlags := 1, nameIndex := 84, descriptorIndex := 63, attributes := #[] }, { accessFlags := 1, nameIndex := 62, descriptorIndex := 63, attributes := #[] }] 16433 26 #[] #[{ accessFlags := 16409, nameIndex := 5, descriptorIndex := 6, attributes := #[] }, { accessFlags := 16409, nameIndex := 9, descriptorIndex := 6, attributes := #[] }, { accessFlags := 16409, nameIndex := 12, descriptorIndex := 6, attributes := #[] }, { accessFlags := 16409, nameIndex := 15, descriptorIndex := 6, attributes := #[] }, { accessFlags := 4122, nameIndex := 18, descriptorIndex := 19, attributes := #[] }])
  fields := #[{ name := "MIN_EXCL_VAT", type := (.object "com/example/nuthatch/nuthatch/tariff/PriceBound"), accessFlags := 16409, slot := 0, constantValue := 0 }, { name := "MIN_INCL_VAT", type := (.object "com/example/nuthatch/nuthatch/tariff/PriceBound"), accessFlags := 16409, slot := 1, constantValue := 0 }, { name := "MAX_EXCL_VAT", type := (.object "com/example/nuthatch/nuthatch/tariff/PriceBound"), accessFlags := 16409, slot := 2, constantValue := 0 }, { name := "MAX_INCL_VAT", type := (.object "com/example/nuthatch/nuthatch/tariff/PriceBound"), accessFlags := 16409, slot := 3, constantValue := 0 }, { name := "$VALUES", type := (.array (.object "com/example/nuthatch/nuthatch/tariff/PriceBound")), accessFlags := 4122, slot := 4, constantValue := 0 }]
  methods := #[k6m0, k6m1, k6m2, k6m3]
  instanceTypes := #[(.object "java/lang/String"), .int, .int]
  staticTypes := #[(.object "com/example/nuthatch/nuthatch/tariff/PriceBound"), (.object "com/example/nuthatch/nuthatch/tariff/PriceBound"), (.object "com/example/nuthatch/nuthatch/tariff/PriceBound"), (.object "com/example/nuthatch/nuthatch/tariff/PriceBound"), (.array (.object "com/example/nuthatch/nuthatch/tariff/PriceBound"))]
  resolved := Array.replicate 92 none
  statics := some 0 }

def pool7 : Array CpInfo := pool [(1, u "java/lang/Cloneable"), (0, .class_ 1), (0, u "java/lang/Object"), (0, .class_ 3)] 3

/-- java/lang/Cloneable -/
def k7 : Class := { plain "java/lang/Cloneable" (some 0) with
  accessFlags := 1537
  interfaces := #[]
  cf := some (fileOf pool7 2 #[] #[] 1537 4 #[] #[])
  fields := #[]
  methods := #[]
  instanceTypes := #[]
  staticTypes := #[]
  resolved := Array.replicate 8 none
  statics := none }

/-- the primitive byte -/
def k8 : Class := { plain "byte" none with kind := .primitive 'B', accessFlags := 0x411 }
/-- [B -/
def k9 : Class := { plain "[B" (some 0) with kind := .array 8 .byte, interfaces := #[7, 4], accessFlags := 1041 }

def heap : Heap := #[{ cls := 6, slots := #[.ref 1, .ref 2, .ref 4, .ref 3, .null], vm := .statics 6 },
  { cls := 6, slots := #[.null, .int 0, .int 0], vm := .none },
  { cls := 6, slots := #[.null, .int 1, .int 0], vm := .none },
  { cls := 6, slots := #[.null, .int 3, .int 0], vm := .none },
  { cls := 6, slots := #[.null, .int 2, .int 0], vm := .none }]
def classes : Array Class := #[k0, k1, k2, k3, k4, k5, k6, k7, k8, k9]
def interned : List (Array UInt16 × Addr) := []
def slotsUsed : Nat := 17
def theMethod : MethodId := ⟨1, 2⟩
def args0 : Array Value := #[.int 5]
def aboutOver (below : List Frame) : State where
  vm := { classes := classes, interned := interned.toArray }
  heap := heap
  slotsUsed := slotsUsed
  threads := #[{ frames := .invoking theMethod args0 :: below }]
def below0 : List Frame := [.native { method := ⟨0, 0⟩, args := #[] }]
def about1 : State := aboutOver below0
def p0 : Program := .bare "" "" ""
def e0 : Env := launch0.env 0 0 0
theorem w_frames : about1.frames = Frame.invoking theMethod args0 :: below0 := rfl
set_option maxRecDepth 65536 in
theorem w_args : argsFit about1.vm theMethod args0 = true := by decide +kernel
set_option maxRecDepth 65536 in
theorem w_heap : heapFits about1 = true := by decide +kernel
set_option maxRecDepth 65536 in
theorem w_runnable : about1.curStatus? = some .runnable := by decide +kernel
set_option maxRecDepth 65536 in
theorem w_alone : about1.alone = true := by decide +kernel
set_option maxRecDepth 65536 in
theorem w_named : about1.methodNamed? x = some theMethod := by decide +kernel
set_option maxRecDepth 65536 in
theorem w_hears : about1.hears theMethod below0 = true := by decide +kernel
set_option maxRecDepth 65536 in
theorem w_ripe : about1.ripe theMethod args0 below0 = true := by decide +kernel
theorem w_running : about1.status = .running := rfl
set_option maxRecDepth 65536 in
theorem w_room : about1.hasRoom e0.platform room_1 = true :=
  launch0.hasRoom_least _ room_1 (by decide +kernel) (by decide +kernel) (by decide +kernel) (by decide +kernel) (by decide +kernel) (by decide +kernel)
theorem allAtoms_all (ts : List Jvm.Cond) (a : Array Jvm.Value) (st : Jvm.State) : (allAtoms ts).before a st = ts.all (fun c => c.before a st) := by
  induction ts with
  | nil => rfl
  | cons c t ih =>
    show (Jvm.Cond.and c (allAtoms t)).before a st = _
    rw [Jvm.Cond.before_and, ih, List.all_cons]
def words1 : List Jvm.Cond := Jvm.Cond.code x code maxLocals ret :: tables_1
/-- a 'code' word, met by the world's own term for the bytes: nothing is compared byte by byte -/
theorem code_word {y : MethodName} {bytes : ByteArray} {mx : Nat} {rt : Option FieldType} {a : Array Value} {s : State} {m : MethodId} {meth : Method} {c : Code} (h1 : s.methodNamed? y = some m) (h2 : s.vm.method? m = some meth) (h3 : meth.code = some c) (h4 : c.code = bytes)
    (h5 : (c.maxLocals == mx && c.exceptionTable.isEmpty && decide (c.maxStack ≤ mostOperands) && decide (meth.sig.returnType = rt) && !meth.locks && decide (parseMethodDescriptor y.desc = some meth.sig)) = true) : (Jvm.Cond.code y bytes mx rt).before a s = true := by
  simp only [Bool.and_eq_true, beq_iff_eq, Bool.not_eq_true', decide_eq_true_eq] at h5
  obtain ⟨⟨⟨⟨⟨g1, g2⟩, g3⟩, g4⟩, g5⟩, g6⟩ := h5
  simp [Cond.before, Cond.holds, Cond.value, h1, h2, h3, h4, g1, g2, g3, g4, g5, g6]
def isCode : Jvm.Cond → Bool
  | .code _ _ _ _ => true
  | _ => false
theorem all_split {L : List Jvm.Cond} {P : Jvm.Cond → Bool} (h1 : L.all (fun c => isCode c || P c) = true) (h2 : ∀ c ∈ L.filter isCode, P c = true) : L.all P = true := by
  refine List.all_eq_true.mpr fun c hc => ?_
  have h := List.all_eq_true.mp h1 c hc
  rcases Bool.eq_false_or_eq_true (isCode c) with hi | hi
  · exact h2 c (List.mem_filter.mpr ⟨hc, hi⟩)
  · simpa [hi] using h
set_option maxRecDepth 65536 in
theorem w_c0 : (Jvm.Cond.code x code maxLocals ret).before args0 about1 = true := code_word (m := ⟨1, 2⟩) (meth := k1m2) (c := k1c2) (by decide +kernel) rfl rfl rfl (by decide +kernel)
set_option maxRecDepth 65536 in
theorem w_c1 : (Jvm.Cond.code ({ cls := "com/example/nuthatch/nuthatch/tariff/PriceBoundInclVatPinLaw", name := "pick", desc := "(I)Lcom/example/nuthatch/nuthatch/tariff/PriceBound;" } : Jvm.MethodName) method_2_code (1 : Nat) (Option.some (Jvm.ClassFile.FieldType.object "com/example/nuthatch/nuthatch/tariff/PriceBound"))).before args0 about1 = true := code_word (m := ⟨1, 1⟩) (meth := k1m1) (c := k1c1) (by decide +kernel) rfl rfl rfl (by decide +kernel)
set_option maxRecDepth 65536 in
theorem w_c2 : (Jvm.Cond.code ({ cls := "com/example/nuthatch/nuthatch/tariff/PriceBound", name := "inclVat", desc := "()Z" } : Jvm.MethodName) prog_67_method_5_code (1 : Nat) (Option.some Jvm.ClassFile.FieldType.boolean)).before args0 about1 = true := code_word (m := ⟨6, 1⟩) (meth := k6m1) (c := k6c1) (by decide +kernel) rfl rfl rfl (by decide +kernel)
set_option maxRecDepth 65536 in
theorem w_c3 : (Jvm.Cond.code ({ cls := "com/example/nuthatch/nuthatch/tariff/PriceBound", name := "onInclVat", desc := "()Lcom/example/nuthatch/nuthatch/tariff/PriceBound;" } : Jvm.MethodName) prog_67_method_6_code (1 : Nat) (Option.some (Jvm.ClassFile.FieldType.object "com/example/nuthatch/nuthatch/tariff/PriceBound"))).before args0 about1 = true := code_word (m := ⟨6, 2⟩) (meth := k6m2) (c := k6c2) (by decide +kernel) rfl rfl rfl (by decide +kernel)
set_option maxRecDepth 65536 in
theorem w_c4 : (Jvm.Cond.code ({ cls := "com/example/nuthatch/nuthatch/tariff/PriceBound", name := "isMaximum", desc := "()Z" } : Jvm.MethodName) prog_67_method_4_code (1 : Nat) (Option.some Jvm.ClassFile.FieldType.boolean)).before args0 about1 = true := code_word (m := ⟨6, 0⟩) (meth := k6m0) (c := k6c0) (by decide +kernel) rfl rfl rfl (by decide +kernel)
set_option maxRecDepth 65536 in
theorem w_c5 : (Jvm.Cond.code ({ cls := "com/example/nuthatch/nuthatch/tariff/PriceBound", name := "opposite", desc := "()Lcom/example/nuthatch/nuthatch/tariff/PriceBound;" } : Jvm.MethodName) prog_67_method_7_code (1 : Nat) (Option.some (Jvm.ClassFile.FieldType.object "com/example/nuthatch/nuthatch/tariff/PriceBound"))).before args0 about1 = true := code_word (m := ⟨6, 3⟩) (meth := k6m3) (c := k6c3) (by decide +kernel) rfl rfl rfl (by decide +kernel)
set_option maxRecDepth 65536 in
theorem w_c6 : (Jvm.Cond.code ({ cls := "java/lang/Enum", name := "ordinal", desc := "()I" } : Jvm.MethodName) jdk_37_method_2_code (1 : Nat) (Option.some Jvm.ClassFile.FieldType.int)).before args0 about1 = true := code_word (m := ⟨5, 0⟩) (meth := k5m0) (c := k5c0) (by decide +kernel) rfl rfl rfl (by decide +kernel)
def codes1 : List Jvm.Cond := [Jvm.Cond.code x code maxLocals ret, Jvm.Cond.code ({ cls := "com/example/nuthatch/nuthatch/tariff/PriceBoundInclVatPinLaw", name := "pick", desc := "(I)Lcom/example/nuthatch/nuthatch/tariff/PriceBound;" } : Jvm.MethodName) method_2_code (1 : Nat) (Option.some (Jvm.ClassFile.FieldType.object "com/example/nuthatch/nuthatch/tariff/PriceBound")), Jvm.Cond.code ({ cls := "com/example/nuthatch/nuthatch/tariff/PriceBound", name := "inclVat", desc := "()Z" } : Jvm.MethodName) prog_67_method_5_code (1 : Nat) (Option.some Jvm.ClassFile.FieldType.boolean), Jvm.Cond.code ({ cls := "com/example/nuthatch/nuthatch/tariff/PriceBound", name := "onInclVat", desc := "()Lcom/example/nuthatch/nuthatch/tariff/PriceBound;" } : Jvm.MethodName) prog_67_method_6_code (1 : Nat) (Option.some (Jvm.ClassFile.FieldType.object "com/example/nuthatch/nuthatch/tariff/PriceBound")), Jvm.Cond.code ({ cls := "com/example/nuthatch/nuthatch/tariff/PriceBound", name := "isMaximum", desc := "()Z" } : Jvm.MethodName) prog_67_method_4_code (1 : Nat) (Option.some Jvm.ClassFile.FieldType.boolean), Jvm.Cond.code ({ cls := "com/example/nuthatch/nuthatch/tariff/PriceBound", name := "opposite", desc := "()Lcom/example/nuthatch/nuthatch/tariff/PriceBound;" } : Jvm.MethodName) prog_67_method_7_code (1 : Nat) (Option.some (Jvm.ClassFile.FieldType.object "com/example/nuthatch/nuthatch/tariff/PriceBound")), Jvm.Cond.code ({ cls := "java/lang/Enum", name := "ordinal", desc := "()I" } : Jvm.MethodName) jdk_37_method_2_code (1 : Nat) (Option.some Jvm.ClassFile.FieldType.int)]
set_option maxRecDepth 65536 in
theorem codes_eq : words1.filter isCode = codes1 := rfl
theorem w_codes : ∀ c ∈ words1.filter isCode, c.before args0 about1 = true := by
  rw [codes_eq]
  intro c hc
  simp only [codes1, List.mem_cons, List.not_mem_nil, or_false] at hc
  rcases hc with rfl | rfl | rfl | rfl | rfl | rfl | rfl
  · exact w_c0
  · exact w_c1
  · exact w_c2
  · exact w_c3
  · exact w_c4
  · exact w_c5
  · exact w_c6
set_option maxRecDepth 65536 in
theorem w_t1 : (words1.take 24).all (fun c => isCode c || c.before args0 about1) = true := by decide +kernel
set_option maxRecDepth 65536 in
theorem w_t2 : (words1.drop 24).all (fun c => isCode c || c.before args0 about1) = true := by decide +kernel
theorem w_tables : (allAtoms (Jvm.Cond.code x code maxLocals ret :: tables_1)).before args0 about1 = true := by
  rw [allAtoms_all]
  show words1.all (fun c => c.before args0 about1) = true
  refine all_split ?_ w_codes
  rw [← List.take_append_drop 24 words1, List.all_append, w_t1, w_t2]
  rfl
set_option maxRecDepth 65536 in
theorem w_case : (Jvm.Cond.and given_1 narrow_1).before args0 about1 = true := by decide +kernel
theorem w_applies : (headSpec (Jvm.Cond.code x code maxLocals ret :: tables_1) room_1).applies x e0.platform about1 = true :=
  (Spec.applies_iff w_frames).mpr ⟨w_running, w_runnable, w_alone, w_named, w_hears, w_ripe, w_room, w_tables⟩
theorem atStart : AtStart classFile x code maxLocals ret World_1 tables_1 room_1 Calls_1 rest_1 Pre_1 launch0 p0 e0 about1 theMethod args0 below0 :=
  ⟨lists_1, trivial, launch0.admits_env _ _ _, launch0.least_env, fairChoices_fair.cas, fairChoices_fair.clock, w_frames, w_args, w_heap, w_applies, trivial, trivial, w_case⟩
end start1
theorem witness_1 : WitnessClaimed_1 := ⟨start1.p0, start1.e0, start1.about1, start1.theMethod, start1.args0, start1.below0, start1.atStart⟩
end Jvm.Pilot.@@N@@
