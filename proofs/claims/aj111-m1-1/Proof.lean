import JvmDerived
import JvmDerived.Pilot.@@N@@Statement
import JvmDerived.Pilot.@@N@@Code
set_option linter.unusedVariables false
set_option linter.unusedSimpArgs false
@@BLOCK:NumsL.lean.txt@@
namespace Jvm.RoadKit
open Sem ClassFile Op Lib Jvm.Stand Jvm.Free Jvm.LawKit
section New
variable {p : Program} {l : Launch} {e : Env} {R : Room} {s : State} {m : MethodId} {args : Array Value} {below : List Frame} {meth : Method} {c : Code} {T : State} {locs : List Loc} {cells slots : Nat}
theorem retI (X : Stand p l e R s m args below meth c T locs cells slots) (hx : p.tables.exec = Jvm.exec) {pc : Nat} {Ls : Array Slot} {z : Int32} {rest : List Value} (hret : meth.sig.returnType = some .int) (hd : decode c.code pc = .ok (.ireturn, 1)) {fs : List Frame}
    (hl : ∀ (f : JFrame) (acts : List Action), f.method = m → f.locked = none → f.entered = [] → (doReturn e (T.setTop f) acts (some (.int z))).1 = T.setFrames fs) : Steps p.tables e below (T.setTop (mkF m pc Ls (.int z :: rest))) (T.setFrames fs) := by
  have hm' : T.vm.method? m = some meth := X.method'
  have hn : narrow .int (.int z) = .int z := rfl
  show Steps p.tables e below (T.setTop { method := m, pc := pc, locals := Ls, stack := _ :: rest, locked := none }) _
  jvm_step X.here [X.here.top, hx, hd, hm', hret, hn]
  first | (intro acts; rw [hl _ acts rfl rfl rfl]) | rw [hl _ _ rfl rfl rfl]
  exact Steps.refl _
end New
end Jvm.RoadKit
namespace Jvm.Pilot.@@N@@
open Jvm Jvm.ClassFile Sem Op Lib Jvm.Free Jvm.Stand Jvm.LawKit Jvm.RoadKit Bundle Jvm.Pilot.@@N@@.Jvm.D
theorem own_ext {h h' h'' : Heap} (A : Ext h h') (B : Ext h' h'') : Ext h h'' := ⟨Nat.le_trans A.1 B.1, fun a c q => B.2 a c (A.2 a c q)⟩
theorem own_fld {args : Array Value} {s : State} {t : Term} {C n d : String} {w : Addr} {k : Int32} (h : (Jvm.Cond.eq (.field t C n d) (.int k)).value args s none s [] = some true) (ev : t.eval args s none [] s = some (.ref w)) : Fld s s.heap w C n d (.int k) := by
  apply Fld.start
  have e := fld_at (C := C) (n := n) (dd := d) ev
  obtain ⟨x, y, e1, e2, k1, k2⟩ := cmp_v (Or.inl h)
  cases (show y = .int k from (Option.some.inj (e2.symm.trans rfl)))
  obtain ⟨z, rfl⟩ := k2
  have q := gotT (Cond.eq_ints e1 e2) h
  rw [← e, e1, q]
theorem own_fldR {args : Array Value} {s : State} {t u : Term} {C n d : String} {w b : Addr} (h : (Jvm.Cond.eq (.field t C n d) u).value args s none s [] = some true) (ev : t.eval args s none [] s = some (.ref w)) (eu : u.eval args s none [] s = some (.ref b)) : Fld s s.heap w C n d (.ref b) := by
  apply Fld.start
  have e := fld_at (C := C) (n := n) (dd := d) ev
  obtain ⟨x, y, e1, e2, k1, k2⟩ := cmp_v (Or.inl h)
  cases e2.symm.trans eu
  have q := gotT (eq_R e1 eu k2.2 rfl) h
  rw [← e, e1, q]
theorem own_ne {Z : State} {h : Heap} {a b : Addr} {C n d : String} {i j : Int32} (F : Fld Z h a C n d (.int i)) (G : Fld Z h b C n d (.int j)) (hn : ¬ (i = j)) : ¬ (a = b) := fun e => by
  subst e
  obtain ⟨c1, f1, k1, i1, g1, p1, p2, -, -, -, -, p7⟩ := F
  obtain ⟨c2, f2, k2, i2, g2, q1, q2, -, -, -, -, q7⟩ := G
  cases p1.symm.trans q1
  cases p2.symm.trans q2
  exact hn (Value.int.inj (Option.some.inj (p7.symm.trans q7)))
theorem own_inj {x y : Int32} (h : x.toInt = y.toInt) : x = y := Int32.toInt_inj.mp h
theorem own_mask (x : Int32) : (x &&& (3 : Int32)) = (0 : Int32) ∨ (x &&& (3 : Int32)) = (1 : Int32) ∨ (x &&& (3 : Int32)) = (2 : Int32) ∨ (x &&& (3 : Int32)) = (3 : Int32) := by
  have e := Jvm.Kit.i32_mask x (3 : Int32) (k := 2) (by decide) (by decide)
  have h : (x &&& (3 : Int32)).toInt = 0 ∨ (x &&& (3 : Int32)).toInt = 1 ∨ (x &&& (3 : Int32)).toInt = 2 ∨ (x &&& (3 : Int32)).toInt = 3 := by omega
  rcases h with h | h | h | h
  · exact Or.inl (own_inj (h.trans (by decide)))
  · exact Or.inr (Or.inl (own_inj (h.trans (by decide))))
  · exact Or.inr (Or.inr (Or.inl (own_inj (h.trans (by decide)))))
  · exact Or.inr (Or.inr (Or.inr (own_inj (h.trans (by decide)))))
theorem own_since (s : State) : s.Since s.vm 0 := ⟨State.Warmed39.refl s, fun j p hj hp => by rw [Array.getElem?_eq_none hj] at hp; cases hp⟩
theorem own_wS {Z : State} {a0 : Array Value} (hw : ∀ d ∈ tables_1, d.before a0 Z = true) : ∀ a ∈ Bundle.stringAtoms, a.before a0 Z = true := by
  intro a ha
  simp only [Bundle.stringAtoms, List.mem_cons, List.not_mem_nil, or_false] at ha
  rcases ha with rfl | rfl | rfl | rfl | rfl | rfl | rfl
  · exact (hw _ (List.mem_of_getElem? (i := 18) rfl))
  · exact (hw _ (List.mem_of_getElem? (i := 19) rfl))
  · exact (hw _ (List.mem_of_getElem? (i := 20) rfl))
  · exact (hw _ (List.mem_of_getElem? (i := 21) rfl))
  · exact (hw _ (List.mem_of_getElem? (i := 22) rfl))
  · exact (hw _ (List.mem_of_getElem? (i := 23) rfl))
  · exact (hw _ (List.mem_of_getElem? (i := 24) rfl))
def World (Z : State) (h : Heap) (w_OPEN : Addr) (w_COMMITTED : Addr) (w_ROLLED_BACK : Addr) (w_PARKED : Addr) : Prop := Sta Z h "com/example/clinch/clinch/broker/TransactionState" "OPEN" "Lcom/example/clinch/clinch/broker/TransactionState;" (.ref w_OPEN) ∧ Exa Z h w_OPEN "com/example/clinch/clinch/broker/TransactionState" ∧ Sta Z h "com/example/clinch/clinch/broker/TransactionState" "COMMITTED" "Lcom/example/clinch/clinch/broker/TransactionState;" (.ref w_COMMITTED) ∧ Exa Z h w_COMMITTED "com/example/clinch/clinch/broker/TransactionState" ∧ Sta Z h "com/example/clinch/clinch/broker/TransactionState" "ROLLED_BACK" "Lcom/example/clinch/clinch/broker/TransactionState;" (.ref w_ROLLED_BACK) ∧ Exa Z h w_ROLLED_BACK "com/example/clinch/clinch/broker/TransactionState" ∧ Sta Z h "com/example/clinch/clinch/broker/TransactionState" "PARKED" "Lcom/example/clinch/clinch/broker/TransactionState;" (.ref w_PARKED) ∧ Exa Z h w_PARKED "com/example/clinch/clinch/broker/TransactionState" ∧ Fld Z h w_OPEN "java/lang/Enum" "ordinal" "I" (.int (0 : Int32)) ∧ Fld Z h w_COMMITTED "java/lang/Enum" "ordinal" "I" (.int (1 : Int32)) ∧ Fld Z h w_ROLLED_BACK "java/lang/Enum" "ordinal" "I" (.int (2 : Int32)) ∧ Fld Z h w_PARKED "java/lang/Enum" "ordinal" "I" (.int (3 : Int32)) ∧ ¬ (w_OPEN = w_COMMITTED) ∧ ¬ (w_OPEN = w_ROLLED_BACK) ∧ ¬ (w_OPEN = w_PARKED) ∧ ¬ (w_COMMITTED = w_ROLLED_BACK) ∧ ¬ (w_COMMITTED = w_PARKED) ∧ ¬ (w_ROLLED_BACK = w_PARKED) ∧ True
theorem World.ext {Z : State} {h h' : Heap} {w_OPEN : Addr} {w_COMMITTED : Addr} {w_ROLLED_BACK : Addr} {w_PARKED : Addr} (E : Ext h h') (W : World Z h w_OPEN w_COMMITTED w_ROLLED_BACK w_PARKED) : World Z h' w_OPEN w_COMMITTED w_ROLLED_BACK w_PARKED := by
  obtain ⟨S_w_OPEN, E_w_OPEN, S_w_COMMITTED, E_w_COMMITTED, S_w_ROLLED_BACK, E_w_ROLLED_BACK, S_w_PARKED, E_w_PARKED, F_ordinal_w_OPEN, F_ordinal_w_COMMITTED, F_ordinal_w_ROLLED_BACK, F_ordinal_w_PARKED, ne_w_OPEN_w_COMMITTED, ne_w_OPEN_w_ROLLED_BACK, ne_w_OPEN_w_PARKED, ne_w_COMMITTED_w_ROLLED_BACK, ne_w_COMMITTED_w_PARKED, ne_w_ROLLED_BACK_w_PARKED, -⟩ := W
  exact ⟨S_w_OPEN.ext E, E_w_OPEN.ext E, S_w_COMMITTED.ext E, E_w_COMMITTED.ext E, S_w_ROLLED_BACK.ext E, E_w_ROLLED_BACK.ext E, S_w_PARKED.ext E, E_w_PARKED.ext E, F_ordinal_w_OPEN.ext E, F_ordinal_w_COMMITTED.ext E, F_ordinal_w_ROLLED_BACK.ext E, F_ordinal_w_PARKED.ext E, ne_w_OPEN_w_COMMITTED, ne_w_OPEN_w_ROLLED_BACK, ne_w_OPEN_w_PARKED, ne_w_COMMITTED_w_ROLLED_BACK, ne_w_COMMITTED_w_PARKED, ne_w_ROLLED_BACK_w_PARKED, trivial⟩
theorem d1_0 : decode prog_17_method_4_code 0 = .ok (.aload_n 0, 1) := by decide +kernel
theorem d1_1 : decode prog_17_method_4_code 1 = .ok (.getstatic 7, 3) := by decide +kernel
theorem d1_4 : decode prog_17_method_4_code 4 = .ok (.if_acmp .eq 10, 3) := by decide +kernel
theorem d1_7 : decode prog_17_method_4_code 7 = .ok (.aload_n 0, 1) := by decide +kernel
theorem d1_8 : decode prog_17_method_4_code 8 = .ok (.getstatic 10, 3) := by decide +kernel
theorem d1_11 : decode prog_17_method_4_code 11 = .ok (.if_acmp .ne 7, 3) := by decide +kernel
theorem d1_18 : decode prog_17_method_4_code 18 = .ok (.iconst 0, 1) := by decide +kernel
theorem d1_19 : decode prog_17_method_4_code 19 = .ok (.ireturn, 1) := by decide +kernel
theorem ef9 (m : MethodId) (x0 : Addr) : entryFrame m #[(.ref x0)] 1 = mkF m 0 #[.val (.ref x0)] [] := by first | (simp [entryFrame, mkF, argsToLocals, Value.category]; done) | rfl
theorem pn10 : plainName "com/example/clinch/clinch/broker/TransactionState" = true := by first | (simp [plainName, overriddenIn]; done) | decide +kernel
def Q1_0 (Z : State) (w_OPEN : Addr) (w_COMMITTED : Addr) (w_ROLLED_BACK : Addr) (w_PARKED : Addr) (h0 : Heap) (n0 : Nat) (v : Option Value) (h : Heap) (L : List Loc) : Prop := v = some (.int (0 : Int32)) ∧ Fr n0 L ∧ h = h0
set_option maxRecDepth 65536 in
set_option maxHeartbeats 40000000 in
theorem rm1_0 (l : Launch) (Z : State) (a0 : Array Value) (hw : ∀ d ∈ tables_1, d.before a0 Z = true) (ws : List Jvm.Cond) (w_OPEN : Addr) (w_COMMITTED : Addr) (w_ROLLED_BACK : Addr) (w_PARKED : Addr) (h0 : Heap) (n0 : Nat) (Z0 : n0 ≤ h0.size) (HW : World Z h0 w_OPEN w_COMMITTED w_ROLLED_BACK w_PARKED) :
    MetFree l (⟨"com/example/clinch/clinch/broker/TransactionState", "isFinal", "()Z"⟩ : MethodName) (head1 (Jvm.Cond.code (⟨"com/example/clinch/clinch/broker/TransactionState", "isFinal", "()Z"⟩ : MethodName) prog_17_method_4_code 1 (some .boolean) :: ws) ({ frames := 0, cells := 0, slots := 0, locals := 0 } : Room)) (fun a U => a = #[(.ref w_OPEN)] ∧ Z.Warmed39 U.vm ∧ U.heap = h0) (fun _ _ _ _ _ => True) (fun _ U o U' => ∃ v L, o = .returned v ∧ Q1_0 Z w_OPEN w_COMMITTED w_ROLLED_BACK w_PARKED h0 n0 v U'.heap L ∧ FrameEnd U o U' L ({ frames := 0, cells := 0, slots := 0, locals := 0 } : Room).cells ({ frames := 0, cells := 0, slots := 0, locals := 0 } : Room).slots) := by
  refine MetFree.of_bodySF (plainFor_of_name pn10) hisR ?_
  intro p e s m args below meth c s₁ Bd hml0 hP hK
  obtain ⟨rfl, hZ, hh⟩ := hP
  have hx := Bd.exec
  have hby := Bd.bytes
  have hml : c.maxLocals = 1 := hml0
  have hown : s.vm.findClass "com/example/clinch/clinch/broker/TransactionState" = some m.cls := findClass_of_methodNamed Bd.named
  have X0 : Stand p l e ({ frames := 0, cells := 0, slots := 0, locals := 0 } : Room) s m #[(.ref w_OPEN)] below meth c s₁ [] 0 0 := Stand.of_body Bd
  have e0 : s₁.heap = h0 := by rw [← hh, Bd.state]; rfl
  have N0 := Fr.nil n0
  have pre0 : ∀ t, Steps p.tables e below (s₁.setTop (mkF m 0 #[.val (.ref w_OPEN)] [])) t → Steps p.tables e below (s₁.setTop (entryFrame m #[(.ref w_OPEN)] 1)) t := fun t k => castTop (ef9 m w_OPEN) k
  obtain ⟨S_w_OPEN, E_w_OPEN, S_w_COMMITTED, E_w_COMMITTED, S_w_ROLLED_BACK, E_w_ROLLED_BACK, S_w_PARKED, E_w_PARKED, F_ordinal_w_OPEN, F_ordinal_w_COMMITTED, F_ordinal_w_ROLLED_BACK, F_ordinal_w_PARKED, ne_w_OPEN_w_COMMITTED, ne_w_OPEN_w_ROLLED_BACK, ne_w_OPEN_w_PARKED, ne_w_COMMITTED_w_ROLLED_BACK, ne_w_COMMITTED_w_PARKED, ne_w_ROLLED_BACK_w_PARKED, -⟩ := id HW
  obtain ⟨T1, X1, e1, st1⟩ := getS2 X0 hx hZ hown (host := "") (Or.inl (hw _ (List.mem_of_getElem? (i := 8) rfl))) Via.refl e0 S_w_COMMITTED (g := (mkF m 1 #[.val (.ref w_OPEN)] [(.ref w_OPEN)])) rfl (hb hby d1_1)
  obtain ⟨T2, X2, e2, st2⟩ := getS2 X1 hx hZ hown (host := "") (Or.inl (hw _ (List.mem_of_getElem? (i := 10) rfl))) Via.refl e1 S_w_ROLLED_BACK (g := (mkF m 8 #[.val (.ref w_OPEN)] [(.ref w_OPEN)])) rfl (hb hby d1_8)
  obtain ⟨fs, hr, hrun, hended, hW, hsame⟩ := X2.leave (v := some (.int (0 : Int32))) (fun h => by rw [Bd.returns] at h; cases h)
  refine ⟨_, _, pre0 _ ?_, hrun, hended, _, _, rfl, ?_, ⟨_, rfl⟩, hW, hsame.mono (by decide) (by decide)⟩
  · show Steps p.tables e below (s₁.setTop (mkF m 0 #[.val (.ref w_OPEN)] [])) _
    refine XS.aloadN X0.here hx rfl (hb hby d1_0) rfl rfl ?_
    show Steps p.tables e below (s₁.setTop (mkF m 1 #[.val (.ref w_OPEN)] [(.ref w_OPEN)])) _
    refine st1 _ ?_
    show Steps p.tables e below (T1.setTop (mkF m 4 #[.val (.ref w_OPEN)] [(.ref w_COMMITTED), (.ref w_OPEN)])) _
    refine Jvm.RoadKit.acmp (g := (mkF m 4 #[.val (.ref w_OPEN)] [(.ref w_COMMITTED), (.ref w_OPEN)])) X1 hx rfl rfl rfl (pc0 := 4) (pc' := 7) (same := false) rfl (hb hby d1_4) rfl (decide_eq_false fun q => ne_w_OPEN_w_COMMITTED (Value.ref.inj q)) (by decide) (by decide) ?_
    show Steps p.tables e below (T1.setTop (mkF m 7 #[.val (.ref w_OPEN)] [])) _
    refine XS.aloadN X1.here hx rfl (hb hby d1_7) rfl rfl ?_
    show Steps p.tables e below (T1.setTop (mkF m 8 #[.val (.ref w_OPEN)] [(.ref w_OPEN)])) _
    refine st2 _ ?_
    show Steps p.tables e below (T2.setTop (mkF m 11 #[.val (.ref w_OPEN)] [(.ref w_ROLLED_BACK), (.ref w_OPEN)])) _
    refine Jvm.RoadKit.acmp (g := (mkF m 11 #[.val (.ref w_OPEN)] [(.ref w_ROLLED_BACK), (.ref w_OPEN)])) X2 hx rfl rfl rfl (pc0 := 11) (pc' := 18) (same := false) rfl (hb hby d1_11) rfl (decide_eq_false fun q => ne_w_OPEN_w_ROLLED_BACK (Value.ref.inj q)) (by decide) (by decide) ?_
    show Steps p.tables e below (T2.setTop (mkF m 18 #[.val (.ref w_OPEN)] [])) _
    refine XS.iconst X2.here hx rfl (hb hby d1_18) ?_
    show Steps p.tables e below (T2.setTop (mkF m 19 #[.val (.ref w_OPEN)] [(.int (0 : Int32))])) _
    exact retN X2 hx (t := .boolean) Bd.returns (by simp) (hb hby d1_19) hr
  · exact ⟨rfl, N0, e2⟩
theorem pd11 : parseMethodDescriptor "()Z" = some ⟨[], some .boolean⟩ := by decide +kernel
theorem d2_0 : decode prog_17_method_5_code 0 = .ok (.aload_n 1, 1) := by decide +kernel
theorem d2_1 : decode prog_17_method_5_code 1 = .ok (.ldc 35, 2) := by decide +kernel
theorem d3_0 : decode jdk_31_method_11_code 0 = .ok (.aload_n 0, 1) := by decide +kernel
theorem d3_1 : decode jdk_31_method_11_code 1 = .ok (.ifnonnull 12, 3) := by decide +kernel
theorem d3_13 : decode jdk_31_method_11_code 13 = .ok (.aload_n 0, 1) := by decide +kernel
theorem d3_14 : decode jdk_31_method_11_code 14 = .ok (.areturn, 1) := by decide +kernel
theorem ef19 (m : MethodId) (x0 : Addr) (x1 : Addr) : entryFrame m #[(.ref x0), (.ref x1)] 2 = mkF m 0 #[.val (.ref x0), .val (.ref x1)] [] := by first | (simp [entryFrame, mkF, argsToLocals, Value.category]; done) | rfl
theorem pn20 : plainName "java/util/Objects" = true := by first | (simp [plainName, overriddenIn]; done) | decide +kernel
def Q3_1 (Z : State) (w_OPEN : Addr) (w_COMMITTED : Addr) (w_ROLLED_BACK : Addr) (w_PARKED : Addr) (q0 : Addr) (h0 : Heap) (n0 : Nat) (v : Option Value) (h : Heap) (L : List Loc) : Prop := v = some (.ref w_OPEN) ∧ Fr n0 L ∧ h = h0
set_option maxRecDepth 65536 in
set_option maxHeartbeats 40000000 in
theorem rm3_1 (l : Launch) (Z : State) (a0 : Array Value) (hw : ∀ d ∈ tables_1, d.before a0 Z = true) (ws : List Jvm.Cond) (w_OPEN : Addr) (w_COMMITTED : Addr) (w_ROLLED_BACK : Addr) (w_PARKED : Addr) (q0 : Addr) (h0 : Heap) (n0 : Nat) (Z0 : n0 ≤ h0.size) (HW : World Z h0 w_OPEN w_COMMITTED w_ROLLED_BACK w_PARKED) :
    MetFree l (⟨"java/util/Objects", "requireNonNull", "(Ljava/lang/Object;Ljava/lang/String;)Ljava/lang/Object;"⟩ : MethodName) (head1 (Jvm.Cond.code (⟨"java/util/Objects", "requireNonNull", "(Ljava/lang/Object;Ljava/lang/String;)Ljava/lang/Object;"⟩ : MethodName) jdk_31_method_11_code 2 (some (.object "java/lang/Object")) :: ws) ({ frames := 0, cells := 0, slots := 0, locals := 0 } : Room)) (fun a U => a = #[(.ref w_OPEN), (.ref q0)] ∧ Z.Warmed39 U.vm ∧ U.heap = h0) (fun _ _ _ _ _ => True) (fun _ U o U' => ∃ v L, o = .returned v ∧ Q3_1 Z w_OPEN w_COMMITTED w_ROLLED_BACK w_PARKED q0 h0 n0 v U'.heap L ∧ FrameEnd U o U' L ({ frames := 0, cells := 0, slots := 0, locals := 0 } : Room).cells ({ frames := 0, cells := 0, slots := 0, locals := 0 } : Room).slots) := by
  refine MetFree.of_bodySF (plainFor_of_name pn20) hisR ?_
  intro p e s m args below meth c s₁ Bd hml0 hP hK
  obtain ⟨rfl, hZ, hh⟩ := hP
  have hx := Bd.exec
  have hby := Bd.bytes
  have hml : c.maxLocals = 2 := hml0
  have hown : s.vm.findClass "java/util/Objects" = some m.cls := findClass_of_methodNamed Bd.named
  have X0 : Stand p l e ({ frames := 0, cells := 0, slots := 0, locals := 0 } : Room) s m #[(.ref w_OPEN), (.ref q0)] below meth c s₁ [] 0 0 := Stand.of_body Bd
  have e0 : s₁.heap = h0 := by rw [← hh, Bd.state]; rfl
  have N0 := Fr.nil n0
  have pre0 : ∀ t, Steps p.tables e below (s₁.setTop (mkF m 0 #[.val (.ref w_OPEN), .val (.ref q0)] [])) t → Steps p.tables e below (s₁.setTop (entryFrame m #[(.ref w_OPEN), (.ref q0)] 2)) t := fun t k => castTop (ef19 m w_OPEN q0) k
  obtain ⟨S_w_OPEN, E_w_OPEN, S_w_COMMITTED, E_w_COMMITTED, S_w_ROLLED_BACK, E_w_ROLLED_BACK, S_w_PARKED, E_w_PARKED, F_ordinal_w_OPEN, F_ordinal_w_COMMITTED, F_ordinal_w_ROLLED_BACK, F_ordinal_w_PARKED, ne_w_OPEN_w_COMMITTED, ne_w_OPEN_w_ROLLED_BACK, ne_w_OPEN_w_PARKED, ne_w_COMMITTED_w_ROLLED_BACK, ne_w_COMMITTED_w_PARKED, ne_w_ROLLED_BACK_w_PARKED, -⟩ := id HW
  obtain ⟨fs, hr, hrun, hended, hW, hsame⟩ := X0.leave (v := some (.ref w_OPEN)) (fun h => by rw [Bd.returns] at h; cases h)
  refine ⟨_, _, pre0 _ ?_, hrun, hended, _, _, rfl, ?_, ⟨_, rfl⟩, hW, hsame.mono (by decide) (by decide)⟩
  · show Steps p.tables e below (s₁.setTop (mkF m 0 #[.val (.ref w_OPEN), .val (.ref q0)] [])) _
    refine XS.aloadN X0.here hx rfl (hb hby d3_0) rfl rfl ?_
    show Steps p.tables e below (s₁.setTop (mkF m 1 #[.val (.ref w_OPEN), .val (.ref q0)] [(.ref w_OPEN)])) _
    refine XS.ifnonnullYes X0.here hx rfl (pc0 := 1) (pc' := 13) rfl (hb hby d3_1) rfl (by decide) (by decide) ?_
    show Steps p.tables e below (s₁.setTop (mkF m 13 #[.val (.ref w_OPEN), .val (.ref q0)] [])) _
    refine XS.aloadN X0.here hx rfl (hb hby d3_13) rfl rfl ?_
    show Steps p.tables e below (s₁.setTop (mkF m 14 #[.val (.ref w_OPEN), .val (.ref q0)] [(.ref w_OPEN)])) _
    jvm_step X0.here [X0.here.top, hx, (hb hby d3_14), X0.method', Bd.returns, Value.isRef, FieldType.isReference]
    first | (intro acts; rw [hr _ acts rfl rfl rfl]) | rw [hr _ _ rfl rfl rfl]
    exact Steps.refl _
  · exact ⟨rfl, N0, e0⟩
theorem pd21 : parseMethodDescriptor "(Ljava/lang/Object;Ljava/lang/String;)Ljava/lang/Object;" = some ⟨[(.object "java/lang/Object"), (.object "java/lang/String")], some (.object "java/lang/Object")⟩ := by decide +kernel
theorem d2_3 : decode prog_17_method_5_code 3 = .ok (.invokestatic 37, 3) := by decide +kernel
theorem d2_6 : decode prog_17_method_5_code 6 = .ok (.pop, 1) := by decide +kernel
theorem d2_7 : decode prog_17_method_5_code 7 = .ok (.aload_n 0, 1) := by decide +kernel
theorem d4_0 : decode jdk_37_method_2_code 0 = .ok (.aload_n 0, 1) := by decide +kernel
theorem d4_1 : decode jdk_37_method_2_code 1 = .ok (.getfield 7, 3) := by decide +kernel
theorem d4_4 : decode jdk_37_method_2_code 4 = .ok (.ireturn, 1) := by decide +kernel
theorem ef29 (m : MethodId) (x0 : Addr) : entryFrame m #[(.ref x0)] 1 = mkF m 0 #[.val (.ref x0)] [] := by first | (simp [entryFrame, mkF, argsToLocals, Value.category]; done) | rfl
theorem pn30 : plainName "java/lang/Enum" = true := by first | (simp [plainName, overriddenIn]; done) | decide +kernel
def Q4_2 (Z : State) (w_OPEN : Addr) (w_COMMITTED : Addr) (w_ROLLED_BACK : Addr) (w_PARKED : Addr) (h0 : Heap) (n0 : Nat) (v : Option Value) (h : Heap) (L : List Loc) : Prop := v = some (.int (0 : Int32)) ∧ Fr n0 L ∧ h = h0
set_option maxRecDepth 65536 in
set_option maxHeartbeats 40000000 in
theorem rm4_2 (l : Launch) (Z : State) (a0 : Array Value) (hw : ∀ d ∈ tables_1, d.before a0 Z = true) (ws : List Jvm.Cond) (w_OPEN : Addr) (w_COMMITTED : Addr) (w_ROLLED_BACK : Addr) (w_PARKED : Addr) (h0 : Heap) (n0 : Nat) (Z0 : n0 ≤ h0.size) (HW : World Z h0 w_OPEN w_COMMITTED w_ROLLED_BACK w_PARKED) :
    MetFree l (⟨"java/lang/Enum", "ordinal", "()I"⟩ : MethodName) (head1 (Jvm.Cond.code (⟨"java/lang/Enum", "ordinal", "()I"⟩ : MethodName) jdk_37_method_2_code 1 (some .int) :: ws) ({ frames := 0, cells := 0, slots := 0, locals := 0 } : Room)) (fun a U => a = #[(.ref w_OPEN)] ∧ Z.Warmed39 U.vm ∧ U.heap = h0) (fun _ _ _ _ _ => True) (fun _ U o U' => ∃ v L, o = .returned v ∧ Q4_2 Z w_OPEN w_COMMITTED w_ROLLED_BACK w_PARKED h0 n0 v U'.heap L ∧ FrameEnd U o U' L ({ frames := 0, cells := 0, slots := 0, locals := 0 } : Room).cells ({ frames := 0, cells := 0, slots := 0, locals := 0 } : Room).slots) := by
  refine MetFree.of_bodySF (plainFor_of_name pn30) hisR ?_
  intro p e s m args below meth c s₁ Bd hml0 hP hK
  obtain ⟨rfl, hZ, hh⟩ := hP
  have hx := Bd.exec
  have hby := Bd.bytes
  have hml : c.maxLocals = 1 := hml0
  have hown : s.vm.findClass "java/lang/Enum" = some m.cls := findClass_of_methodNamed Bd.named
  have X0 : Stand p l e ({ frames := 0, cells := 0, slots := 0, locals := 0 } : Room) s m #[(.ref w_OPEN)] below meth c s₁ [] 0 0 := Stand.of_body Bd
  have e0 : s₁.heap = h0 := by rw [← hh, Bd.state]; rfl
  have N0 := Fr.nil n0
  have pre0 : ∀ t, Steps p.tables e below (s₁.setTop (mkF m 0 #[.val (.ref w_OPEN)] [])) t → Steps p.tables e below (s₁.setTop (entryFrame m #[(.ref w_OPEN)] 1)) t := fun t k => castTop (ef29 m w_OPEN) k
  obtain ⟨S_w_OPEN, E_w_OPEN, S_w_COMMITTED, E_w_COMMITTED, S_w_ROLLED_BACK, E_w_ROLLED_BACK, S_w_PARKED, E_w_PARKED, F_ordinal_w_OPEN, F_ordinal_w_COMMITTED, F_ordinal_w_ROLLED_BACK, F_ordinal_w_PARKED, ne_w_OPEN_w_COMMITTED, ne_w_OPEN_w_ROLLED_BACK, ne_w_OPEN_w_PARKED, ne_w_COMMITTED_w_ROLLED_BACK, ne_w_COMMITTED_w_PARKED, ne_w_ROLLED_BACK_w_PARKED, -⟩ := id HW
  obtain ⟨T1, X1, e1, st1⟩ := getF X0 hx hZ hown (host := "") (Or.inl (hw _ (List.mem_of_getElem? (i := 36) rfl))) Via.refl e0 F_ordinal_w_OPEN (g := (mkF m 1 #[.val (.ref w_OPEN)] [(.ref w_OPEN)])) rfl rfl (hb hby d4_1)
  obtain ⟨fs, hr, hrun, hended, hW, hsame⟩ := X1.leave (v := some (.int (0 : Int32))) (fun h => by rw [Bd.returns] at h; cases h)
  refine ⟨_, _, pre0 _ ?_, hrun, hended, _, _, rfl, ?_, ⟨_, rfl⟩, hW, hsame.mono (by decide) (by decide)⟩
  · show Steps p.tables e below (s₁.setTop (mkF m 0 #[.val (.ref w_OPEN)] [])) _
    refine XS.aloadN X0.here hx rfl (hb hby d4_0) rfl rfl ?_
    show Steps p.tables e below (s₁.setTop (mkF m 1 #[.val (.ref w_OPEN)] [(.ref w_OPEN)])) _
    refine st1 _ ?_
    show Steps p.tables e below (T1.setTop (mkF m 4 #[.val (.ref w_OPEN)] [(.int (0 : Int32))])) _
    exact Jvm.RoadKit.retI X1 hx Bd.returns (hb hby d4_4) hr
  · exact ⟨rfl, N0, e1⟩
theorem pd31 : parseMethodDescriptor "()I" = some ⟨[], some .int⟩ := by decide +kernel
theorem d2_8 : decode prog_17_method_5_code 8 = .ok (.invokevirtual 43, 3) := by decide +kernel
theorem d2_11 : decode prog_17_method_5_code 11 = .ok (.tableswitch 29 0 3 #[39, 61, 61, 54], 29) := by decide +kernel
theorem d2_50 : decode prog_17_method_5_code 50 = .ok (.aload_n 1, 1) := by decide +kernel
theorem d2_51 : decode prog_17_method_5_code 51 = .ok (.getstatic 3, 3) := by decide +kernel
theorem d2_54 : decode prog_17_method_5_code 54 = .ok (.if_acmp .eq 7, 3) := by decide +kernel
theorem d2_61 : decode prog_17_method_5_code 61 = .ok (.iconst 0, 1) := by decide +kernel
theorem d2_62 : decode prog_17_method_5_code 62 = .ok (.goto 11, 3) := by decide +kernel
theorem d2_73 : decode prog_17_method_5_code 73 = .ok (.istore_n 2, 1) := by decide +kernel
theorem d2_74 : decode prog_17_method_5_code 74 = .ok (.iload_n 2, 1) := by decide +kernel
theorem d2_75 : decode prog_17_method_5_code 75 = .ok (.ireturn, 1) := by decide +kernel
theorem ef43 (m : MethodId) (x0 : Addr) (x1 : Addr) : entryFrame m #[(.ref x0), (.ref x1)] 3 = mkF m 0 #[.val (.ref x0), .val (.ref x1), .unset] [] := by first | (simp [entryFrame, mkF, argsToLocals, Value.category]; done) | rfl
def Q2_3 (Z : State) (w_OPEN : Addr) (w_COMMITTED : Addr) (w_ROLLED_BACK : Addr) (w_PARKED : Addr) (h0 : Heap) (n0 : Nat) (v : Option Value) (h : Heap) (L : List Loc) : Prop := v = some (.int (0 : Int32)) ∧ Fr n0 L ∧ Ext h0 h
set_option maxRecDepth 65536 in
set_option maxHeartbeats 40000000 in
theorem rm2_3 (l : Launch) (Z : State) (a0 : Array Value) (hw : ∀ d ∈ tables_1, d.before a0 Z = true) (ws : List Jvm.Cond) (w_OPEN : Addr) (w_COMMITTED : Addr) (w_ROLLED_BACK : Addr) (w_PARKED : Addr) (h0 : Heap) (n0 : Nat) (Z0 : n0 ≤ h0.size) (HW : World Z h0 w_OPEN w_COMMITTED w_ROLLED_BACK w_PARKED) :
    MetFree l (⟨"com/example/clinch/clinch/broker/TransactionState", "canMoveTo", "(Lcom/example/clinch/clinch/broker/TransactionState;)Z"⟩ : MethodName) (head1 (Jvm.Cond.code (⟨"com/example/clinch/clinch/broker/TransactionState", "canMoveTo", "(Lcom/example/clinch/clinch/broker/TransactionState;)Z"⟩ : MethodName) prog_17_method_5_code 3 (some .boolean) :: ws) ({ frames := 1, cells := 2, slots := 20, locals := 13 } : Room)) (fun a U => a = #[(.ref w_OPEN), (.ref w_OPEN)] ∧ Z.Warmed39 U.vm ∧ U.heap = h0) (fun _ _ _ _ _ => True) (fun _ U o U' => ∃ v L, o = .returned v ∧ Q2_3 Z w_OPEN w_COMMITTED w_ROLLED_BACK w_PARKED h0 n0 v U'.heap L ∧ ReturnedEndW U o U' L ({ frames := 1, cells := 2, slots := 20, locals := 13 } : Room).cells ({ frames := 1, cells := 2, slots := 20, locals := 13 } : Room).slots) := by
  refine MetFree.of_bodySF (plainFor_of_name pn10) hisR ?_
  intro p e s m args below meth c s₁ Bd hml0 hP hK
  obtain ⟨rfl, hZ, hh⟩ := hP
  have hx := Bd.exec
  have hby := Bd.bytes
  have hml : c.maxLocals = 3 := hml0
  have hown : s.vm.findClass "com/example/clinch/clinch/broker/TransactionState" = some m.cls := findClass_of_methodNamed Bd.named
  have X0 : Stand p l e ({ frames := 1, cells := 2, slots := 20, locals := 13 } : Room) s m #[(.ref w_OPEN), (.ref w_OPEN)] below meth c s₁ [] 0 0 := Stand.of_body Bd
  have e0 : s₁.heap = h0 := by rw [← hh, Bd.state]; rfl
  have N0 := Fr.nil n0
  have pre0 : ∀ t, Steps p.tables e below (s₁.setTop (mkF m 0 #[.val (.ref w_OPEN), .val (.ref w_OPEN), .unset] [])) t → Steps p.tables e below (s₁.setTop (entryFrame m #[(.ref w_OPEN), (.ref w_OPEN)] 3)) t := fun t k => castTop (ef43 m w_OPEN w_OPEN) k
  have X0s : Stand p l e ({ frames := 1, cells := 2, slots := 20, locals := 13 } : Room) (s.setVm s.vm) m #[(.ref w_OPEN), (.ref w_OPEN)] below meth c s₁ [] 0 0 := X0
  have hZ0 : Z.Warmed39 (s.setVm s.vm).vm := hZ
  have hown0 : (s.setVm s.vm).vm.findClass "com/example/clinch/clinch/broker/TransactionState" = some m.cls := hown
  have hS0 := own_since s
  obtain ⟨S_w_OPEN, E_w_OPEN, S_w_COMMITTED, E_w_COMMITTED, S_w_ROLLED_BACK, E_w_ROLLED_BACK, S_w_PARKED, E_w_PARKED, F_ordinal_w_OPEN, F_ordinal_w_COMMITTED, F_ordinal_w_ROLLED_BACK, F_ordinal_w_PARKED, ne_w_OPEN_w_COMMITTED, ne_w_OPEN_w_ROLLED_BACK, ne_w_OPEN_w_PARKED, ne_w_COMMITTED_w_ROLLED_BACK, ne_w_COMMITTED_w_PARKED, ne_w_ROLLED_BACK_w_PARKED, -⟩ := id HW
  obtain ⟨a1, T1, h1, kk1, X1, e1, E1, hS1, hk1, hZ1, hown1, st1⟩ := ldcS X0s hx hZ0 hown0 (hw _ (List.mem_of_getElem? (i := 17) rfl)) (own_wS hw) e0 hS0 (Nat.zero_le _) (g := (mkF m 1 #[.val (.ref w_OPEN), .val (.ref w_OPEN), .unset] [(.ref w_OPEN)])) rfl (hb hby d2_1) (n := 16) (by decide) (by decide) (by decide) (by decide)
  replace HW := HW.ext E1
  obtain ⟨S_w_OPEN, E_w_OPEN, S_w_COMMITTED, E_w_COMMITTED, S_w_ROLLED_BACK, E_w_ROLLED_BACK, S_w_PARKED, E_w_PARKED, F_ordinal_w_OPEN, F_ordinal_w_COMMITTED, F_ordinal_w_ROLLED_BACK, F_ordinal_w_PARKED, ne_w_OPEN_w_COMMITTED, ne_w_OPEN_w_ROLLED_BACK, ne_w_OPEN_w_PARKED, ne_w_COMMITTED_w_ROLLED_BACK, ne_w_COMMITTED_w_PARKED, ne_w_ROLLED_BACK_w_PARKED, -⟩ := id HW
  obtain ⟨_, _, ⟨T2, L2, k2, n2⟩, -, X2, ⟨Lc2, hQ2, l2, y2, z2⟩, st2⟩ := Jvm.LawKit.callS X1 hx (y := (⟨"java/util/Objects", "requireNonNull", "(Ljava/lang/Object;Ljava/lang/String;)Ljava/lang/Object;"⟩ : MethodName)) hown1 (mvT hZ1 (hw _ (List.mem_of_getElem? (i := 25) rfl))) (mvT hZ1 (hw _ (List.mem_of_getElem? (i := 26) rfl))) (mvT hZ1 (hw _ (List.mem_of_getElem? (i := 27) rfl))) (mvT hZ1 (hw _ (List.mem_of_getElem? (i := 28) rfl))) (by decide) (backOf (W := 0) (rm3_1 l Z a0 hw [] w_OPEN w_COMMITTED w_ROLLED_BACK w_PARKED a1 h1 n0 (Nat.le_trans Z0 E1.1) HW) hZ1 (hw _ (List.mem_of_getElem? (i := 28) rfl)) (hw _ (List.mem_of_getElem? (i := 27) rfl)) (by decide) (by decide)) (g := (mkF m 3 #[.val (.ref w_OPEN), .val (.ref w_OPEN), .unset] [(.ref a1), (.ref w_OPEN)])) rfl (by rw [hml]; rfl) (argsL := [(.ref w_OPEN), (.ref a1)]) (rest := []) (lenOf pd21 rfl) rfl (by show 2 * 0 + _ ≤ _; exact Nat.le_of_eq rfl) (hb hby d2_3) (fun _ _ => ⟨rfl, e1, (by decide : 2 + 0 ≤ _), (by decide : 20 + 0 ≤ _)⟩)
  dsimp only [Pt.U, Pt.locs, Pt.cells, Pt.slots] at X2 l2 y2 z2 st2 hQ2
  subst l2 y2 z2
  obtain ⟨rfl, N2q, e2⟩ := hQ2
  have N2 := Fr.app N0 N2q
  obtain ⟨cq3, kq3, q3a, q3b, q3c⟩ := isOf hZ1 e2 E_w_OPEN
  obtain ⟨_, _, ⟨T3, L3, k3, n3⟩, -, X3, ⟨Lc3, hQ3, l3, y3, z3⟩, st3⟩ := X2.virtualBackUp hx (x := (⟨"com/example/clinch/clinch/broker/TransactionState", "ordinal", "()I"⟩ : MethodName)) (y := (⟨"java/lang/Enum", "ordinal", "()I"⟩ : MethodName)) hown1 (mvT hZ1 (hw _ (List.mem_of_getElem? (i := 29) rfl))) (mvT hZ1 (hw _ (List.mem_of_getElem? (i := 30) rfl))) (mvT hZ1 (hw _ (List.mem_of_getElem? (i := 31) rfl))) (by decide) (mvT hZ1 (hw _ (List.mem_of_getElem? (i := 33) rfl))) (mvT hZ1 (hw _ (List.mem_of_getElem? (i := 32) rfl))) (backOf (W := 0) (rm4_2 l Z a0 hw [] w_OPEN w_COMMITTED w_ROLLED_BACK w_PARKED h1 n0 (Nat.le_trans Z0 E1.1) HW) hZ1 (hw _ (List.mem_of_getElem? (i := 35) rfl)) (hw _ (List.mem_of_getElem? (i := 34) rfl)) (by decide) (by decide)) q3a q3c (g := (mkF m 8 #[.val (.ref w_OPEN), .val (.ref w_OPEN), .unset] [(.ref w_OPEN)])) rfl (by rw [hml]; rfl) (Steps.refl _) (argsL := []) (rest := []) (lenOf pd31 rfl) rfl (by show 2 * 0 + _ ≤ _; exact Nat.le_of_eq rfl) (hb hby d2_8) (fun _ _ => ⟨rfl, e2, (by decide : 2 + 0 ≤ _), (by decide : 20 + 0 ≤ _)⟩)
  dsimp only [Pt.U, Pt.locs, Pt.cells, Pt.slots] at X3 l3 y3 z3 st3 hQ3
  subst l3 y3 z3
  obtain ⟨rfl, N3q, e3⟩ := hQ3
  have N3 := Fr.app N2 N3q
  obtain ⟨T4, X4, e4, st4⟩ := getS2 X3 hx hZ1 hown1 (host := "") (Or.inl (hw _ (List.mem_of_getElem? (i := 38) rfl))) Via.refl e3 S_w_OPEN (g := (mkF m 51 #[.val (.ref w_OPEN), .val (.ref w_OPEN), .unset] [(.ref w_OPEN)])) rfl (hb hby d2_51)
  obtain ⟨fs, hr, hrun, hended, hW0, hW1, hW2, hsame⟩ := X4.leaveW hS1 (by rw [e4]; exact hk1) (v := some (.int (0 : Int32))) (fun h => by rw [Bd.returns] at h; cases h)
  refine ⟨_, _, pre0 _ ?_, hrun, hended, _, _, rfl, ?_, hW0, hW1, hW2, hsame.mono (by decide) (by decide)⟩
  · show Steps p.tables e below (s₁.setTop (mkF m 0 #[.val (.ref w_OPEN), .val (.ref w_OPEN), .unset] [])) _
    refine XS.aloadN X0s.here hx rfl (hb hby d2_0) rfl rfl ?_
    show Steps p.tables e below (s₁.setTop (mkF m 1 #[.val (.ref w_OPEN), .val (.ref w_OPEN), .unset] [(.ref w_OPEN)])) _
    refine st1 _ ?_
    show Steps p.tables e below (T1.setTop (mkF m 3 #[.val (.ref w_OPEN), .val (.ref w_OPEN), .unset] [(.ref a1), (.ref w_OPEN)])) _
    refine st2 _ ?_
    show Steps p.tables e below (T2.setTop (mkF m 6 #[.val (.ref w_OPEN), .val (.ref w_OPEN), .unset] [(.ref w_OPEN)])) _
    refine XS.pop X2.here hx rfl (hb hby d2_6) rfl rfl ?_
    show Steps p.tables e below (T2.setTop (mkF m 7 #[.val (.ref w_OPEN), .val (.ref w_OPEN), .unset] [])) _
    refine XS.aloadN X2.here hx rfl (hb hby d2_7) rfl rfl ?_
    show Steps p.tables e below (T2.setTop (mkF m 8 #[.val (.ref w_OPEN), .val (.ref w_OPEN), .unset] [(.ref w_OPEN)])) _
    refine st3.trans ?_
    show Steps p.tables e below (T3.setTop (mkF m 11 #[.val (.ref w_OPEN), .val (.ref w_OPEN), .unset] [(.int (0 : Int32))])) _
    refine XS.tswIn X3.here hx rfl (pc0 := 11) (pc' := 50) rfl (hb hby d2_11) rfl (by decide) (o := 39) (by decide) (by decide) (by decide) ?_
    show Steps p.tables e below (T3.setTop (mkF m 50 #[.val (.ref w_OPEN), .val (.ref w_OPEN), .unset] [])) _
    refine XS.aloadN X3.here hx rfl (hb hby d2_50) rfl rfl ?_
    show Steps p.tables e below (T3.setTop (mkF m 51 #[.val (.ref w_OPEN), .val (.ref w_OPEN), .unset] [(.ref w_OPEN)])) _
    refine st4 _ ?_
    show Steps p.tables e below (T4.setTop (mkF m 54 #[.val (.ref w_OPEN), .val (.ref w_OPEN), .unset] [(.ref w_OPEN), (.ref w_OPEN)])) _
    refine Jvm.RoadKit.acmp (g := (mkF m 54 #[.val (.ref w_OPEN), .val (.ref w_OPEN), .unset] [(.ref w_OPEN), (.ref w_OPEN)])) X4 hx rfl rfl rfl (pc0 := 54) (pc' := 61) (same := true) rfl (hb hby d2_54) rfl (decide_eq_true rfl) (by decide) (by decide) ?_
    show Steps p.tables e below (T4.setTop (mkF m 61 #[.val (.ref w_OPEN), .val (.ref w_OPEN), .unset] [])) _
    refine XS.iconst X4.here hx rfl (hb hby d2_61) ?_
    show Steps p.tables e below (T4.setTop (mkF m 62 #[.val (.ref w_OPEN), .val (.ref w_OPEN), .unset] [(.int (0 : Int32))])) _
    refine XS.goto X4.here hx rfl (pc0 := 62) (pc' := 73) rfl (hb hby d2_62) (by decide) (by decide) ?_
    show Steps p.tables e below (T4.setTop (mkF m 73 #[.val (.ref w_OPEN), .val (.ref w_OPEN), .unset] [(.int (0 : Int32))])) _
    refine XS.istoreN X4.here hx rfl (hb hby d2_73) rfl (l' := #[.val (.ref w_OPEN), .val (.ref w_OPEN), .val (.int (0 : Int32))]) rfl ?_
    show Steps p.tables e below (T4.setTop (mkF m 74 #[.val (.ref w_OPEN), .val (.ref w_OPEN), .val (.int (0 : Int32))] [])) _
    refine XS.iloadN X4.here hx rfl (hb hby d2_74) rfl ?_
    show Steps p.tables e below (T4.setTop (mkF m 75 #[.val (.ref w_OPEN), .val (.ref w_OPEN), .val (.int (0 : Int32))] [(.int (0 : Int32))])) _
    exact retN X4 hx (t := .boolean) Bd.returns (by simp) (hb hby d2_75) hr
  · exact ⟨rfl, N3, (by show Ext h0 T4.heap; rw [e4]; exact E1)⟩
theorem pd44 : parseMethodDescriptor "(Lcom/example/clinch/clinch/broker/TransactionState;)Z" = some ⟨[(.object "com/example/clinch/clinch/broker/TransactionState")], some .boolean⟩ := by decide +kernel
def Q3_4 (Z : State) (w_OPEN : Addr) (w_COMMITTED : Addr) (w_ROLLED_BACK : Addr) (w_PARKED : Addr) (q0 : Addr) (h0 : Heap) (n0 : Nat) (v : Option Value) (h : Heap) (L : List Loc) : Prop := v = some (.ref w_COMMITTED) ∧ Fr n0 L ∧ h = h0
set_option maxRecDepth 65536 in
set_option maxHeartbeats 40000000 in
theorem rm3_4 (l : Launch) (Z : State) (a0 : Array Value) (hw : ∀ d ∈ tables_1, d.before a0 Z = true) (ws : List Jvm.Cond) (w_OPEN : Addr) (w_COMMITTED : Addr) (w_ROLLED_BACK : Addr) (w_PARKED : Addr) (q0 : Addr) (h0 : Heap) (n0 : Nat) (Z0 : n0 ≤ h0.size) (HW : World Z h0 w_OPEN w_COMMITTED w_ROLLED_BACK w_PARKED) :
    MetFree l (⟨"java/util/Objects", "requireNonNull", "(Ljava/lang/Object;Ljava/lang/String;)Ljava/lang/Object;"⟩ : MethodName) (head1 (Jvm.Cond.code (⟨"java/util/Objects", "requireNonNull", "(Ljava/lang/Object;Ljava/lang/String;)Ljava/lang/Object;"⟩ : MethodName) jdk_31_method_11_code 2 (some (.object "java/lang/Object")) :: ws) ({ frames := 0, cells := 0, slots := 0, locals := 0 } : Room)) (fun a U => a = #[(.ref w_COMMITTED), (.ref q0)] ∧ Z.Warmed39 U.vm ∧ U.heap = h0) (fun _ _ _ _ _ => True) (fun _ U o U' => ∃ v L, o = .returned v ∧ Q3_4 Z w_OPEN w_COMMITTED w_ROLLED_BACK w_PARKED q0 h0 n0 v U'.heap L ∧ FrameEnd U o U' L ({ frames := 0, cells := 0, slots := 0, locals := 0 } : Room).cells ({ frames := 0, cells := 0, slots := 0, locals := 0 } : Room).slots) := by
  refine MetFree.of_bodySF (plainFor_of_name pn20) hisR ?_
  intro p e s m args below meth c s₁ Bd hml0 hP hK
  obtain ⟨rfl, hZ, hh⟩ := hP
  have hx := Bd.exec
  have hby := Bd.bytes
  have hml : c.maxLocals = 2 := hml0
  have hown : s.vm.findClass "java/util/Objects" = some m.cls := findClass_of_methodNamed Bd.named
  have X0 : Stand p l e ({ frames := 0, cells := 0, slots := 0, locals := 0 } : Room) s m #[(.ref w_COMMITTED), (.ref q0)] below meth c s₁ [] 0 0 := Stand.of_body Bd
  have e0 : s₁.heap = h0 := by rw [← hh, Bd.state]; rfl
  have N0 := Fr.nil n0
  have pre0 : ∀ t, Steps p.tables e below (s₁.setTop (mkF m 0 #[.val (.ref w_COMMITTED), .val (.ref q0)] [])) t → Steps p.tables e below (s₁.setTop (entryFrame m #[(.ref w_COMMITTED), (.ref q0)] 2)) t := fun t k => castTop (ef19 m w_COMMITTED q0) k
  obtain ⟨S_w_OPEN, E_w_OPEN, S_w_COMMITTED, E_w_COMMITTED, S_w_ROLLED_BACK, E_w_ROLLED_BACK, S_w_PARKED, E_w_PARKED, F_ordinal_w_OPEN, F_ordinal_w_COMMITTED, F_ordinal_w_ROLLED_BACK, F_ordinal_w_PARKED, ne_w_OPEN_w_COMMITTED, ne_w_OPEN_w_ROLLED_BACK, ne_w_OPEN_w_PARKED, ne_w_COMMITTED_w_ROLLED_BACK, ne_w_COMMITTED_w_PARKED, ne_w_ROLLED_BACK_w_PARKED, -⟩ := id HW
  obtain ⟨fs, hr, hrun, hended, hW, hsame⟩ := X0.leave (v := some (.ref w_COMMITTED)) (fun h => by rw [Bd.returns] at h; cases h)
  refine ⟨_, _, pre0 _ ?_, hrun, hended, _, _, rfl, ?_, ⟨_, rfl⟩, hW, hsame.mono (by decide) (by decide)⟩
  · show Steps p.tables e below (s₁.setTop (mkF m 0 #[.val (.ref w_COMMITTED), .val (.ref q0)] [])) _
    refine XS.aloadN X0.here hx rfl (hb hby d3_0) rfl rfl ?_
    show Steps p.tables e below (s₁.setTop (mkF m 1 #[.val (.ref w_COMMITTED), .val (.ref q0)] [(.ref w_COMMITTED)])) _
    refine XS.ifnonnullYes X0.here hx rfl (pc0 := 1) (pc' := 13) rfl (hb hby d3_1) rfl (by decide) (by decide) ?_
    show Steps p.tables e below (s₁.setTop (mkF m 13 #[.val (.ref w_COMMITTED), .val (.ref q0)] [])) _
    refine XS.aloadN X0.here hx rfl (hb hby d3_13) rfl rfl ?_
    show Steps p.tables e below (s₁.setTop (mkF m 14 #[.val (.ref w_COMMITTED), .val (.ref q0)] [(.ref w_COMMITTED)])) _
    jvm_step X0.here [X0.here.top, hx, (hb hby d3_14), X0.method', Bd.returns, Value.isRef, FieldType.isReference]
    first | (intro acts; rw [hr _ acts rfl rfl rfl]) | rw [hr _ _ rfl rfl rfl]
    exact Steps.refl _
  · exact ⟨rfl, N0, e0⟩
theorem d2_57 : decode prog_17_method_5_code 57 = .ok (.iconst 1, 1) := by decide +kernel
theorem d2_58 : decode prog_17_method_5_code 58 = .ok (.goto 15, 3) := by decide +kernel
def Q2_5 (Z : State) (w_OPEN : Addr) (w_COMMITTED : Addr) (w_ROLLED_BACK : Addr) (w_PARKED : Addr) (h0 : Heap) (n0 : Nat) (v : Option Value) (h : Heap) (L : List Loc) : Prop := v = some (.int (1 : Int32)) ∧ Fr n0 L ∧ Ext h0 h
set_option maxRecDepth 65536 in
set_option maxHeartbeats 40000000 in
theorem rm2_5 (l : Launch) (Z : State) (a0 : Array Value) (hw : ∀ d ∈ tables_1, d.before a0 Z = true) (ws : List Jvm.Cond) (w_OPEN : Addr) (w_COMMITTED : Addr) (w_ROLLED_BACK : Addr) (w_PARKED : Addr) (h0 : Heap) (n0 : Nat) (Z0 : n0 ≤ h0.size) (HW : World Z h0 w_OPEN w_COMMITTED w_ROLLED_BACK w_PARKED) :
    MetFree l (⟨"com/example/clinch/clinch/broker/TransactionState", "canMoveTo", "(Lcom/example/clinch/clinch/broker/TransactionState;)Z"⟩ : MethodName) (head1 (Jvm.Cond.code (⟨"com/example/clinch/clinch/broker/TransactionState", "canMoveTo", "(Lcom/example/clinch/clinch/broker/TransactionState;)Z"⟩ : MethodName) prog_17_method_5_code 3 (some .boolean) :: ws) ({ frames := 1, cells := 2, slots := 20, locals := 13 } : Room)) (fun a U => a = #[(.ref w_OPEN), (.ref w_COMMITTED)] ∧ Z.Warmed39 U.vm ∧ U.heap = h0) (fun _ _ _ _ _ => True) (fun _ U o U' => ∃ v L, o = .returned v ∧ Q2_5 Z w_OPEN w_COMMITTED w_ROLLED_BACK w_PARKED h0 n0 v U'.heap L ∧ ReturnedEndW U o U' L ({ frames := 1, cells := 2, slots := 20, locals := 13 } : Room).cells ({ frames := 1, cells := 2, slots := 20, locals := 13 } : Room).slots) := by
  refine MetFree.of_bodySF (plainFor_of_name pn10) hisR ?_
  intro p e s m args below meth c s₁ Bd hml0 hP hK
  obtain ⟨rfl, hZ, hh⟩ := hP
  have hx := Bd.exec
  have hby := Bd.bytes
  have hml : c.maxLocals = 3 := hml0
  have hown : s.vm.findClass "com/example/clinch/clinch/broker/TransactionState" = some m.cls := findClass_of_methodNamed Bd.named
  have X0 : Stand p l e ({ frames := 1, cells := 2, slots := 20, locals := 13 } : Room) s m #[(.ref w_OPEN), (.ref w_COMMITTED)] below meth c s₁ [] 0 0 := Stand.of_body Bd
  have e0 : s₁.heap = h0 := by rw [← hh, Bd.state]; rfl
  have N0 := Fr.nil n0
  have pre0 : ∀ t, Steps p.tables e below (s₁.setTop (mkF m 0 #[.val (.ref w_OPEN), .val (.ref w_COMMITTED), .unset] [])) t → Steps p.tables e below (s₁.setTop (entryFrame m #[(.ref w_OPEN), (.ref w_COMMITTED)] 3)) t := fun t k => castTop (ef43 m w_OPEN w_COMMITTED) k
  have X0s : Stand p l e ({ frames := 1, cells := 2, slots := 20, locals := 13 } : Room) (s.setVm s.vm) m #[(.ref w_OPEN), (.ref w_COMMITTED)] below meth c s₁ [] 0 0 := X0
  have hZ0 : Z.Warmed39 (s.setVm s.vm).vm := hZ
  have hown0 : (s.setVm s.vm).vm.findClass "com/example/clinch/clinch/broker/TransactionState" = some m.cls := hown
  have hS0 := own_since s
  obtain ⟨S_w_OPEN, E_w_OPEN, S_w_COMMITTED, E_w_COMMITTED, S_w_ROLLED_BACK, E_w_ROLLED_BACK, S_w_PARKED, E_w_PARKED, F_ordinal_w_OPEN, F_ordinal_w_COMMITTED, F_ordinal_w_ROLLED_BACK, F_ordinal_w_PARKED, ne_w_OPEN_w_COMMITTED, ne_w_OPEN_w_ROLLED_BACK, ne_w_OPEN_w_PARKED, ne_w_COMMITTED_w_ROLLED_BACK, ne_w_COMMITTED_w_PARKED, ne_w_ROLLED_BACK_w_PARKED, -⟩ := id HW
  obtain ⟨a1, T1, h1, kk1, X1, e1, E1, hS1, hk1, hZ1, hown1, st1⟩ := ldcS X0s hx hZ0 hown0 (hw _ (List.mem_of_getElem? (i := 17) rfl)) (own_wS hw) e0 hS0 (Nat.zero_le _) (g := (mkF m 1 #[.val (.ref w_OPEN), .val (.ref w_COMMITTED), .unset] [(.ref w_COMMITTED)])) rfl (hb hby d2_1) (n := 16) (by decide) (by decide) (by decide) (by decide)
  replace HW := HW.ext E1
  obtain ⟨S_w_OPEN, E_w_OPEN, S_w_COMMITTED, E_w_COMMITTED, S_w_ROLLED_BACK, E_w_ROLLED_BACK, S_w_PARKED, E_w_PARKED, F_ordinal_w_OPEN, F_ordinal_w_COMMITTED, F_ordinal_w_ROLLED_BACK, F_ordinal_w_PARKED, ne_w_OPEN_w_COMMITTED, ne_w_OPEN_w_ROLLED_BACK, ne_w_OPEN_w_PARKED, ne_w_COMMITTED_w_ROLLED_BACK, ne_w_COMMITTED_w_PARKED, ne_w_ROLLED_BACK_w_PARKED, -⟩ := id HW
  obtain ⟨_, _, ⟨T2, L2, k2, n2⟩, -, X2, ⟨Lc2, hQ2, l2, y2, z2⟩, st2⟩ := Jvm.LawKit.callS X1 hx (y := (⟨"java/util/Objects", "requireNonNull", "(Ljava/lang/Object;Ljava/lang/String;)Ljava/lang/Object;"⟩ : MethodName)) hown1 (mvT hZ1 (hw _ (List.mem_of_getElem? (i := 25) rfl))) (mvT hZ1 (hw _ (List.mem_of_getElem? (i := 26) rfl))) (mvT hZ1 (hw _ (List.mem_of_getElem? (i := 27) rfl))) (mvT hZ1 (hw _ (List.mem_of_getElem? (i := 28) rfl))) (by decide) (backOf (W := 0) (rm3_4 l Z a0 hw [] w_OPEN w_COMMITTED w_ROLLED_BACK w_PARKED a1 h1 n0 (Nat.le_trans Z0 E1.1) HW) hZ1 (hw _ (List.mem_of_getElem? (i := 28) rfl)) (hw _ (List.mem_of_getElem? (i := 27) rfl)) (by decide) (by decide)) (g := (mkF m 3 #[.val (.ref w_OPEN), .val (.ref w_COMMITTED), .unset] [(.ref a1), (.ref w_COMMITTED)])) rfl (by rw [hml]; rfl) (argsL := [(.ref w_COMMITTED), (.ref a1)]) (rest := []) (lenOf pd21 rfl) rfl (by show 2 * 0 + _ ≤ _; exact Nat.le_of_eq rfl) (hb hby d2_3) (fun _ _ => ⟨rfl, e1, (by decide : 2 + 0 ≤ _), (by decide : 20 + 0 ≤ _)⟩)
  dsimp only [Pt.U, Pt.locs, Pt.cells, Pt.slots] at X2 l2 y2 z2 st2 hQ2
  subst l2 y2 z2
  obtain ⟨rfl, N2q, e2⟩ := hQ2
  have N2 := Fr.app N0 N2q
  obtain ⟨cq3, kq3, q3a, q3b, q3c⟩ := isOf hZ1 e2 E_w_OPEN
  obtain ⟨_, _, ⟨T3, L3, k3, n3⟩, -, X3, ⟨Lc3, hQ3, l3, y3, z3⟩, st3⟩ := X2.virtualBackUp hx (x := (⟨"com/example/clinch/clinch/broker/TransactionState", "ordinal", "()I"⟩ : MethodName)) (y := (⟨"java/lang/Enum", "ordinal", "()I"⟩ : MethodName)) hown1 (mvT hZ1 (hw _ (List.mem_of_getElem? (i := 29) rfl))) (mvT hZ1 (hw _ (List.mem_of_getElem? (i := 30) rfl))) (mvT hZ1 (hw _ (List.mem_of_getElem? (i := 31) rfl))) (by decide) (mvT hZ1 (hw _ (List.mem_of_getElem? (i := 33) rfl))) (mvT hZ1 (hw _ (List.mem_of_getElem? (i := 32) rfl))) (backOf (W := 0) (rm4_2 l Z a0 hw [] w_OPEN w_COMMITTED w_ROLLED_BACK w_PARKED h1 n0 (Nat.le_trans Z0 E1.1) HW) hZ1 (hw _ (List.mem_of_getElem? (i := 35) rfl)) (hw _ (List.mem_of_getElem? (i := 34) rfl)) (by decide) (by decide)) q3a q3c (g := (mkF m 8 #[.val (.ref w_OPEN), .val (.ref w_COMMITTED), .unset] [(.ref w_OPEN)])) rfl (by rw [hml]; rfl) (Steps.refl _) (argsL := []) (rest := []) (lenOf pd31 rfl) rfl (by show 2 * 0 + _ ≤ _; exact Nat.le_of_eq rfl) (hb hby d2_8) (fun _ _ => ⟨rfl, e2, (by decide : 2 + 0 ≤ _), (by decide : 20 + 0 ≤ _)⟩)
  dsimp only [Pt.U, Pt.locs, Pt.cells, Pt.slots] at X3 l3 y3 z3 st3 hQ3
  subst l3 y3 z3
  obtain ⟨rfl, N3q, e3⟩ := hQ3
  have N3 := Fr.app N2 N3q
  obtain ⟨T4, X4, e4, st4⟩ := getS2 X3 hx hZ1 hown1 (host := "") (Or.inl (hw _ (List.mem_of_getElem? (i := 38) rfl))) Via.refl e3 S_w_OPEN (g := (mkF m 51 #[.val (.ref w_OPEN), .val (.ref w_COMMITTED), .unset] [(.ref w_COMMITTED)])) rfl (hb hby d2_51)
  obtain ⟨fs, hr, hrun, hended, hW0, hW1, hW2, hsame⟩ := X4.leaveW hS1 (by rw [e4]; exact hk1) (v := some (.int (1 : Int32))) (fun h => by rw [Bd.returns] at h; cases h)
  refine ⟨_, _, pre0 _ ?_, hrun, hended, _, _, rfl, ?_, hW0, hW1, hW2, hsame.mono (by decide) (by decide)⟩
  · show Steps p.tables e below (s₁.setTop (mkF m 0 #[.val (.ref w_OPEN), .val (.ref w_COMMITTED), .unset] [])) _
    refine XS.aloadN X0s.here hx rfl (hb hby d2_0) rfl rfl ?_
    show Steps p.tables e below (s₁.setTop (mkF m 1 #[.val (.ref w_OPEN), .val (.ref w_COMMITTED), .unset] [(.ref w_COMMITTED)])) _
    refine st1 _ ?_
    show Steps p.tables e below (T1.setTop (mkF m 3 #[.val (.ref w_OPEN), .val (.ref w_COMMITTED), .unset] [(.ref a1), (.ref w_COMMITTED)])) _
    refine st2 _ ?_
    show Steps p.tables e below (T2.setTop (mkF m 6 #[.val (.ref w_OPEN), .val (.ref w_COMMITTED), .unset] [(.ref w_COMMITTED)])) _
    refine XS.pop X2.here hx rfl (hb hby d2_6) rfl rfl ?_
    show Steps p.tables e below (T2.setTop (mkF m 7 #[.val (.ref w_OPEN), .val (.ref w_COMMITTED), .unset] [])) _
    refine XS.aloadN X2.here hx rfl (hb hby d2_7) rfl rfl ?_
    show Steps p.tables e below (T2.setTop (mkF m 8 #[.val (.ref w_OPEN), .val (.ref w_COMMITTED), .unset] [(.ref w_OPEN)])) _
    refine st3.trans ?_
    show Steps p.tables e below (T3.setTop (mkF m 11 #[.val (.ref w_OPEN), .val (.ref w_COMMITTED), .unset] [(.int (0 : Int32))])) _
    refine XS.tswIn X3.here hx rfl (pc0 := 11) (pc' := 50) rfl (hb hby d2_11) rfl (by decide) (o := 39) (by decide) (by decide) (by decide) ?_
    show Steps p.tables e below (T3.setTop (mkF m 50 #[.val (.ref w_OPEN), .val (.ref w_COMMITTED), .unset] [])) _
    refine XS.aloadN X3.here hx rfl (hb hby d2_50) rfl rfl ?_
    show Steps p.tables e below (T3.setTop (mkF m 51 #[.val (.ref w_OPEN), .val (.ref w_COMMITTED), .unset] [(.ref w_COMMITTED)])) _
    refine st4 _ ?_
    show Steps p.tables e below (T4.setTop (mkF m 54 #[.val (.ref w_OPEN), .val (.ref w_COMMITTED), .unset] [(.ref w_OPEN), (.ref w_COMMITTED)])) _
    refine Jvm.RoadKit.acmp (g := (mkF m 54 #[.val (.ref w_OPEN), .val (.ref w_COMMITTED), .unset] [(.ref w_OPEN), (.ref w_COMMITTED)])) X4 hx rfl rfl rfl (pc0 := 54) (pc' := 57) (same := false) rfl (hb hby d2_54) rfl (decide_eq_false fun q => ne_w_OPEN_w_COMMITTED (Value.ref.inj q).symm) (by decide) (by decide) ?_
    show Steps p.tables e below (T4.setTop (mkF m 57 #[.val (.ref w_OPEN), .val (.ref w_COMMITTED), .unset] [])) _
    refine XS.iconst X4.here hx rfl (hb hby d2_57) ?_
    show Steps p.tables e below (T4.setTop (mkF m 58 #[.val (.ref w_OPEN), .val (.ref w_COMMITTED), .unset] [(.int (1 : Int32))])) _
    refine XS.goto X4.here hx rfl (pc0 := 58) (pc' := 73) rfl (hb hby d2_58) (by decide) (by decide) ?_
    show Steps p.tables e below (T4.setTop (mkF m 73 #[.val (.ref w_OPEN), .val (.ref w_COMMITTED), .unset] [(.int (1 : Int32))])) _
    refine XS.istoreN X4.here hx rfl (hb hby d2_73) rfl (l' := #[.val (.ref w_OPEN), .val (.ref w_COMMITTED), .val (.int (1 : Int32))]) rfl ?_
    show Steps p.tables e below (T4.setTop (mkF m 74 #[.val (.ref w_OPEN), .val (.ref w_COMMITTED), .val (.int (1 : Int32))] [])) _
    refine XS.iloadN X4.here hx rfl (hb hby d2_74) rfl ?_
    show Steps p.tables e below (T4.setTop (mkF m 75 #[.val (.ref w_OPEN), .val (.ref w_COMMITTED), .val (.int (1 : Int32))] [(.int (1 : Int32))])) _
    exact retN X4 hx (t := .boolean) Bd.returns (by simp) (hb hby d2_75) hr
  · exact ⟨rfl, N3, (by show Ext h0 T4.heap; rw [e4]; exact E1)⟩
theorem ef50 (m : MethodId) (x0 : Int32) : entryFrame m #[(.int x0)] maxLocals = mkF m 0 #[.val (.int x0), .unset, .unset, .unset, .unset, .unset] [] := by first | (simp [entryFrame, mkF, argsToLocals, Value.category, maxLocals]; done) | rfl
theorem pn51 : plainName "com/example/clinch/clinch/broker/TransactionStateIsFinalPinLaw" = true := by first | (simp [plainName, overriddenIn]; done) | decide +kernel
def Q0 (h0 : Heap) (n0 : Nat) (v : Option Value) (h : Heap) (L : List Loc) : Prop := v = some (.int (1 : Int32)) ∧ Fr n0 L
set_option maxRecDepth 65536 in
set_option maxHeartbeats 40000000 in
theorem rm0_c0 (l : Launch) (Z : State) (a0 : Array Value) (hw : ∀ d ∈ tables_1, d.before a0 Z = true) (ws : List Jvm.Cond) (w_OPEN : Addr) (w_COMMITTED : Addr) (w_ROLLED_BACK : Addr) (w_PARKED : Addr) (p1 : Int32) (h0 : Heap) (n0 : Nat) (Z0 : n0 ≤ h0.size) (HW : World Z h0 w_OPEN w_COMMITTED w_ROLLED_BACK w_PARKED) (hk : (p1 &&& (3 : Int32)) = (0 : Int32)) :
    MetFree l x (head1 (Jvm.Cond.code x code maxLocals ret :: ws) room_1) (fun a U => a = #[(.int p1)] ∧ Z.Warmed39 U.vm ∧ U.heap = h0) (fun _ _ _ _ _ => True) (fun _ U o U' => ∃ v L, o = .returned v ∧ Q0 h0 n0 v U'.heap L ∧ ReturnedEndW U o U' L room_1.cells room_1.slots) := by
  refine MetFree.of_bodySF (plainFor_of_name pn51) hisR ?_
  intro p e s m args below meth c s₁ Bd hml0 hP hK
  obtain ⟨rfl, hZ, hh⟩ := hP
  have hx := Bd.exec
  have hby := Bd.bytes
  have hml : c.maxLocals = 6 := hml0
  have hown : s.vm.findClass "com/example/clinch/clinch/broker/TransactionStateIsFinalPinLaw" = some m.cls := findClass_of_methodNamed Bd.named
  have X0 : Stand p l e room_1 s m #[(.int p1)] below meth c s₁ [] 0 0 := Stand.of_body Bd
  have e0 : s₁.heap = h0 := by rw [← hh, Bd.state]; rfl
  have N0 := Fr.nil n0
  have pre0 : ∀ t, Steps p.tables e below (s₁.setTop (mkF m 0 #[.val (.int p1), .unset, .unset, .unset, .unset, .unset] [])) t → Steps p.tables e below (s₁.setTop (entryFrame m #[(.int p1)] maxLocals)) t := fun t k => castTop (ef50 m p1) k
  have X0s : Stand p l e room_1 (s.setVm s.vm) m #[(.int p1)] below meth c s₁ [] 0 0 := X0
  have hZ0 : Z.Warmed39 (s.setVm s.vm).vm := hZ
  have hown0 : (s.setVm s.vm).vm.findClass "com/example/clinch/clinch/broker/TransactionStateIsFinalPinLaw" = some m.cls := hown
  have hS0 := own_since s
  obtain ⟨S_w_OPEN, E_w_OPEN, S_w_COMMITTED, E_w_COMMITTED, S_w_ROLLED_BACK, E_w_ROLLED_BACK, S_w_PARKED, E_w_PARKED, F_ordinal_w_OPEN, F_ordinal_w_COMMITTED, F_ordinal_w_ROLLED_BACK, F_ordinal_w_PARKED, ne_w_OPEN_w_COMMITTED, ne_w_OPEN_w_ROLLED_BACK, ne_w_OPEN_w_PARKED, ne_w_COMMITTED_w_ROLLED_BACK, ne_w_COMMITTED_w_PARKED, ne_w_ROLLED_BACK_w_PARKED, -⟩ := id HW
  obtain ⟨T1, X1, e1, st1⟩ := getS2 X0s hx hZ0 hown0 (host := "") (Or.inl (hw _ (List.mem_of_getElem? (i := 0) rfl))) Via.refl e0 S_w_OPEN (g := (mkF m 8 #[.val (.int p1), .val (.int (0 : Int32)), .unset, .unset, .unset, .unset] [])) rfl (hb hby at_8)
  obtain ⟨cq2, kq2, q2a, q2b, q2c⟩ := isOf hZ0 e1 E_w_OPEN
  obtain ⟨_, _, ⟨T2, L2, k2, n2⟩, -, X2, ⟨Lc2, hQ2, l2, y2, z2⟩, st2⟩ := X1.virtualBack hx (y := (⟨"com/example/clinch/clinch/broker/TransactionState", "isFinal", "()Z"⟩ : MethodName)) (z := (⟨"com/example/clinch/clinch/broker/TransactionState", "isFinal", "()Z"⟩ : MethodName)) hown0 (mvT hZ0 (hw _ (List.mem_of_getElem? (i := 3) rfl))) (mvT hZ0 (hw _ (List.mem_of_getElem? (i := 4) rfl))) (notFace_of_selects (args := #[]) (mvT hZ0 (hw _ (List.mem_of_getElem? (i := 6) rfl)))) (mvT hZ0 (hw _ (List.mem_of_getElem? (i := 6) rfl))) (mvT hZ0 (hw _ (List.mem_of_getElem? (i := 5) rfl))) (by decide) (backOf (W := 0) (rm1_0 l Z a0 hw [] w_OPEN w_COMMITTED w_ROLLED_BACK w_PARKED h0 n0 Z0 HW) hZ0 (hw _ (List.mem_of_getElem? (i := 7) rfl)) (hw _ (List.mem_of_getElem? (i := 1) rfl)) (by decide) (by decide)) q2a q2c (g := (mkF m 44 #[.val (.int p1), .val (.int (0 : Int32)), .val (.ref w_OPEN), .unset, .unset, .unset] [(.ref w_OPEN)])) rfl (by rw [hml]; rfl) (Steps.refl _) (argsL := []) (rest := []) (lenOf pd11 rfl) rfl (by show 2 * 0 + _ ≤ _; exact Nat.le_of_eq rfl) (hb hby at_44) (fun _ _ => ⟨rfl, e1, (by decide : 0 + 0 ≤ _), (by decide : 0 + 0 ≤ _)⟩)
  dsimp only [Pt.U, Pt.locs, Pt.cells, Pt.slots] at X2 l2 y2 z2 st2 hQ2
  subst l2 y2 z2
  obtain ⟨rfl, N2q, e2⟩ := hQ2
  have N2 := Fr.app N0 N2q
  obtain ⟨T3, X3, e3, st3⟩ := getS2 X2 hx hZ0 hown0 (host := "") (Or.inl (hw _ (List.mem_of_getElem? (i := 0) rfl))) Via.refl e2 S_w_OPEN (g := (mkF m 66 #[.val (.int p1), .val (.int (0 : Int32)), .val (.ref w_OPEN), .val (.int (0 : Int32)), .val (.int (0 : Int32)), .unset] [(.ref w_OPEN)])) rfl (hb hby at_66)
  obtain ⟨cq4, kq4, q4a, q4b, q4c⟩ := isOf hZ0 e3 E_w_OPEN
  obtain ⟨_, _, ⟨T4, L4, k4, n4⟩, -, X4, hS4, G4, ⟨Lc4, hQ4, l4, y4, z4⟩, st4⟩ := X3.virtualBackS hx (y := (⟨"com/example/clinch/clinch/broker/TransactionState", "canMoveTo", "(Lcom/example/clinch/clinch/broker/TransactionState;)Z"⟩ : MethodName)) (z := (⟨"com/example/clinch/clinch/broker/TransactionState", "canMoveTo", "(Lcom/example/clinch/clinch/broker/TransactionState;)Z"⟩ : MethodName)) hown0 (mvT hZ0 (hw _ (List.mem_of_getElem? (i := 12) rfl))) (mvT hZ0 (hw _ (List.mem_of_getElem? (i := 13) rfl))) (notFace_of_selects (args := #[]) (mvT hZ0 (hw _ (List.mem_of_getElem? (i := 15) rfl)))) (mvT hZ0 (hw _ (List.mem_of_getElem? (i := 15) rfl))) (mvT hZ0 (hw _ (List.mem_of_getElem? (i := 14) rfl))) (by decide) (backOfS (W := 0) (rm2_3 l Z a0 hw [] w_OPEN w_COMMITTED w_ROLLED_BACK w_PARKED h0 n0 Z0 HW) hZ0 (hw _ (List.mem_of_getElem? (i := 16) rfl)) (hw _ (List.mem_of_getElem? (i := 1) rfl)) (by decide) (by decide)) q4a q4c (g := (mkF m 69 #[.val (.int p1), .val (.int (0 : Int32)), .val (.ref w_OPEN), .val (.int (0 : Int32)), .val (.int (0 : Int32)), .unset] [(.ref w_OPEN), (.ref w_OPEN)])) rfl (by rw [hml]; rfl) (Steps.refl _) (argsL := [(.ref w_OPEN)]) (rest := []) (lenOf pd44 rfl) rfl (by show 2 * 0 + _ ≤ _; exact Nat.le_of_eq rfl) (hb hby at_69) (fun _ _ => ⟨rfl, e3, (by decide : 0 + 2 ≤ _), (by decide : 0 + 20 ≤ _)⟩)
  dsimp only [Pt.U, Pt.locs, Pt.cells, Pt.slots] at X4 l4 y4 z4 st4 hQ4 hS4 G4
  subst l4 y4 z4
  obtain ⟨X4, hS4, hZ4, hown4⟩ := rebS hS0 (by rw [e3]; exact (Nat.zero_le _)) X4 hS4 G4 hZ0 hown0
  obtain ⟨rfl, N4q, E4⟩ := hQ4
  replace HW := HW.ext E4
  obtain ⟨S_w_OPEN, E_w_OPEN, S_w_COMMITTED, E_w_COMMITTED, S_w_ROLLED_BACK, E_w_ROLLED_BACK, S_w_PARKED, E_w_PARKED, F_ordinal_w_OPEN, F_ordinal_w_COMMITTED, F_ordinal_w_ROLLED_BACK, F_ordinal_w_PARKED, ne_w_OPEN_w_COMMITTED, ne_w_OPEN_w_ROLLED_BACK, ne_w_OPEN_w_PARKED, ne_w_COMMITTED_w_ROLLED_BACK, ne_w_COMMITTED_w_PARKED, ne_w_ROLLED_BACK_w_PARKED, -⟩ := id HW
  have N4 := Fr.app N2 N4q
  obtain ⟨T5, X5, e5, st5⟩ := getS2 X4 hx hZ4 hown4 (host := "") (Or.inl (hw _ (List.mem_of_getElem? (i := 39) rfl))) Via.refl rfl S_w_COMMITTED (g := (mkF m 76 #[.val (.int p1), .val (.int (0 : Int32)), .val (.ref w_OPEN), .val (.int (0 : Int32)), .val (.int (0 : Int32)), .unset] [(.ref w_OPEN)])) rfl (hb hby at_76)
  obtain ⟨cq6, kq6, q6a, q6b, q6c⟩ := isOf hZ4 e5 E_w_OPEN
  obtain ⟨_, _, ⟨T6, L6, k6, n6⟩, -, X6, hS6, G6, ⟨Lc6, hQ6, l6, y6, z6⟩, st6⟩ := X5.virtualBackS hx (y := (⟨"com/example/clinch/clinch/broker/TransactionState", "canMoveTo", "(Lcom/example/clinch/clinch/broker/TransactionState;)Z"⟩ : MethodName)) (z := (⟨"com/example/clinch/clinch/broker/TransactionState", "canMoveTo", "(Lcom/example/clinch/clinch/broker/TransactionState;)Z"⟩ : MethodName)) hown4 (mvT hZ4 (hw _ (List.mem_of_getElem? (i := 12) rfl))) (mvT hZ4 (hw _ (List.mem_of_getElem? (i := 13) rfl))) (notFace_of_selects (args := #[]) (mvT hZ4 (hw _ (List.mem_of_getElem? (i := 15) rfl)))) (mvT hZ4 (hw _ (List.mem_of_getElem? (i := 15) rfl))) (mvT hZ4 (hw _ (List.mem_of_getElem? (i := 14) rfl))) (by decide) (backOfS (W := 0) (rm2_5 l Z a0 hw [] w_OPEN w_COMMITTED w_ROLLED_BACK w_PARKED T4.heap n0 (Nat.le_trans Z0 E4.1) HW) hZ4 (hw _ (List.mem_of_getElem? (i := 16) rfl)) (hw _ (List.mem_of_getElem? (i := 1) rfl)) (by decide) (by decide)) q6a q6c (g := (mkF m 79 #[.val (.int p1), .val (.int (0 : Int32)), .val (.ref w_OPEN), .val (.int (0 : Int32)), .val (.int (0 : Int32)), .unset] [(.ref w_COMMITTED), (.ref w_OPEN)])) rfl (by rw [hml]; rfl) (Steps.refl _) (argsL := [(.ref w_COMMITTED)]) (rest := []) (lenOf pd44 rfl) rfl (by show 2 * 0 + _ ≤ _; exact Nat.le_of_eq rfl) (hb hby at_79) (fun _ _ => ⟨rfl, e5, (by decide : 2 + 2 ≤ _), (by decide : 20 + 20 ≤ _)⟩)
  dsimp only [Pt.U, Pt.locs, Pt.cells, Pt.slots] at X6 l6 y6 z6 st6 hQ6 hS6 G6
  subst l6 y6 z6
  obtain ⟨X6, hS6, hZ6, hown6⟩ := rebS hS4 (by rw [e5]; exact (Nat.le_refl _)) X6 hS6 G6 hZ4 hown4
  obtain ⟨rfl, N6q, E6⟩ := hQ6
  replace HW := HW.ext E6
  obtain ⟨S_w_OPEN, E_w_OPEN, S_w_COMMITTED, E_w_COMMITTED, S_w_ROLLED_BACK, E_w_ROLLED_BACK, S_w_PARKED, E_w_PARKED, F_ordinal_w_OPEN, F_ordinal_w_COMMITTED, F_ordinal_w_ROLLED_BACK, F_ordinal_w_PARKED, ne_w_OPEN_w_COMMITTED, ne_w_OPEN_w_ROLLED_BACK, ne_w_OPEN_w_PARKED, ne_w_COMMITTED_w_ROLLED_BACK, ne_w_COMMITTED_w_PARKED, ne_w_ROLLED_BACK_w_PARKED, -⟩ := id HW
  have N6 := Fr.app N4 N6q
  obtain ⟨fs, hr, hrun, hended, hW0, hW1, hW2, hsame⟩ := X6.leaveW hS6 (Nat.le_refl _) (v := some (.int (1 : Int32))) (fun h => by rw [Bd.returns] at h; cases h)
  refine ⟨_, _, pre0 _ ?_, hrun, hended, _, _, rfl, ?_, hW0, hW1, hW2, hsame.mono (by decide) (by decide)⟩
  · show Steps p.tables e below (s₁.setTop (mkF m 0 #[.val (.int p1), .unset, .unset, .unset, .unset, .unset] [])) _
    refine XS.iloadN X0s.here hx rfl (hb hby at_0) rfl ?_
    show Steps p.tables e below (s₁.setTop (mkF m 1 #[.val (.int p1), .unset, .unset, .unset, .unset, .unset] [(.int p1)])) _
    refine XS.iconst X0s.here hx rfl (hb hby at_1) ?_
    show Steps p.tables e below (s₁.setTop (mkF m 2 #[.val (.int p1), .unset, .unset, .unset, .unset, .unset] [(.int (3 : Int32)), (.int p1)])) _
    refine XS.iand X0s.here hx rfl (hb hby at_2) rfl ?_
    rw [hk]
    show Steps p.tables e below (s₁.setTop (mkF m 3 #[.val (.int p1), .unset, .unset, .unset, .unset, .unset] [(.int (0 : Int32))])) _
    refine XS.istoreN X0s.here hx rfl (hb hby at_3) rfl (l' := #[.val (.int p1), .val (.int (0 : Int32)), .unset, .unset, .unset, .unset]) rfl ?_
    show Steps p.tables e below (s₁.setTop (mkF m 4 #[.val (.int p1), .val (.int (0 : Int32)), .unset, .unset, .unset, .unset] [])) _
    refine XS.iloadN X0s.here hx rfl (hb hby at_4) rfl ?_
    show Steps p.tables e below (s₁.setTop (mkF m 5 #[.val (.int p1), .val (.int (0 : Int32)), .unset, .unset, .unset, .unset] [(.int (0 : Int32))])) _
    refine XS.ifNo X0s.here hx rfl (hb hby at_5) rfl ((if0 _ _).trans (teq (by decide : (0 : Int32) = (0 : Int32))).2) ?_
    show Steps p.tables e below (s₁.setTop (mkF m 8 #[.val (.int p1), .val (.int (0 : Int32)), .unset, .unset, .unset, .unset] [])) _
    refine st1 _ ?_
    show Steps p.tables e below (T1.setTop (mkF m 11 #[.val (.int p1), .val (.int (0 : Int32)), .unset, .unset, .unset, .unset] [(.ref w_OPEN)])) _
    refine XS.astoreN X1.here hx rfl (hb hby at_11) rfl rfl (l' := #[.val (.int p1), .val (.int (0 : Int32)), .val (.ref w_OPEN), .unset, .unset, .unset]) rfl ?_
    show Steps p.tables e below (T1.setTop (mkF m 12 #[.val (.int p1), .val (.int (0 : Int32)), .val (.ref w_OPEN), .unset, .unset, .unset] [])) _
    refine XS.goto X1.here hx rfl (pc0 := 12) (pc' := 43) rfl (hb hby at_12) (by decide) (by decide) ?_
    show Steps p.tables e below (T1.setTop (mkF m 43 #[.val (.int p1), .val (.int (0 : Int32)), .val (.ref w_OPEN), .unset, .unset, .unset] [])) _
    refine XS.aloadN X1.here hx rfl (hb hby at_43) rfl rfl ?_
    show Steps p.tables e below (T1.setTop (mkF m 44 #[.val (.int p1), .val (.int (0 : Int32)), .val (.ref w_OPEN), .unset, .unset, .unset] [(.ref w_OPEN)])) _
    refine st2.trans ?_
    show Steps p.tables e below (T2.setTop (mkF m 47 #[.val (.int p1), .val (.int (0 : Int32)), .val (.ref w_OPEN), .unset, .unset, .unset] [(.int (0 : Int32))])) _
    refine XS.istoreN X2.here hx rfl (hb hby at_47) rfl (l' := #[.val (.int p1), .val (.int (0 : Int32)), .val (.ref w_OPEN), .val (.int (0 : Int32)), .unset, .unset]) rfl ?_
    show Steps p.tables e below (T2.setTop (mkF m 48 #[.val (.int p1), .val (.int (0 : Int32)), .val (.ref w_OPEN), .val (.int (0 : Int32)), .unset, .unset] [])) _
    refine XS.iloadN X2.here hx rfl (hb hby at_48) rfl ?_
    show Steps p.tables e below (T2.setTop (mkF m 49 #[.val (.int p1), .val (.int (0 : Int32)), .val (.ref w_OPEN), .val (.int (0 : Int32)), .unset, .unset] [(.int (0 : Int32))])) _
    refine XS.iconst X2.here hx rfl (hb hby at_49) ?_
    show Steps p.tables e below (T2.setTop (mkF m 50 #[.val (.int p1), .val (.int (0 : Int32)), .val (.ref w_OPEN), .val (.int (0 : Int32)), .unset, .unset] [(.int (1 : Int32)), (.int (0 : Int32))])) _
    refine XS.icmpNo X2.here hx rfl (hb hby at_50) rfl (feq (by decide : ¬ ((0 : Int32) = (1 : Int32)))).1 ?_
    show Steps p.tables e below (T2.setTop (mkF m 53 #[.val (.int p1), .val (.int (0 : Int32)), .val (.ref w_OPEN), .val (.int (0 : Int32)), .unset, .unset] [])) _
    refine XS.iloadN X2.here hx rfl (hb hby at_53) rfl ?_
    show Steps p.tables e below (T2.setTop (mkF m 54 #[.val (.int p1), .val (.int (0 : Int32)), .val (.ref w_OPEN), .val (.int (0 : Int32)), .unset, .unset] [(.int (0 : Int32))])) _
    refine XS.iconst X2.here hx rfl (hb hby at_54) ?_
    show Steps p.tables e below (T2.setTop (mkF m 55 #[.val (.int p1), .val (.int (0 : Int32)), .val (.ref w_OPEN), .val (.int (0 : Int32)), .unset, .unset] [(.int (2 : Int32)), (.int (0 : Int32))])) _
    refine XS.icmpYes X2.here hx rfl (pc0 := 55) (pc' := 62) rfl (hb hby at_55) rfl (feq (by decide : ¬ ((0 : Int32) = (2 : Int32)))).2 (by decide) (by decide) ?_
    show Steps p.tables e below (T2.setTop (mkF m 62 #[.val (.int p1), .val (.int (0 : Int32)), .val (.ref w_OPEN), .val (.int (0 : Int32)), .unset, .unset] [])) _
    refine XS.iconst X2.here hx rfl (hb hby at_62) ?_
    show Steps p.tables e below (T2.setTop (mkF m 63 #[.val (.int p1), .val (.int (0 : Int32)), .val (.ref w_OPEN), .val (.int (0 : Int32)), .unset, .unset] [(.int (0 : Int32))])) _
    refine XS.istore X2.here hx rfl (hb hby at_63) rfl (l' := #[.val (.int p1), .val (.int (0 : Int32)), .val (.ref w_OPEN), .val (.int (0 : Int32)), .val (.int (0 : Int32)), .unset]) rfl ?_
    show Steps p.tables e below (T2.setTop (mkF m 65 #[.val (.int p1), .val (.int (0 : Int32)), .val (.ref w_OPEN), .val (.int (0 : Int32)), .val (.int (0 : Int32)), .unset] [])) _
    refine XS.aloadN X2.here hx rfl (hb hby at_65) rfl rfl ?_
    show Steps p.tables e below (T2.setTop (mkF m 66 #[.val (.int p1), .val (.int (0 : Int32)), .val (.ref w_OPEN), .val (.int (0 : Int32)), .val (.int (0 : Int32)), .unset] [(.ref w_OPEN)])) _
    refine st3 _ ?_
    show Steps p.tables e below (T3.setTop (mkF m 69 #[.val (.int p1), .val (.int (0 : Int32)), .val (.ref w_OPEN), .val (.int (0 : Int32)), .val (.int (0 : Int32)), .unset] [(.ref w_OPEN), (.ref w_OPEN)])) _
    refine st4.trans ?_
    show Steps p.tables e below (T4.setTop (mkF m 72 #[.val (.int p1), .val (.int (0 : Int32)), .val (.ref w_OPEN), .val (.int (0 : Int32)), .val (.int (0 : Int32)), .unset] [(.int (0 : Int32))])) _
    refine XS.ifNo X4.here hx rfl (hb hby at_72) rfl ((if0 _ _).trans (teq (by decide : (0 : Int32) = (0 : Int32))).2) ?_
    show Steps p.tables e below (T4.setTop (mkF m 75 #[.val (.int p1), .val (.int (0 : Int32)), .val (.ref w_OPEN), .val (.int (0 : Int32)), .val (.int (0 : Int32)), .unset] [])) _
    refine XS.aloadN X4.here hx rfl (hb hby at_75) rfl rfl ?_
    show Steps p.tables e below (T4.setTop (mkF m 76 #[.val (.int p1), .val (.int (0 : Int32)), .val (.ref w_OPEN), .val (.int (0 : Int32)), .val (.int (0 : Int32)), .unset] [(.ref w_OPEN)])) _
    refine st5 _ ?_
    show Steps p.tables e below (T5.setTop (mkF m 79 #[.val (.int p1), .val (.int (0 : Int32)), .val (.ref w_OPEN), .val (.int (0 : Int32)), .val (.int (0 : Int32)), .unset] [(.ref w_COMMITTED), (.ref w_OPEN)])) _
    refine st6.trans ?_
    show Steps p.tables e below (T6.setTop (mkF m 82 #[.val (.int p1), .val (.int (0 : Int32)), .val (.ref w_OPEN), .val (.int (0 : Int32)), .val (.int (0 : Int32)), .unset] [(.int (1 : Int32))])) _
    refine XS.ifYes X6.here hx rfl (pc0 := 82) (pc' := 109) rfl (hb hby at_82) rfl ((if0 _ _).trans (feq (by decide : ¬ ((1 : Int32) = (0 : Int32)))).2) (by decide) (by decide) ?_
    show Steps p.tables e below (T6.setTop (mkF m 109 #[.val (.int p1), .val (.int (0 : Int32)), .val (.ref w_OPEN), .val (.int (0 : Int32)), .val (.int (0 : Int32)), .unset] [])) _
    refine XS.iconst X6.here hx rfl (hb hby at_109) ?_
    show Steps p.tables e below (T6.setTop (mkF m 110 #[.val (.int p1), .val (.int (0 : Int32)), .val (.ref w_OPEN), .val (.int (0 : Int32)), .val (.int (0 : Int32)), .unset] [(.int (0 : Int32))])) _
    refine XS.istore X6.here hx rfl (hb hby at_110) rfl (l' := #[.val (.int p1), .val (.int (0 : Int32)), .val (.ref w_OPEN), .val (.int (0 : Int32)), .val (.int (0 : Int32)), .val (.int (0 : Int32))]) rfl ?_
    show Steps p.tables e below (T6.setTop (mkF m 112 #[.val (.int p1), .val (.int (0 : Int32)), .val (.ref w_OPEN), .val (.int (0 : Int32)), .val (.int (0 : Int32)), .val (.int (0 : Int32))] [])) _
    refine XS.iloadN X6.here hx rfl (hb hby at_112) rfl ?_
    show Steps p.tables e below (T6.setTop (mkF m 113 #[.val (.int p1), .val (.int (0 : Int32)), .val (.ref w_OPEN), .val (.int (0 : Int32)), .val (.int (0 : Int32)), .val (.int (0 : Int32))] [(.int (0 : Int32))])) _
    refine XS.iload X6.here hx rfl (hb hby at_113) rfl ?_
    show Steps p.tables e below (T6.setTop (mkF m 115 #[.val (.int p1), .val (.int (0 : Int32)), .val (.ref w_OPEN), .val (.int (0 : Int32)), .val (.int (0 : Int32)), .val (.int (0 : Int32))] [(.int (0 : Int32)), (.int (0 : Int32))])) _
    refine XS.icmpNo X6.here hx rfl (hb hby at_115) rfl (teq (by decide : (0 : Int32) = (0 : Int32))).2 ?_
    show Steps p.tables e below (T6.setTop (mkF m 118 #[.val (.int p1), .val (.int (0 : Int32)), .val (.ref w_OPEN), .val (.int (0 : Int32)), .val (.int (0 : Int32)), .val (.int (0 : Int32))] [])) _
    refine XS.iloadN X6.here hx rfl (hb hby at_118) rfl ?_
    show Steps p.tables e below (T6.setTop (mkF m 119 #[.val (.int p1), .val (.int (0 : Int32)), .val (.ref w_OPEN), .val (.int (0 : Int32)), .val (.int (0 : Int32)), .val (.int (0 : Int32))] [(.int (0 : Int32))])) _
    refine XS.iload X6.here hx rfl (hb hby at_119) rfl ?_
    show Steps p.tables e below (T6.setTop (mkF m 121 #[.val (.int p1), .val (.int (0 : Int32)), .val (.ref w_OPEN), .val (.int (0 : Int32)), .val (.int (0 : Int32)), .val (.int (0 : Int32))] [(.int (0 : Int32)), (.int (0 : Int32))])) _
    refine XS.icmpNo X6.here hx rfl (hb hby at_121) rfl (teq (by decide : (0 : Int32) = (0 : Int32))).2 ?_
    show Steps p.tables e below (T6.setTop (mkF m 124 #[.val (.int p1), .val (.int (0 : Int32)), .val (.ref w_OPEN), .val (.int (0 : Int32)), .val (.int (0 : Int32)), .val (.int (0 : Int32))] [])) _
    refine XS.iconst X6.here hx rfl (hb hby at_124) ?_
    show Steps p.tables e below (T6.setTop (mkF m 125 #[.val (.int p1), .val (.int (0 : Int32)), .val (.ref w_OPEN), .val (.int (0 : Int32)), .val (.int (0 : Int32)), .val (.int (0 : Int32))] [(.int (1 : Int32))])) _
    refine XS.goto X6.here hx rfl (pc0 := 125) (pc' := 129) rfl (hb hby at_125) (by decide) (by decide) ?_
    show Steps p.tables e below (T6.setTop (mkF m 129 #[.val (.int p1), .val (.int (0 : Int32)), .val (.ref w_OPEN), .val (.int (0 : Int32)), .val (.int (0 : Int32)), .val (.int (0 : Int32))] [(.int (1 : Int32))])) _
    exact retN X6 hx (t := .boolean) Bd.returns (by simp) (hb hby at_129) hr
  · exact ⟨rfl, N6⟩
theorem d1_14 : decode prog_17_method_4_code 14 = .ok (.iconst 1, 1) := by decide +kernel
theorem d1_15 : decode prog_17_method_4_code 15 = .ok (.goto 4, 3) := by decide +kernel
def Q1_7 (Z : State) (w_OPEN : Addr) (w_COMMITTED : Addr) (w_ROLLED_BACK : Addr) (w_PARKED : Addr) (h0 : Heap) (n0 : Nat) (v : Option Value) (h : Heap) (L : List Loc) : Prop := v = some (.int (1 : Int32)) ∧ Fr n0 L ∧ h = h0
set_option maxRecDepth 65536 in
set_option maxHeartbeats 40000000 in
theorem rm1_7 (l : Launch) (Z : State) (a0 : Array Value) (hw : ∀ d ∈ tables_1, d.before a0 Z = true) (ws : List Jvm.Cond) (w_OPEN : Addr) (w_COMMITTED : Addr) (w_ROLLED_BACK : Addr) (w_PARKED : Addr) (h0 : Heap) (n0 : Nat) (Z0 : n0 ≤ h0.size) (HW : World Z h0 w_OPEN w_COMMITTED w_ROLLED_BACK w_PARKED) :
    MetFree l (⟨"com/example/clinch/clinch/broker/TransactionState", "isFinal", "()Z"⟩ : MethodName) (head1 (Jvm.Cond.code (⟨"com/example/clinch/clinch/broker/TransactionState", "isFinal", "()Z"⟩ : MethodName) prog_17_method_4_code 1 (some .boolean) :: ws) ({ frames := 0, cells := 0, slots := 0, locals := 0 } : Room)) (fun a U => a = #[(.ref w_COMMITTED)] ∧ Z.Warmed39 U.vm ∧ U.heap = h0) (fun _ _ _ _ _ => True) (fun _ U o U' => ∃ v L, o = .returned v ∧ Q1_7 Z w_OPEN w_COMMITTED w_ROLLED_BACK w_PARKED h0 n0 v U'.heap L ∧ FrameEnd U o U' L ({ frames := 0, cells := 0, slots := 0, locals := 0 } : Room).cells ({ frames := 0, cells := 0, slots := 0, locals := 0 } : Room).slots) := by
  refine MetFree.of_bodySF (plainFor_of_name pn10) hisR ?_
  intro p e s m args below meth c s₁ Bd hml0 hP hK
  obtain ⟨rfl, hZ, hh⟩ := hP
  have hx := Bd.exec
  have hby := Bd.bytes
  have hml : c.maxLocals = 1 := hml0
  have hown : s.vm.findClass "com/example/clinch/clinch/broker/TransactionState" = some m.cls := findClass_of_methodNamed Bd.named
  have X0 : Stand p l e ({ frames := 0, cells := 0, slots := 0, locals := 0 } : Room) s m #[(.ref w_COMMITTED)] below meth c s₁ [] 0 0 := Stand.of_body Bd
  have e0 : s₁.heap = h0 := by rw [← hh, Bd.state]; rfl
  have N0 := Fr.nil n0
  have pre0 : ∀ t, Steps p.tables e below (s₁.setTop (mkF m 0 #[.val (.ref w_COMMITTED)] [])) t → Steps p.tables e below (s₁.setTop (entryFrame m #[(.ref w_COMMITTED)] 1)) t := fun t k => castTop (ef9 m w_COMMITTED) k
  obtain ⟨S_w_OPEN, E_w_OPEN, S_w_COMMITTED, E_w_COMMITTED, S_w_ROLLED_BACK, E_w_ROLLED_BACK, S_w_PARKED, E_w_PARKED, F_ordinal_w_OPEN, F_ordinal_w_COMMITTED, F_ordinal_w_ROLLED_BACK, F_ordinal_w_PARKED, ne_w_OPEN_w_COMMITTED, ne_w_OPEN_w_ROLLED_BACK, ne_w_OPEN_w_PARKED, ne_w_COMMITTED_w_ROLLED_BACK, ne_w_COMMITTED_w_PARKED, ne_w_ROLLED_BACK_w_PARKED, -⟩ := id HW
  obtain ⟨T1, X1, e1, st1⟩ := getS2 X0 hx hZ hown (host := "") (Or.inl (hw _ (List.mem_of_getElem? (i := 8) rfl))) Via.refl e0 S_w_COMMITTED (g := (mkF m 1 #[.val (.ref w_COMMITTED)] [(.ref w_COMMITTED)])) rfl (hb hby d1_1)
  obtain ⟨fs, hr, hrun, hended, hW, hsame⟩ := X1.leave (v := some (.int (1 : Int32))) (fun h => by rw [Bd.returns] at h; cases h)
  refine ⟨_, _, pre0 _ ?_, hrun, hended, _, _, rfl, ?_, ⟨_, rfl⟩, hW, hsame.mono (by decide) (by decide)⟩
  · show Steps p.tables e below (s₁.setTop (mkF m 0 #[.val (.ref w_COMMITTED)] [])) _
    refine XS.aloadN X0.here hx rfl (hb hby d1_0) rfl rfl ?_
    show Steps p.tables e below (s₁.setTop (mkF m 1 #[.val (.ref w_COMMITTED)] [(.ref w_COMMITTED)])) _
    refine st1 _ ?_
    show Steps p.tables e below (T1.setTop (mkF m 4 #[.val (.ref w_COMMITTED)] [(.ref w_COMMITTED), (.ref w_COMMITTED)])) _
    refine Jvm.RoadKit.acmp (g := (mkF m 4 #[.val (.ref w_COMMITTED)] [(.ref w_COMMITTED), (.ref w_COMMITTED)])) X1 hx rfl rfl rfl (pc0 := 4) (pc' := 14) (same := true) rfl (hb hby d1_4) rfl (decide_eq_true rfl) (by decide) (by decide) ?_
    show Steps p.tables e below (T1.setTop (mkF m 14 #[.val (.ref w_COMMITTED)] [])) _
    refine XS.iconst X1.here hx rfl (hb hby d1_14) ?_
    show Steps p.tables e below (T1.setTop (mkF m 15 #[.val (.ref w_COMMITTED)] [(.int (1 : Int32))])) _
    refine XS.goto X1.here hx rfl (pc0 := 15) (pc' := 19) rfl (hb hby d1_15) (by decide) (by decide) ?_
    show Steps p.tables e below (T1.setTop (mkF m 19 #[.val (.ref w_COMMITTED)] [(.int (1 : Int32))])) _
    exact retN X1 hx (t := .boolean) Bd.returns (by simp) (hb hby d1_19) hr
  · exact ⟨rfl, N0, e1⟩
def Q4_8 (Z : State) (w_OPEN : Addr) (w_COMMITTED : Addr) (w_ROLLED_BACK : Addr) (w_PARKED : Addr) (h0 : Heap) (n0 : Nat) (v : Option Value) (h : Heap) (L : List Loc) : Prop := v = some (.int (1 : Int32)) ∧ Fr n0 L ∧ h = h0
set_option maxRecDepth 65536 in
set_option maxHeartbeats 40000000 in
theorem rm4_8 (l : Launch) (Z : State) (a0 : Array Value) (hw : ∀ d ∈ tables_1, d.before a0 Z = true) (ws : List Jvm.Cond) (w_OPEN : Addr) (w_COMMITTED : Addr) (w_ROLLED_BACK : Addr) (w_PARKED : Addr) (h0 : Heap) (n0 : Nat) (Z0 : n0 ≤ h0.size) (HW : World Z h0 w_OPEN w_COMMITTED w_ROLLED_BACK w_PARKED) :
    MetFree l (⟨"java/lang/Enum", "ordinal", "()I"⟩ : MethodName) (head1 (Jvm.Cond.code (⟨"java/lang/Enum", "ordinal", "()I"⟩ : MethodName) jdk_37_method_2_code 1 (some .int) :: ws) ({ frames := 0, cells := 0, slots := 0, locals := 0 } : Room)) (fun a U => a = #[(.ref w_COMMITTED)] ∧ Z.Warmed39 U.vm ∧ U.heap = h0) (fun _ _ _ _ _ => True) (fun _ U o U' => ∃ v L, o = .returned v ∧ Q4_8 Z w_OPEN w_COMMITTED w_ROLLED_BACK w_PARKED h0 n0 v U'.heap L ∧ FrameEnd U o U' L ({ frames := 0, cells := 0, slots := 0, locals := 0 } : Room).cells ({ frames := 0, cells := 0, slots := 0, locals := 0 } : Room).slots) := by
  refine MetFree.of_bodySF (plainFor_of_name pn30) hisR ?_
  intro p e s m args below meth c s₁ Bd hml0 hP hK
  obtain ⟨rfl, hZ, hh⟩ := hP
  have hx := Bd.exec
  have hby := Bd.bytes
  have hml : c.maxLocals = 1 := hml0
  have hown : s.vm.findClass "java/lang/Enum" = some m.cls := findClass_of_methodNamed Bd.named
  have X0 : Stand p l e ({ frames := 0, cells := 0, slots := 0, locals := 0 } : Room) s m #[(.ref w_COMMITTED)] below meth c s₁ [] 0 0 := Stand.of_body Bd
  have e0 : s₁.heap = h0 := by rw [← hh, Bd.state]; rfl
  have N0 := Fr.nil n0
  have pre0 : ∀ t, Steps p.tables e below (s₁.setTop (mkF m 0 #[.val (.ref w_COMMITTED)] [])) t → Steps p.tables e below (s₁.setTop (entryFrame m #[(.ref w_COMMITTED)] 1)) t := fun t k => castTop (ef29 m w_COMMITTED) k
  obtain ⟨S_w_OPEN, E_w_OPEN, S_w_COMMITTED, E_w_COMMITTED, S_w_ROLLED_BACK, E_w_ROLLED_BACK, S_w_PARKED, E_w_PARKED, F_ordinal_w_OPEN, F_ordinal_w_COMMITTED, F_ordinal_w_ROLLED_BACK, F_ordinal_w_PARKED, ne_w_OPEN_w_COMMITTED, ne_w_OPEN_w_ROLLED_BACK, ne_w_OPEN_w_PARKED, ne_w_COMMITTED_w_ROLLED_BACK, ne_w_COMMITTED_w_PARKED, ne_w_ROLLED_BACK_w_PARKED, -⟩ := id HW
  obtain ⟨T1, X1, e1, st1⟩ := getF X0 hx hZ hown (host := "") (Or.inl (hw _ (List.mem_of_getElem? (i := 36) rfl))) Via.refl e0 F_ordinal_w_COMMITTED (g := (mkF m 1 #[.val (.ref w_COMMITTED)] [(.ref w_COMMITTED)])) rfl rfl (hb hby d4_1)
  obtain ⟨fs, hr, hrun, hended, hW, hsame⟩ := X1.leave (v := some (.int (1 : Int32))) (fun h => by rw [Bd.returns] at h; cases h)
  refine ⟨_, _, pre0 _ ?_, hrun, hended, _, _, rfl, ?_, ⟨_, rfl⟩, hW, hsame.mono (by decide) (by decide)⟩
  · show Steps p.tables e below (s₁.setTop (mkF m 0 #[.val (.ref w_COMMITTED)] [])) _
    refine XS.aloadN X0.here hx rfl (hb hby d4_0) rfl rfl ?_
    show Steps p.tables e below (s₁.setTop (mkF m 1 #[.val (.ref w_COMMITTED)] [(.ref w_COMMITTED)])) _
    refine st1 _ ?_
    show Steps p.tables e below (T1.setTop (mkF m 4 #[.val (.ref w_COMMITTED)] [(.int (1 : Int32))])) _
    exact Jvm.RoadKit.retI X1 hx Bd.returns (hb hby d4_4) hr
  · exact ⟨rfl, N0, e1⟩
theorem d2_72 : decode prog_17_method_5_code 72 = .ok (.iconst 0, 1) := by decide +kernel
def Q2_9 (Z : State) (w_OPEN : Addr) (w_COMMITTED : Addr) (w_ROLLED_BACK : Addr) (w_PARKED : Addr) (h0 : Heap) (n0 : Nat) (v : Option Value) (h : Heap) (L : List Loc) : Prop := v = some (.int (0 : Int32)) ∧ Fr n0 L ∧ Ext h0 h
set_option maxRecDepth 65536 in
set_option maxHeartbeats 40000000 in
theorem rm2_9 (l : Launch) (Z : State) (a0 : Array Value) (hw : ∀ d ∈ tables_1, d.before a0 Z = true) (ws : List Jvm.Cond) (w_OPEN : Addr) (w_COMMITTED : Addr) (w_ROLLED_BACK : Addr) (w_PARKED : Addr) (h0 : Heap) (n0 : Nat) (Z0 : n0 ≤ h0.size) (HW : World Z h0 w_OPEN w_COMMITTED w_ROLLED_BACK w_PARKED) :
    MetFree l (⟨"com/example/clinch/clinch/broker/TransactionState", "canMoveTo", "(Lcom/example/clinch/clinch/broker/TransactionState;)Z"⟩ : MethodName) (head1 (Jvm.Cond.code (⟨"com/example/clinch/clinch/broker/TransactionState", "canMoveTo", "(Lcom/example/clinch/clinch/broker/TransactionState;)Z"⟩ : MethodName) prog_17_method_5_code 3 (some .boolean) :: ws) ({ frames := 1, cells := 2, slots := 20, locals := 13 } : Room)) (fun a U => a = #[(.ref w_COMMITTED), (.ref w_OPEN)] ∧ Z.Warmed39 U.vm ∧ U.heap = h0) (fun _ _ _ _ _ => True) (fun _ U o U' => ∃ v L, o = .returned v ∧ Q2_9 Z w_OPEN w_COMMITTED w_ROLLED_BACK w_PARKED h0 n0 v U'.heap L ∧ ReturnedEndW U o U' L ({ frames := 1, cells := 2, slots := 20, locals := 13 } : Room).cells ({ frames := 1, cells := 2, slots := 20, locals := 13 } : Room).slots) := by
  refine MetFree.of_bodySF (plainFor_of_name pn10) hisR ?_
  intro p e s m args below meth c s₁ Bd hml0 hP hK
  obtain ⟨rfl, hZ, hh⟩ := hP
  have hx := Bd.exec
  have hby := Bd.bytes
  have hml : c.maxLocals = 3 := hml0
  have hown : s.vm.findClass "com/example/clinch/clinch/broker/TransactionState" = some m.cls := findClass_of_methodNamed Bd.named
  have X0 : Stand p l e ({ frames := 1, cells := 2, slots := 20, locals := 13 } : Room) s m #[(.ref w_COMMITTED), (.ref w_OPEN)] below meth c s₁ [] 0 0 := Stand.of_body Bd
  have e0 : s₁.heap = h0 := by rw [← hh, Bd.state]; rfl
  have N0 := Fr.nil n0
  have pre0 : ∀ t, Steps p.tables e below (s₁.setTop (mkF m 0 #[.val (.ref w_COMMITTED), .val (.ref w_OPEN), .unset] [])) t → Steps p.tables e below (s₁.setTop (entryFrame m #[(.ref w_COMMITTED), (.ref w_OPEN)] 3)) t := fun t k => castTop (ef43 m w_COMMITTED w_OPEN) k
  have X0s : Stand p l e ({ frames := 1, cells := 2, slots := 20, locals := 13 } : Room) (s.setVm s.vm) m #[(.ref w_COMMITTED), (.ref w_OPEN)] below meth c s₁ [] 0 0 := X0
  have hZ0 : Z.Warmed39 (s.setVm s.vm).vm := hZ
  have hown0 : (s.setVm s.vm).vm.findClass "com/example/clinch/clinch/broker/TransactionState" = some m.cls := hown
  have hS0 := own_since s
  obtain ⟨S_w_OPEN, E_w_OPEN, S_w_COMMITTED, E_w_COMMITTED, S_w_ROLLED_BACK, E_w_ROLLED_BACK, S_w_PARKED, E_w_PARKED, F_ordinal_w_OPEN, F_ordinal_w_COMMITTED, F_ordinal_w_ROLLED_BACK, F_ordinal_w_PARKED, ne_w_OPEN_w_COMMITTED, ne_w_OPEN_w_ROLLED_BACK, ne_w_OPEN_w_PARKED, ne_w_COMMITTED_w_ROLLED_BACK, ne_w_COMMITTED_w_PARKED, ne_w_ROLLED_BACK_w_PARKED, -⟩ := id HW
  obtain ⟨a1, T1, h1, kk1, X1, e1, E1, hS1, hk1, hZ1, hown1, st1⟩ := ldcS X0s hx hZ0 hown0 (hw _ (List.mem_of_getElem? (i := 17) rfl)) (own_wS hw) e0 hS0 (Nat.zero_le _) (g := (mkF m 1 #[.val (.ref w_COMMITTED), .val (.ref w_OPEN), .unset] [(.ref w_OPEN)])) rfl (hb hby d2_1) (n := 16) (by decide) (by decide) (by decide) (by decide)
  replace HW := HW.ext E1
  obtain ⟨S_w_OPEN, E_w_OPEN, S_w_COMMITTED, E_w_COMMITTED, S_w_ROLLED_BACK, E_w_ROLLED_BACK, S_w_PARKED, E_w_PARKED, F_ordinal_w_OPEN, F_ordinal_w_COMMITTED, F_ordinal_w_ROLLED_BACK, F_ordinal_w_PARKED, ne_w_OPEN_w_COMMITTED, ne_w_OPEN_w_ROLLED_BACK, ne_w_OPEN_w_PARKED, ne_w_COMMITTED_w_ROLLED_BACK, ne_w_COMMITTED_w_PARKED, ne_w_ROLLED_BACK_w_PARKED, -⟩ := id HW
  obtain ⟨_, _, ⟨T2, L2, k2, n2⟩, -, X2, ⟨Lc2, hQ2, l2, y2, z2⟩, st2⟩ := Jvm.LawKit.callS X1 hx (y := (⟨"java/util/Objects", "requireNonNull", "(Ljava/lang/Object;Ljava/lang/String;)Ljava/lang/Object;"⟩ : MethodName)) hown1 (mvT hZ1 (hw _ (List.mem_of_getElem? (i := 25) rfl))) (mvT hZ1 (hw _ (List.mem_of_getElem? (i := 26) rfl))) (mvT hZ1 (hw _ (List.mem_of_getElem? (i := 27) rfl))) (mvT hZ1 (hw _ (List.mem_of_getElem? (i := 28) rfl))) (by decide) (backOf (W := 0) (rm3_1 l Z a0 hw [] w_OPEN w_COMMITTED w_ROLLED_BACK w_PARKED a1 h1 n0 (Nat.le_trans Z0 E1.1) HW) hZ1 (hw _ (List.mem_of_getElem? (i := 28) rfl)) (hw _ (List.mem_of_getElem? (i := 27) rfl)) (by decide) (by decide)) (g := (mkF m 3 #[.val (.ref w_COMMITTED), .val (.ref w_OPEN), .unset] [(.ref a1), (.ref w_OPEN)])) rfl (by rw [hml]; rfl) (argsL := [(.ref w_OPEN), (.ref a1)]) (rest := []) (lenOf pd21 rfl) rfl (by show 2 * 0 + _ ≤ _; exact Nat.le_of_eq rfl) (hb hby d2_3) (fun _ _ => ⟨rfl, e1, (by decide : 2 + 0 ≤ _), (by decide : 20 + 0 ≤ _)⟩)
  dsimp only [Pt.U, Pt.locs, Pt.cells, Pt.slots] at X2 l2 y2 z2 st2 hQ2
  subst l2 y2 z2
  obtain ⟨rfl, N2q, e2⟩ := hQ2
  have N2 := Fr.app N0 N2q
  obtain ⟨cq3, kq3, q3a, q3b, q3c⟩ := isOf hZ1 e2 E_w_COMMITTED
  obtain ⟨_, _, ⟨T3, L3, k3, n3⟩, -, X3, ⟨Lc3, hQ3, l3, y3, z3⟩, st3⟩ := X2.virtualBackUp hx (x := (⟨"com/example/clinch/clinch/broker/TransactionState", "ordinal", "()I"⟩ : MethodName)) (y := (⟨"java/lang/Enum", "ordinal", "()I"⟩ : MethodName)) hown1 (mvT hZ1 (hw _ (List.mem_of_getElem? (i := 29) rfl))) (mvT hZ1 (hw _ (List.mem_of_getElem? (i := 30) rfl))) (mvT hZ1 (hw _ (List.mem_of_getElem? (i := 31) rfl))) (by decide) (mvT hZ1 (hw _ (List.mem_of_getElem? (i := 33) rfl))) (mvT hZ1 (hw _ (List.mem_of_getElem? (i := 32) rfl))) (backOf (W := 0) (rm4_8 l Z a0 hw [] w_OPEN w_COMMITTED w_ROLLED_BACK w_PARKED h1 n0 (Nat.le_trans Z0 E1.1) HW) hZ1 (hw _ (List.mem_of_getElem? (i := 35) rfl)) (hw _ (List.mem_of_getElem? (i := 34) rfl)) (by decide) (by decide)) q3a q3c (g := (mkF m 8 #[.val (.ref w_COMMITTED), .val (.ref w_OPEN), .unset] [(.ref w_COMMITTED)])) rfl (by rw [hml]; rfl) (Steps.refl _) (argsL := []) (rest := []) (lenOf pd31 rfl) rfl (by show 2 * 0 + _ ≤ _; exact Nat.le_of_eq rfl) (hb hby d2_8) (fun _ _ => ⟨rfl, e2, (by decide : 2 + 0 ≤ _), (by decide : 20 + 0 ≤ _)⟩)
  dsimp only [Pt.U, Pt.locs, Pt.cells, Pt.slots] at X3 l3 y3 z3 st3 hQ3
  subst l3 y3 z3
  obtain ⟨rfl, N3q, e3⟩ := hQ3
  have N3 := Fr.app N2 N3q
  obtain ⟨fs, hr, hrun, hended, hW0, hW1, hW2, hsame⟩ := X3.leaveW hS1 (by rw [e3]; exact hk1) (v := some (.int (0 : Int32))) (fun h => by rw [Bd.returns] at h; cases h)
  refine ⟨_, _, pre0 _ ?_, hrun, hended, _, _, rfl, ?_, hW0, hW1, hW2, hsame.mono (by decide) (by decide)⟩
  · show Steps p.tables e below (s₁.setTop (mkF m 0 #[.val (.ref w_COMMITTED), .val (.ref w_OPEN), .unset] [])) _
    refine XS.aloadN X0s.here hx rfl (hb hby d2_0) rfl rfl ?_
    show Steps p.tables e below (s₁.setTop (mkF m 1 #[.val (.ref w_COMMITTED), .val (.ref w_OPEN), .unset] [(.ref w_OPEN)])) _
    refine st1 _ ?_
    show Steps p.tables e below (T1.setTop (mkF m 3 #[.val (.ref w_COMMITTED), .val (.ref w_OPEN), .unset] [(.ref a1), (.ref w_OPEN)])) _
    refine st2 _ ?_
    show Steps p.tables e below (T2.setTop (mkF m 6 #[.val (.ref w_COMMITTED), .val (.ref w_OPEN), .unset] [(.ref w_OPEN)])) _
    refine XS.pop X2.here hx rfl (hb hby d2_6) rfl rfl ?_
    show Steps p.tables e below (T2.setTop (mkF m 7 #[.val (.ref w_COMMITTED), .val (.ref w_OPEN), .unset] [])) _
    refine XS.aloadN X2.here hx rfl (hb hby d2_7) rfl rfl ?_
    show Steps p.tables e below (T2.setTop (mkF m 8 #[.val (.ref w_COMMITTED), .val (.ref w_OPEN), .unset] [(.ref w_COMMITTED)])) _
    refine st3.trans ?_
    show Steps p.tables e below (T3.setTop (mkF m 11 #[.val (.ref w_COMMITTED), .val (.ref w_OPEN), .unset] [(.int (1 : Int32))])) _
    refine XS.tswIn X3.here hx rfl (pc0 := 11) (pc' := 72) rfl (hb hby d2_11) rfl (by decide) (o := 61) (by decide) (by decide) (by decide) ?_
    show Steps p.tables e below (T3.setTop (mkF m 72 #[.val (.ref w_COMMITTED), .val (.ref w_OPEN), .unset] [])) _
    refine XS.iconst X3.here hx rfl (hb hby d2_72) ?_
    show Steps p.tables e below (T3.setTop (mkF m 73 #[.val (.ref w_COMMITTED), .val (.ref w_OPEN), .unset] [(.int (0 : Int32))])) _
    refine XS.istoreN X3.here hx rfl (hb hby d2_73) rfl (l' := #[.val (.ref w_COMMITTED), .val (.ref w_OPEN), .val (.int (0 : Int32))]) rfl ?_
    show Steps p.tables e below (T3.setTop (mkF m 74 #[.val (.ref w_COMMITTED), .val (.ref w_OPEN), .val (.int (0 : Int32))] [])) _
    refine XS.iloadN X3.here hx rfl (hb hby d2_74) rfl ?_
    show Steps p.tables e below (T3.setTop (mkF m 75 #[.val (.ref w_COMMITTED), .val (.ref w_OPEN), .val (.int (0 : Int32))] [(.int (0 : Int32))])) _
    exact retN X3 hx (t := .boolean) Bd.returns (by simp) (hb hby d2_75) hr
  · exact ⟨rfl, N3, (by show Ext h0 T3.heap; rw [e3]; exact E1)⟩
def Q2_10 (Z : State) (w_OPEN : Addr) (w_COMMITTED : Addr) (w_ROLLED_BACK : Addr) (w_PARKED : Addr) (h0 : Heap) (n0 : Nat) (v : Option Value) (h : Heap) (L : List Loc) : Prop := v = some (.int (0 : Int32)) ∧ Fr n0 L ∧ Ext h0 h
set_option maxRecDepth 65536 in
set_option maxHeartbeats 40000000 in
theorem rm2_10 (l : Launch) (Z : State) (a0 : Array Value) (hw : ∀ d ∈ tables_1, d.before a0 Z = true) (ws : List Jvm.Cond) (w_OPEN : Addr) (w_COMMITTED : Addr) (w_ROLLED_BACK : Addr) (w_PARKED : Addr) (h0 : Heap) (n0 : Nat) (Z0 : n0 ≤ h0.size) (HW : World Z h0 w_OPEN w_COMMITTED w_ROLLED_BACK w_PARKED) :
    MetFree l (⟨"com/example/clinch/clinch/broker/TransactionState", "canMoveTo", "(Lcom/example/clinch/clinch/broker/TransactionState;)Z"⟩ : MethodName) (head1 (Jvm.Cond.code (⟨"com/example/clinch/clinch/broker/TransactionState", "canMoveTo", "(Lcom/example/clinch/clinch/broker/TransactionState;)Z"⟩ : MethodName) prog_17_method_5_code 3 (some .boolean) :: ws) ({ frames := 1, cells := 2, slots := 20, locals := 13 } : Room)) (fun a U => a = #[(.ref w_COMMITTED), (.ref w_COMMITTED)] ∧ Z.Warmed39 U.vm ∧ U.heap = h0) (fun _ _ _ _ _ => True) (fun _ U o U' => ∃ v L, o = .returned v ∧ Q2_10 Z w_OPEN w_COMMITTED w_ROLLED_BACK w_PARKED h0 n0 v U'.heap L ∧ ReturnedEndW U o U' L ({ frames := 1, cells := 2, slots := 20, locals := 13 } : Room).cells ({ frames := 1, cells := 2, slots := 20, locals := 13 } : Room).slots) := by
  refine MetFree.of_bodySF (plainFor_of_name pn10) hisR ?_
  intro p e s m args below meth c s₁ Bd hml0 hP hK
  obtain ⟨rfl, hZ, hh⟩ := hP
  have hx := Bd.exec
  have hby := Bd.bytes
  have hml : c.maxLocals = 3 := hml0
  have hown : s.vm.findClass "com/example/clinch/clinch/broker/TransactionState" = some m.cls := findClass_of_methodNamed Bd.named
  have X0 : Stand p l e ({ frames := 1, cells := 2, slots := 20, locals := 13 } : Room) s m #[(.ref w_COMMITTED), (.ref w_COMMITTED)] below meth c s₁ [] 0 0 := Stand.of_body Bd
  have e0 : s₁.heap = h0 := by rw [← hh, Bd.state]; rfl
  have N0 := Fr.nil n0
  have pre0 : ∀ t, Steps p.tables e below (s₁.setTop (mkF m 0 #[.val (.ref w_COMMITTED), .val (.ref w_COMMITTED), .unset] [])) t → Steps p.tables e below (s₁.setTop (entryFrame m #[(.ref w_COMMITTED), (.ref w_COMMITTED)] 3)) t := fun t k => castTop (ef43 m w_COMMITTED w_COMMITTED) k
  have X0s : Stand p l e ({ frames := 1, cells := 2, slots := 20, locals := 13 } : Room) (s.setVm s.vm) m #[(.ref w_COMMITTED), (.ref w_COMMITTED)] below meth c s₁ [] 0 0 := X0
  have hZ0 : Z.Warmed39 (s.setVm s.vm).vm := hZ
  have hown0 : (s.setVm s.vm).vm.findClass "com/example/clinch/clinch/broker/TransactionState" = some m.cls := hown
  have hS0 := own_since s
  obtain ⟨S_w_OPEN, E_w_OPEN, S_w_COMMITTED, E_w_COMMITTED, S_w_ROLLED_BACK, E_w_ROLLED_BACK, S_w_PARKED, E_w_PARKED, F_ordinal_w_OPEN, F_ordinal_w_COMMITTED, F_ordinal_w_ROLLED_BACK, F_ordinal_w_PARKED, ne_w_OPEN_w_COMMITTED, ne_w_OPEN_w_ROLLED_BACK, ne_w_OPEN_w_PARKED, ne_w_COMMITTED_w_ROLLED_BACK, ne_w_COMMITTED_w_PARKED, ne_w_ROLLED_BACK_w_PARKED, -⟩ := id HW
  obtain ⟨a1, T1, h1, kk1, X1, e1, E1, hS1, hk1, hZ1, hown1, st1⟩ := ldcS X0s hx hZ0 hown0 (hw _ (List.mem_of_getElem? (i := 17) rfl)) (own_wS hw) e0 hS0 (Nat.zero_le _) (g := (mkF m 1 #[.val (.ref w_COMMITTED), .val (.ref w_COMMITTED), .unset] [(.ref w_COMMITTED)])) rfl (hb hby d2_1) (n := 16) (by decide) (by decide) (by decide) (by decide)
  replace HW := HW.ext E1
  obtain ⟨S_w_OPEN, E_w_OPEN, S_w_COMMITTED, E_w_COMMITTED, S_w_ROLLED_BACK, E_w_ROLLED_BACK, S_w_PARKED, E_w_PARKED, F_ordinal_w_OPEN, F_ordinal_w_COMMITTED, F_ordinal_w_ROLLED_BACK, F_ordinal_w_PARKED, ne_w_OPEN_w_COMMITTED, ne_w_OPEN_w_ROLLED_BACK, ne_w_OPEN_w_PARKED, ne_w_COMMITTED_w_ROLLED_BACK, ne_w_COMMITTED_w_PARKED, ne_w_ROLLED_BACK_w_PARKED, -⟩ := id HW
  obtain ⟨_, _, ⟨T2, L2, k2, n2⟩, -, X2, ⟨Lc2, hQ2, l2, y2, z2⟩, st2⟩ := Jvm.LawKit.callS X1 hx (y := (⟨"java/util/Objects", "requireNonNull", "(Ljava/lang/Object;Ljava/lang/String;)Ljava/lang/Object;"⟩ : MethodName)) hown1 (mvT hZ1 (hw _ (List.mem_of_getElem? (i := 25) rfl))) (mvT hZ1 (hw _ (List.mem_of_getElem? (i := 26) rfl))) (mvT hZ1 (hw _ (List.mem_of_getElem? (i := 27) rfl))) (mvT hZ1 (hw _ (List.mem_of_getElem? (i := 28) rfl))) (by decide) (backOf (W := 0) (rm3_4 l Z a0 hw [] w_OPEN w_COMMITTED w_ROLLED_BACK w_PARKED a1 h1 n0 (Nat.le_trans Z0 E1.1) HW) hZ1 (hw _ (List.mem_of_getElem? (i := 28) rfl)) (hw _ (List.mem_of_getElem? (i := 27) rfl)) (by decide) (by decide)) (g := (mkF m 3 #[.val (.ref w_COMMITTED), .val (.ref w_COMMITTED), .unset] [(.ref a1), (.ref w_COMMITTED)])) rfl (by rw [hml]; rfl) (argsL := [(.ref w_COMMITTED), (.ref a1)]) (rest := []) (lenOf pd21 rfl) rfl (by show 2 * 0 + _ ≤ _; exact Nat.le_of_eq rfl) (hb hby d2_3) (fun _ _ => ⟨rfl, e1, (by decide : 2 + 0 ≤ _), (by decide : 20 + 0 ≤ _)⟩)
  dsimp only [Pt.U, Pt.locs, Pt.cells, Pt.slots] at X2 l2 y2 z2 st2 hQ2
  subst l2 y2 z2
  obtain ⟨rfl, N2q, e2⟩ := hQ2
  have N2 := Fr.app N0 N2q
  obtain ⟨cq3, kq3, q3a, q3b, q3c⟩ := isOf hZ1 e2 E_w_COMMITTED
  obtain ⟨_, _, ⟨T3, L3, k3, n3⟩, -, X3, ⟨Lc3, hQ3, l3, y3, z3⟩, st3⟩ := X2.virtualBackUp hx (x := (⟨"com/example/clinch/clinch/broker/TransactionState", "ordinal", "()I"⟩ : MethodName)) (y := (⟨"java/lang/Enum", "ordinal", "()I"⟩ : MethodName)) hown1 (mvT hZ1 (hw _ (List.mem_of_getElem? (i := 29) rfl))) (mvT hZ1 (hw _ (List.mem_of_getElem? (i := 30) rfl))) (mvT hZ1 (hw _ (List.mem_of_getElem? (i := 31) rfl))) (by decide) (mvT hZ1 (hw _ (List.mem_of_getElem? (i := 33) rfl))) (mvT hZ1 (hw _ (List.mem_of_getElem? (i := 32) rfl))) (backOf (W := 0) (rm4_8 l Z a0 hw [] w_OPEN w_COMMITTED w_ROLLED_BACK w_PARKED h1 n0 (Nat.le_trans Z0 E1.1) HW) hZ1 (hw _ (List.mem_of_getElem? (i := 35) rfl)) (hw _ (List.mem_of_getElem? (i := 34) rfl)) (by decide) (by decide)) q3a q3c (g := (mkF m 8 #[.val (.ref w_COMMITTED), .val (.ref w_COMMITTED), .unset] [(.ref w_COMMITTED)])) rfl (by rw [hml]; rfl) (Steps.refl _) (argsL := []) (rest := []) (lenOf pd31 rfl) rfl (by show 2 * 0 + _ ≤ _; exact Nat.le_of_eq rfl) (hb hby d2_8) (fun _ _ => ⟨rfl, e2, (by decide : 2 + 0 ≤ _), (by decide : 20 + 0 ≤ _)⟩)
  dsimp only [Pt.U, Pt.locs, Pt.cells, Pt.slots] at X3 l3 y3 z3 st3 hQ3
  subst l3 y3 z3
  obtain ⟨rfl, N3q, e3⟩ := hQ3
  have N3 := Fr.app N2 N3q
  obtain ⟨fs, hr, hrun, hended, hW0, hW1, hW2, hsame⟩ := X3.leaveW hS1 (by rw [e3]; exact hk1) (v := some (.int (0 : Int32))) (fun h => by rw [Bd.returns] at h; cases h)
  refine ⟨_, _, pre0 _ ?_, hrun, hended, _, _, rfl, ?_, hW0, hW1, hW2, hsame.mono (by decide) (by decide)⟩
  · show Steps p.tables e below (s₁.setTop (mkF m 0 #[.val (.ref w_COMMITTED), .val (.ref w_COMMITTED), .unset] [])) _
    refine XS.aloadN X0s.here hx rfl (hb hby d2_0) rfl rfl ?_
    show Steps p.tables e below (s₁.setTop (mkF m 1 #[.val (.ref w_COMMITTED), .val (.ref w_COMMITTED), .unset] [(.ref w_COMMITTED)])) _
    refine st1 _ ?_
    show Steps p.tables e below (T1.setTop (mkF m 3 #[.val (.ref w_COMMITTED), .val (.ref w_COMMITTED), .unset] [(.ref a1), (.ref w_COMMITTED)])) _
    refine st2 _ ?_
    show Steps p.tables e below (T2.setTop (mkF m 6 #[.val (.ref w_COMMITTED), .val (.ref w_COMMITTED), .unset] [(.ref w_COMMITTED)])) _
    refine XS.pop X2.here hx rfl (hb hby d2_6) rfl rfl ?_
    show Steps p.tables e below (T2.setTop (mkF m 7 #[.val (.ref w_COMMITTED), .val (.ref w_COMMITTED), .unset] [])) _
    refine XS.aloadN X2.here hx rfl (hb hby d2_7) rfl rfl ?_
    show Steps p.tables e below (T2.setTop (mkF m 8 #[.val (.ref w_COMMITTED), .val (.ref w_COMMITTED), .unset] [(.ref w_COMMITTED)])) _
    refine st3.trans ?_
    show Steps p.tables e below (T3.setTop (mkF m 11 #[.val (.ref w_COMMITTED), .val (.ref w_COMMITTED), .unset] [(.int (1 : Int32))])) _
    refine XS.tswIn X3.here hx rfl (pc0 := 11) (pc' := 72) rfl (hb hby d2_11) rfl (by decide) (o := 61) (by decide) (by decide) (by decide) ?_
    show Steps p.tables e below (T3.setTop (mkF m 72 #[.val (.ref w_COMMITTED), .val (.ref w_COMMITTED), .unset] [])) _
    refine XS.iconst X3.here hx rfl (hb hby d2_72) ?_
    show Steps p.tables e below (T3.setTop (mkF m 73 #[.val (.ref w_COMMITTED), .val (.ref w_COMMITTED), .unset] [(.int (0 : Int32))])) _
    refine XS.istoreN X3.here hx rfl (hb hby d2_73) rfl (l' := #[.val (.ref w_COMMITTED), .val (.ref w_COMMITTED), .val (.int (0 : Int32))]) rfl ?_
    show Steps p.tables e below (T3.setTop (mkF m 74 #[.val (.ref w_COMMITTED), .val (.ref w_COMMITTED), .val (.int (0 : Int32))] [])) _
    refine XS.iloadN X3.here hx rfl (hb hby d2_74) rfl ?_
    show Steps p.tables e below (T3.setTop (mkF m 75 #[.val (.ref w_COMMITTED), .val (.ref w_COMMITTED), .val (.int (0 : Int32))] [(.int (0 : Int32))])) _
    exact retN X3 hx (t := .boolean) Bd.returns (by simp) (hb hby d2_75) hr
  · exact ⟨rfl, N3, (by show Ext h0 T3.heap; rw [e3]; exact E1)⟩
def Q3_11 (Z : State) (w_OPEN : Addr) (w_COMMITTED : Addr) (w_ROLLED_BACK : Addr) (w_PARKED : Addr) (q0 : Addr) (h0 : Heap) (n0 : Nat) (v : Option Value) (h : Heap) (L : List Loc) : Prop := v = some (.ref w_ROLLED_BACK) ∧ Fr n0 L ∧ h = h0
set_option maxRecDepth 65536 in
set_option maxHeartbeats 40000000 in
theorem rm3_11 (l : Launch) (Z : State) (a0 : Array Value) (hw : ∀ d ∈ tables_1, d.before a0 Z = true) (ws : List Jvm.Cond) (w_OPEN : Addr) (w_COMMITTED : Addr) (w_ROLLED_BACK : Addr) (w_PARKED : Addr) (q0 : Addr) (h0 : Heap) (n0 : Nat) (Z0 : n0 ≤ h0.size) (HW : World Z h0 w_OPEN w_COMMITTED w_ROLLED_BACK w_PARKED) :
    MetFree l (⟨"java/util/Objects", "requireNonNull", "(Ljava/lang/Object;Ljava/lang/String;)Ljava/lang/Object;"⟩ : MethodName) (head1 (Jvm.Cond.code (⟨"java/util/Objects", "requireNonNull", "(Ljava/lang/Object;Ljava/lang/String;)Ljava/lang/Object;"⟩ : MethodName) jdk_31_method_11_code 2 (some (.object "java/lang/Object")) :: ws) ({ frames := 0, cells := 0, slots := 0, locals := 0 } : Room)) (fun a U => a = #[(.ref w_ROLLED_BACK), (.ref q0)] ∧ Z.Warmed39 U.vm ∧ U.heap = h0) (fun _ _ _ _ _ => True) (fun _ U o U' => ∃ v L, o = .returned v ∧ Q3_11 Z w_OPEN w_COMMITTED w_ROLLED_BACK w_PARKED q0 h0 n0 v U'.heap L ∧ FrameEnd U o U' L ({ frames := 0, cells := 0, slots := 0, locals := 0 } : Room).cells ({ frames := 0, cells := 0, slots := 0, locals := 0 } : Room).slots) := by
  refine MetFree.of_bodySF (plainFor_of_name pn20) hisR ?_
  intro p e s m args below meth c s₁ Bd hml0 hP hK
  obtain ⟨rfl, hZ, hh⟩ := hP
  have hx := Bd.exec
  have hby := Bd.bytes
  have hml : c.maxLocals = 2 := hml0
  have hown : s.vm.findClass "java/util/Objects" = some m.cls := findClass_of_methodNamed Bd.named
  have X0 : Stand p l e ({ frames := 0, cells := 0, slots := 0, locals := 0 } : Room) s m #[(.ref w_ROLLED_BACK), (.ref q0)] below meth c s₁ [] 0 0 := Stand.of_body Bd
  have e0 : s₁.heap = h0 := by rw [← hh, Bd.state]; rfl
  have N0 := Fr.nil n0
  have pre0 : ∀ t, Steps p.tables e below (s₁.setTop (mkF m 0 #[.val (.ref w_ROLLED_BACK), .val (.ref q0)] [])) t → Steps p.tables e below (s₁.setTop (entryFrame m #[(.ref w_ROLLED_BACK), (.ref q0)] 2)) t := fun t k => castTop (ef19 m w_ROLLED_BACK q0) k
  obtain ⟨S_w_OPEN, E_w_OPEN, S_w_COMMITTED, E_w_COMMITTED, S_w_ROLLED_BACK, E_w_ROLLED_BACK, S_w_PARKED, E_w_PARKED, F_ordinal_w_OPEN, F_ordinal_w_COMMITTED, F_ordinal_w_ROLLED_BACK, F_ordinal_w_PARKED, ne_w_OPEN_w_COMMITTED, ne_w_OPEN_w_ROLLED_BACK, ne_w_OPEN_w_PARKED, ne_w_COMMITTED_w_ROLLED_BACK, ne_w_COMMITTED_w_PARKED, ne_w_ROLLED_BACK_w_PARKED, -⟩ := id HW
  obtain ⟨fs, hr, hrun, hended, hW, hsame⟩ := X0.leave (v := some (.ref w_ROLLED_BACK)) (fun h => by rw [Bd.returns] at h; cases h)
  refine ⟨_, _, pre0 _ ?_, hrun, hended, _, _, rfl, ?_, ⟨_, rfl⟩, hW, hsame.mono (by decide) (by decide)⟩
  · show Steps p.tables e below (s₁.setTop (mkF m 0 #[.val (.ref w_ROLLED_BACK), .val (.ref q0)] [])) _
    refine XS.aloadN X0.here hx rfl (hb hby d3_0) rfl rfl ?_
    show Steps p.tables e below (s₁.setTop (mkF m 1 #[.val (.ref w_ROLLED_BACK), .val (.ref q0)] [(.ref w_ROLLED_BACK)])) _
    refine XS.ifnonnullYes X0.here hx rfl (pc0 := 1) (pc' := 13) rfl (hb hby d3_1) rfl (by decide) (by decide) ?_
    show Steps p.tables e below (s₁.setTop (mkF m 13 #[.val (.ref w_ROLLED_BACK), .val (.ref q0)] [])) _
    refine XS.aloadN X0.here hx rfl (hb hby d3_13) rfl rfl ?_
    show Steps p.tables e below (s₁.setTop (mkF m 14 #[.val (.ref w_ROLLED_BACK), .val (.ref q0)] [(.ref w_ROLLED_BACK)])) _
    jvm_step X0.here [X0.here.top, hx, (hb hby d3_14), X0.method', Bd.returns, Value.isRef, FieldType.isReference]
    first | (intro acts; rw [hr _ acts rfl rfl rfl]) | rw [hr _ _ rfl rfl rfl]
    exact Steps.refl _
  · exact ⟨rfl, N0, e0⟩
def Q2_12 (Z : State) (w_OPEN : Addr) (w_COMMITTED : Addr) (w_ROLLED_BACK : Addr) (w_PARKED : Addr) (h0 : Heap) (n0 : Nat) (v : Option Value) (h : Heap) (L : List Loc) : Prop := v = some (.int (0 : Int32)) ∧ Fr n0 L ∧ Ext h0 h
set_option maxRecDepth 65536 in
set_option maxHeartbeats 40000000 in
theorem rm2_12 (l : Launch) (Z : State) (a0 : Array Value) (hw : ∀ d ∈ tables_1, d.before a0 Z = true) (ws : List Jvm.Cond) (w_OPEN : Addr) (w_COMMITTED : Addr) (w_ROLLED_BACK : Addr) (w_PARKED : Addr) (h0 : Heap) (n0 : Nat) (Z0 : n0 ≤ h0.size) (HW : World Z h0 w_OPEN w_COMMITTED w_ROLLED_BACK w_PARKED) :
    MetFree l (⟨"com/example/clinch/clinch/broker/TransactionState", "canMoveTo", "(Lcom/example/clinch/clinch/broker/TransactionState;)Z"⟩ : MethodName) (head1 (Jvm.Cond.code (⟨"com/example/clinch/clinch/broker/TransactionState", "canMoveTo", "(Lcom/example/clinch/clinch/broker/TransactionState;)Z"⟩ : MethodName) prog_17_method_5_code 3 (some .boolean) :: ws) ({ frames := 1, cells := 2, slots := 20, locals := 13 } : Room)) (fun a U => a = #[(.ref w_COMMITTED), (.ref w_ROLLED_BACK)] ∧ Z.Warmed39 U.vm ∧ U.heap = h0) (fun _ _ _ _ _ => True) (fun _ U o U' => ∃ v L, o = .returned v ∧ Q2_12 Z w_OPEN w_COMMITTED w_ROLLED_BACK w_PARKED h0 n0 v U'.heap L ∧ ReturnedEndW U o U' L ({ frames := 1, cells := 2, slots := 20, locals := 13 } : Room).cells ({ frames := 1, cells := 2, slots := 20, locals := 13 } : Room).slots) := by
  refine MetFree.of_bodySF (plainFor_of_name pn10) hisR ?_
  intro p e s m args below meth c s₁ Bd hml0 hP hK
  obtain ⟨rfl, hZ, hh⟩ := hP
  have hx := Bd.exec
  have hby := Bd.bytes
  have hml : c.maxLocals = 3 := hml0
  have hown : s.vm.findClass "com/example/clinch/clinch/broker/TransactionState" = some m.cls := findClass_of_methodNamed Bd.named
  have X0 : Stand p l e ({ frames := 1, cells := 2, slots := 20, locals := 13 } : Room) s m #[(.ref w_COMMITTED), (.ref w_ROLLED_BACK)] below meth c s₁ [] 0 0 := Stand.of_body Bd
  have e0 : s₁.heap = h0 := by rw [← hh, Bd.state]; rfl
  have N0 := Fr.nil n0
  have pre0 : ∀ t, Steps p.tables e below (s₁.setTop (mkF m 0 #[.val (.ref w_COMMITTED), .val (.ref w_ROLLED_BACK), .unset] [])) t → Steps p.tables e below (s₁.setTop (entryFrame m #[(.ref w_COMMITTED), (.ref w_ROLLED_BACK)] 3)) t := fun t k => castTop (ef43 m w_COMMITTED w_ROLLED_BACK) k
  have X0s : Stand p l e ({ frames := 1, cells := 2, slots := 20, locals := 13 } : Room) (s.setVm s.vm) m #[(.ref w_COMMITTED), (.ref w_ROLLED_BACK)] below meth c s₁ [] 0 0 := X0
  have hZ0 : Z.Warmed39 (s.setVm s.vm).vm := hZ
  have hown0 : (s.setVm s.vm).vm.findClass "com/example/clinch/clinch/broker/TransactionState" = some m.cls := hown
  have hS0 := own_since s
  obtain ⟨S_w_OPEN, E_w_OPEN, S_w_COMMITTED, E_w_COMMITTED, S_w_ROLLED_BACK, E_w_ROLLED_BACK, S_w_PARKED, E_w_PARKED, F_ordinal_w_OPEN, F_ordinal_w_COMMITTED, F_ordinal_w_ROLLED_BACK, F_ordinal_w_PARKED, ne_w_OPEN_w_COMMITTED, ne_w_OPEN_w_ROLLED_BACK, ne_w_OPEN_w_PARKED, ne_w_COMMITTED_w_ROLLED_BACK, ne_w_COMMITTED_w_PARKED, ne_w_ROLLED_BACK_w_PARKED, -⟩ := id HW
  obtain ⟨a1, T1, h1, kk1, X1, e1, E1, hS1, hk1, hZ1, hown1, st1⟩ := ldcS X0s hx hZ0 hown0 (hw _ (List.mem_of_getElem? (i := 17) rfl)) (own_wS hw) e0 hS0 (Nat.zero_le _) (g := (mkF m 1 #[.val (.ref w_COMMITTED), .val (.ref w_ROLLED_BACK), .unset] [(.ref w_ROLLED_BACK)])) rfl (hb hby d2_1) (n := 16) (by decide) (by decide) (by decide) (by decide)
  replace HW := HW.ext E1
  obtain ⟨S_w_OPEN, E_w_OPEN, S_w_COMMITTED, E_w_COMMITTED, S_w_ROLLED_BACK, E_w_ROLLED_BACK, S_w_PARKED, E_w_PARKED, F_ordinal_w_OPEN, F_ordinal_w_COMMITTED, F_ordinal_w_ROLLED_BACK, F_ordinal_w_PARKED, ne_w_OPEN_w_COMMITTED, ne_w_OPEN_w_ROLLED_BACK, ne_w_OPEN_w_PARKED, ne_w_COMMITTED_w_ROLLED_BACK, ne_w_COMMITTED_w_PARKED, ne_w_ROLLED_BACK_w_PARKED, -⟩ := id HW
  obtain ⟨_, _, ⟨T2, L2, k2, n2⟩, -, X2, ⟨Lc2, hQ2, l2, y2, z2⟩, st2⟩ := Jvm.LawKit.callS X1 hx (y := (⟨"java/util/Objects", "requireNonNull", "(Ljava/lang/Object;Ljava/lang/String;)Ljava/lang/Object;"⟩ : MethodName)) hown1 (mvT hZ1 (hw _ (List.mem_of_getElem? (i := 25) rfl))) (mvT hZ1 (hw _ (List.mem_of_getElem? (i := 26) rfl))) (mvT hZ1 (hw _ (List.mem_of_getElem? (i := 27) rfl))) (mvT hZ1 (hw _ (List.mem_of_getElem? (i := 28) rfl))) (by decide) (backOf (W := 0) (rm3_11 l Z a0 hw [] w_OPEN w_COMMITTED w_ROLLED_BACK w_PARKED a1 h1 n0 (Nat.le_trans Z0 E1.1) HW) hZ1 (hw _ (List.mem_of_getElem? (i := 28) rfl)) (hw _ (List.mem_of_getElem? (i := 27) rfl)) (by decide) (by decide)) (g := (mkF m 3 #[.val (.ref w_COMMITTED), .val (.ref w_ROLLED_BACK), .unset] [(.ref a1), (.ref w_ROLLED_BACK)])) rfl (by rw [hml]; rfl) (argsL := [(.ref w_ROLLED_BACK), (.ref a1)]) (rest := []) (lenOf pd21 rfl) rfl (by show 2 * 0 + _ ≤ _; exact Nat.le_of_eq rfl) (hb hby d2_3) (fun _ _ => ⟨rfl, e1, (by decide : 2 + 0 ≤ _), (by decide : 20 + 0 ≤ _)⟩)
  dsimp only [Pt.U, Pt.locs, Pt.cells, Pt.slots] at X2 l2 y2 z2 st2 hQ2
  subst l2 y2 z2
  obtain ⟨rfl, N2q, e2⟩ := hQ2
  have N2 := Fr.app N0 N2q
  obtain ⟨cq3, kq3, q3a, q3b, q3c⟩ := isOf hZ1 e2 E_w_COMMITTED
  obtain ⟨_, _, ⟨T3, L3, k3, n3⟩, -, X3, ⟨Lc3, hQ3, l3, y3, z3⟩, st3⟩ := X2.virtualBackUp hx (x := (⟨"com/example/clinch/clinch/broker/TransactionState", "ordinal", "()I"⟩ : MethodName)) (y := (⟨"java/lang/Enum", "ordinal", "()I"⟩ : MethodName)) hown1 (mvT hZ1 (hw _ (List.mem_of_getElem? (i := 29) rfl))) (mvT hZ1 (hw _ (List.mem_of_getElem? (i := 30) rfl))) (mvT hZ1 (hw _ (List.mem_of_getElem? (i := 31) rfl))) (by decide) (mvT hZ1 (hw _ (List.mem_of_getElem? (i := 33) rfl))) (mvT hZ1 (hw _ (List.mem_of_getElem? (i := 32) rfl))) (backOf (W := 0) (rm4_8 l Z a0 hw [] w_OPEN w_COMMITTED w_ROLLED_BACK w_PARKED h1 n0 (Nat.le_trans Z0 E1.1) HW) hZ1 (hw _ (List.mem_of_getElem? (i := 35) rfl)) (hw _ (List.mem_of_getElem? (i := 34) rfl)) (by decide) (by decide)) q3a q3c (g := (mkF m 8 #[.val (.ref w_COMMITTED), .val (.ref w_ROLLED_BACK), .unset] [(.ref w_COMMITTED)])) rfl (by rw [hml]; rfl) (Steps.refl _) (argsL := []) (rest := []) (lenOf pd31 rfl) rfl (by show 2 * 0 + _ ≤ _; exact Nat.le_of_eq rfl) (hb hby d2_8) (fun _ _ => ⟨rfl, e2, (by decide : 2 + 0 ≤ _), (by decide : 20 + 0 ≤ _)⟩)
  dsimp only [Pt.U, Pt.locs, Pt.cells, Pt.slots] at X3 l3 y3 z3 st3 hQ3
  subst l3 y3 z3
  obtain ⟨rfl, N3q, e3⟩ := hQ3
  have N3 := Fr.app N2 N3q
  obtain ⟨fs, hr, hrun, hended, hW0, hW1, hW2, hsame⟩ := X3.leaveW hS1 (by rw [e3]; exact hk1) (v := some (.int (0 : Int32))) (fun h => by rw [Bd.returns] at h; cases h)
  refine ⟨_, _, pre0 _ ?_, hrun, hended, _, _, rfl, ?_, hW0, hW1, hW2, hsame.mono (by decide) (by decide)⟩
  · show Steps p.tables e below (s₁.setTop (mkF m 0 #[.val (.ref w_COMMITTED), .val (.ref w_ROLLED_BACK), .unset] [])) _
    refine XS.aloadN X0s.here hx rfl (hb hby d2_0) rfl rfl ?_
    show Steps p.tables e below (s₁.setTop (mkF m 1 #[.val (.ref w_COMMITTED), .val (.ref w_ROLLED_BACK), .unset] [(.ref w_ROLLED_BACK)])) _
    refine st1 _ ?_
    show Steps p.tables e below (T1.setTop (mkF m 3 #[.val (.ref w_COMMITTED), .val (.ref w_ROLLED_BACK), .unset] [(.ref a1), (.ref w_ROLLED_BACK)])) _
    refine st2 _ ?_
    show Steps p.tables e below (T2.setTop (mkF m 6 #[.val (.ref w_COMMITTED), .val (.ref w_ROLLED_BACK), .unset] [(.ref w_ROLLED_BACK)])) _
    refine XS.pop X2.here hx rfl (hb hby d2_6) rfl rfl ?_
    show Steps p.tables e below (T2.setTop (mkF m 7 #[.val (.ref w_COMMITTED), .val (.ref w_ROLLED_BACK), .unset] [])) _
    refine XS.aloadN X2.here hx rfl (hb hby d2_7) rfl rfl ?_
    show Steps p.tables e below (T2.setTop (mkF m 8 #[.val (.ref w_COMMITTED), .val (.ref w_ROLLED_BACK), .unset] [(.ref w_COMMITTED)])) _
    refine st3.trans ?_
    show Steps p.tables e below (T3.setTop (mkF m 11 #[.val (.ref w_COMMITTED), .val (.ref w_ROLLED_BACK), .unset] [(.int (1 : Int32))])) _
    refine XS.tswIn X3.here hx rfl (pc0 := 11) (pc' := 72) rfl (hb hby d2_11) rfl (by decide) (o := 61) (by decide) (by decide) (by decide) ?_
    show Steps p.tables e below (T3.setTop (mkF m 72 #[.val (.ref w_COMMITTED), .val (.ref w_ROLLED_BACK), .unset] [])) _
    refine XS.iconst X3.here hx rfl (hb hby d2_72) ?_
    show Steps p.tables e below (T3.setTop (mkF m 73 #[.val (.ref w_COMMITTED), .val (.ref w_ROLLED_BACK), .unset] [(.int (0 : Int32))])) _
    refine XS.istoreN X3.here hx rfl (hb hby d2_73) rfl (l' := #[.val (.ref w_COMMITTED), .val (.ref w_ROLLED_BACK), .val (.int (0 : Int32))]) rfl ?_
    show Steps p.tables e below (T3.setTop (mkF m 74 #[.val (.ref w_COMMITTED), .val (.ref w_ROLLED_BACK), .val (.int (0 : Int32))] [])) _
    refine XS.iloadN X3.here hx rfl (hb hby d2_74) rfl ?_
    show Steps p.tables e below (T3.setTop (mkF m 75 #[.val (.ref w_COMMITTED), .val (.ref w_ROLLED_BACK), .val (.int (0 : Int32))] [(.int (0 : Int32))])) _
    exact retN X3 hx (t := .boolean) Bd.returns (by simp) (hb hby d2_75) hr
  · exact ⟨rfl, N3, (by show Ext h0 T3.heap; rw [e3]; exact E1)⟩
def Q3_13 (Z : State) (w_OPEN : Addr) (w_COMMITTED : Addr) (w_ROLLED_BACK : Addr) (w_PARKED : Addr) (q0 : Addr) (h0 : Heap) (n0 : Nat) (v : Option Value) (h : Heap) (L : List Loc) : Prop := v = some (.ref w_PARKED) ∧ Fr n0 L ∧ h = h0
set_option maxRecDepth 65536 in
set_option maxHeartbeats 40000000 in
theorem rm3_13 (l : Launch) (Z : State) (a0 : Array Value) (hw : ∀ d ∈ tables_1, d.before a0 Z = true) (ws : List Jvm.Cond) (w_OPEN : Addr) (w_COMMITTED : Addr) (w_ROLLED_BACK : Addr) (w_PARKED : Addr) (q0 : Addr) (h0 : Heap) (n0 : Nat) (Z0 : n0 ≤ h0.size) (HW : World Z h0 w_OPEN w_COMMITTED w_ROLLED_BACK w_PARKED) :
    MetFree l (⟨"java/util/Objects", "requireNonNull", "(Ljava/lang/Object;Ljava/lang/String;)Ljava/lang/Object;"⟩ : MethodName) (head1 (Jvm.Cond.code (⟨"java/util/Objects", "requireNonNull", "(Ljava/lang/Object;Ljava/lang/String;)Ljava/lang/Object;"⟩ : MethodName) jdk_31_method_11_code 2 (some (.object "java/lang/Object")) :: ws) ({ frames := 0, cells := 0, slots := 0, locals := 0 } : Room)) (fun a U => a = #[(.ref w_PARKED), (.ref q0)] ∧ Z.Warmed39 U.vm ∧ U.heap = h0) (fun _ _ _ _ _ => True) (fun _ U o U' => ∃ v L, o = .returned v ∧ Q3_13 Z w_OPEN w_COMMITTED w_ROLLED_BACK w_PARKED q0 h0 n0 v U'.heap L ∧ FrameEnd U o U' L ({ frames := 0, cells := 0, slots := 0, locals := 0 } : Room).cells ({ frames := 0, cells := 0, slots := 0, locals := 0 } : Room).slots) := by
  refine MetFree.of_bodySF (plainFor_of_name pn20) hisR ?_
  intro p e s m args below meth c s₁ Bd hml0 hP hK
  obtain ⟨rfl, hZ, hh⟩ := hP
  have hx := Bd.exec
  have hby := Bd.bytes
  have hml : c.maxLocals = 2 := hml0
  have hown : s.vm.findClass "java/util/Objects" = some m.cls := findClass_of_methodNamed Bd.named
  have X0 : Stand p l e ({ frames := 0, cells := 0, slots := 0, locals := 0 } : Room) s m #[(.ref w_PARKED), (.ref q0)] below meth c s₁ [] 0 0 := Stand.of_body Bd
  have e0 : s₁.heap = h0 := by rw [← hh, Bd.state]; rfl
  have N0 := Fr.nil n0
  have pre0 : ∀ t, Steps p.tables e below (s₁.setTop (mkF m 0 #[.val (.ref w_PARKED), .val (.ref q0)] [])) t → Steps p.tables e below (s₁.setTop (entryFrame m #[(.ref w_PARKED), (.ref q0)] 2)) t := fun t k => castTop (ef19 m w_PARKED q0) k
  obtain ⟨S_w_OPEN, E_w_OPEN, S_w_COMMITTED, E_w_COMMITTED, S_w_ROLLED_BACK, E_w_ROLLED_BACK, S_w_PARKED, E_w_PARKED, F_ordinal_w_OPEN, F_ordinal_w_COMMITTED, F_ordinal_w_ROLLED_BACK, F_ordinal_w_PARKED, ne_w_OPEN_w_COMMITTED, ne_w_OPEN_w_ROLLED_BACK, ne_w_OPEN_w_PARKED, ne_w_COMMITTED_w_ROLLED_BACK, ne_w_COMMITTED_w_PARKED, ne_w_ROLLED_BACK_w_PARKED, -⟩ := id HW
  obtain ⟨fs, hr, hrun, hended, hW, hsame⟩ := X0.leave (v := some (.ref w_PARKED)) (fun h => by rw [Bd.returns] at h; cases h)
  refine ⟨_, _, pre0 _ ?_, hrun, hended, _, _, rfl, ?_, ⟨_, rfl⟩, hW, hsame.mono (by decide) (by decide)⟩
  · show Steps p.tables e below (s₁.setTop (mkF m 0 #[.val (.ref w_PARKED), .val (.ref q0)] [])) _
    refine XS.aloadN X0.here hx rfl (hb hby d3_0) rfl rfl ?_
    show Steps p.tables e below (s₁.setTop (mkF m 1 #[.val (.ref w_PARKED), .val (.ref q0)] [(.ref w_PARKED)])) _
    refine XS.ifnonnullYes X0.here hx rfl (pc0 := 1) (pc' := 13) rfl (hb hby d3_1) rfl (by decide) (by decide) ?_
    show Steps p.tables e below (s₁.setTop (mkF m 13 #[.val (.ref w_PARKED), .val (.ref q0)] [])) _
    refine XS.aloadN X0.here hx rfl (hb hby d3_13) rfl rfl ?_
    show Steps p.tables e below (s₁.setTop (mkF m 14 #[.val (.ref w_PARKED), .val (.ref q0)] [(.ref w_PARKED)])) _
    jvm_step X0.here [X0.here.top, hx, (hb hby d3_14), X0.method', Bd.returns, Value.isRef, FieldType.isReference]
    first | (intro acts; rw [hr _ acts rfl rfl rfl]) | rw [hr _ _ rfl rfl rfl]
    exact Steps.refl _
  · exact ⟨rfl, N0, e0⟩
def Q2_14 (Z : State) (w_OPEN : Addr) (w_COMMITTED : Addr) (w_ROLLED_BACK : Addr) (w_PARKED : Addr) (h0 : Heap) (n0 : Nat) (v : Option Value) (h : Heap) (L : List Loc) : Prop := v = some (.int (0 : Int32)) ∧ Fr n0 L ∧ Ext h0 h
set_option maxRecDepth 65536 in
set_option maxHeartbeats 40000000 in
theorem rm2_14 (l : Launch) (Z : State) (a0 : Array Value) (hw : ∀ d ∈ tables_1, d.before a0 Z = true) (ws : List Jvm.Cond) (w_OPEN : Addr) (w_COMMITTED : Addr) (w_ROLLED_BACK : Addr) (w_PARKED : Addr) (h0 : Heap) (n0 : Nat) (Z0 : n0 ≤ h0.size) (HW : World Z h0 w_OPEN w_COMMITTED w_ROLLED_BACK w_PARKED) :
    MetFree l (⟨"com/example/clinch/clinch/broker/TransactionState", "canMoveTo", "(Lcom/example/clinch/clinch/broker/TransactionState;)Z"⟩ : MethodName) (head1 (Jvm.Cond.code (⟨"com/example/clinch/clinch/broker/TransactionState", "canMoveTo", "(Lcom/example/clinch/clinch/broker/TransactionState;)Z"⟩ : MethodName) prog_17_method_5_code 3 (some .boolean) :: ws) ({ frames := 1, cells := 2, slots := 20, locals := 13 } : Room)) (fun a U => a = #[(.ref w_COMMITTED), (.ref w_PARKED)] ∧ Z.Warmed39 U.vm ∧ U.heap = h0) (fun _ _ _ _ _ => True) (fun _ U o U' => ∃ v L, o = .returned v ∧ Q2_14 Z w_OPEN w_COMMITTED w_ROLLED_BACK w_PARKED h0 n0 v U'.heap L ∧ ReturnedEndW U o U' L ({ frames := 1, cells := 2, slots := 20, locals := 13 } : Room).cells ({ frames := 1, cells := 2, slots := 20, locals := 13 } : Room).slots) := by
  refine MetFree.of_bodySF (plainFor_of_name pn10) hisR ?_
  intro p e s m args below meth c s₁ Bd hml0 hP hK
  obtain ⟨rfl, hZ, hh⟩ := hP
  have hx := Bd.exec
  have hby := Bd.bytes
  have hml : c.maxLocals = 3 := hml0
  have hown : s.vm.findClass "com/example/clinch/clinch/broker/TransactionState" = some m.cls := findClass_of_methodNamed Bd.named
  have X0 : Stand p l e ({ frames := 1, cells := 2, slots := 20, locals := 13 } : Room) s m #[(.ref w_COMMITTED), (.ref w_PARKED)] below meth c s₁ [] 0 0 := Stand.of_body Bd
  have e0 : s₁.heap = h0 := by rw [← hh, Bd.state]; rfl
  have N0 := Fr.nil n0
  have pre0 : ∀ t, Steps p.tables e below (s₁.setTop (mkF m 0 #[.val (.ref w_COMMITTED), .val (.ref w_PARKED), .unset] [])) t → Steps p.tables e below (s₁.setTop (entryFrame m #[(.ref w_COMMITTED), (.ref w_PARKED)] 3)) t := fun t k => castTop (ef43 m w_COMMITTED w_PARKED) k
  have X0s : Stand p l e ({ frames := 1, cells := 2, slots := 20, locals := 13 } : Room) (s.setVm s.vm) m #[(.ref w_COMMITTED), (.ref w_PARKED)] below meth c s₁ [] 0 0 := X0
  have hZ0 : Z.Warmed39 (s.setVm s.vm).vm := hZ
  have hown0 : (s.setVm s.vm).vm.findClass "com/example/clinch/clinch/broker/TransactionState" = some m.cls := hown
  have hS0 := own_since s
  obtain ⟨S_w_OPEN, E_w_OPEN, S_w_COMMITTED, E_w_COMMITTED, S_w_ROLLED_BACK, E_w_ROLLED_BACK, S_w_PARKED, E_w_PARKED, F_ordinal_w_OPEN, F_ordinal_w_COMMITTED, F_ordinal_w_ROLLED_BACK, F_ordinal_w_PARKED, ne_w_OPEN_w_COMMITTED, ne_w_OPEN_w_ROLLED_BACK, ne_w_OPEN_w_PARKED, ne_w_COMMITTED_w_ROLLED_BACK, ne_w_COMMITTED_w_PARKED, ne_w_ROLLED_BACK_w_PARKED, -⟩ := id HW
  obtain ⟨a1, T1, h1, kk1, X1, e1, E1, hS1, hk1, hZ1, hown1, st1⟩ := ldcS X0s hx hZ0 hown0 (hw _ (List.mem_of_getElem? (i := 17) rfl)) (own_wS hw) e0 hS0 (Nat.zero_le _) (g := (mkF m 1 #[.val (.ref w_COMMITTED), .val (.ref w_PARKED), .unset] [(.ref w_PARKED)])) rfl (hb hby d2_1) (n := 16) (by decide) (by decide) (by decide) (by decide)
  replace HW := HW.ext E1
  obtain ⟨S_w_OPEN, E_w_OPEN, S_w_COMMITTED, E_w_COMMITTED, S_w_ROLLED_BACK, E_w_ROLLED_BACK, S_w_PARKED, E_w_PARKED, F_ordinal_w_OPEN, F_ordinal_w_COMMITTED, F_ordinal_w_ROLLED_BACK, F_ordinal_w_PARKED, ne_w_OPEN_w_COMMITTED, ne_w_OPEN_w_ROLLED_BACK, ne_w_OPEN_w_PARKED, ne_w_COMMITTED_w_ROLLED_BACK, ne_w_COMMITTED_w_PARKED, ne_w_ROLLED_BACK_w_PARKED, -⟩ := id HW
  obtain ⟨_, _, ⟨T2, L2, k2, n2⟩, -, X2, ⟨Lc2, hQ2, l2, y2, z2⟩, st2⟩ := Jvm.LawKit.callS X1 hx (y := (⟨"java/util/Objects", "requireNonNull", "(Ljava/lang/Object;Ljava/lang/String;)Ljava/lang/Object;"⟩ : MethodName)) hown1 (mvT hZ1 (hw _ (List.mem_of_getElem? (i := 25) rfl))) (mvT hZ1 (hw _ (List.mem_of_getElem? (i := 26) rfl))) (mvT hZ1 (hw _ (List.mem_of_getElem? (i := 27) rfl))) (mvT hZ1 (hw _ (List.mem_of_getElem? (i := 28) rfl))) (by decide) (backOf (W := 0) (rm3_13 l Z a0 hw [] w_OPEN w_COMMITTED w_ROLLED_BACK w_PARKED a1 h1 n0 (Nat.le_trans Z0 E1.1) HW) hZ1 (hw _ (List.mem_of_getElem? (i := 28) rfl)) (hw _ (List.mem_of_getElem? (i := 27) rfl)) (by decide) (by decide)) (g := (mkF m 3 #[.val (.ref w_COMMITTED), .val (.ref w_PARKED), .unset] [(.ref a1), (.ref w_PARKED)])) rfl (by rw [hml]; rfl) (argsL := [(.ref w_PARKED), (.ref a1)]) (rest := []) (lenOf pd21 rfl) rfl (by show 2 * 0 + _ ≤ _; exact Nat.le_of_eq rfl) (hb hby d2_3) (fun _ _ => ⟨rfl, e1, (by decide : 2 + 0 ≤ _), (by decide : 20 + 0 ≤ _)⟩)
  dsimp only [Pt.U, Pt.locs, Pt.cells, Pt.slots] at X2 l2 y2 z2 st2 hQ2
  subst l2 y2 z2
  obtain ⟨rfl, N2q, e2⟩ := hQ2
  have N2 := Fr.app N0 N2q
  obtain ⟨cq3, kq3, q3a, q3b, q3c⟩ := isOf hZ1 e2 E_w_COMMITTED
  obtain ⟨_, _, ⟨T3, L3, k3, n3⟩, -, X3, ⟨Lc3, hQ3, l3, y3, z3⟩, st3⟩ := X2.virtualBackUp hx (x := (⟨"com/example/clinch/clinch/broker/TransactionState", "ordinal", "()I"⟩ : MethodName)) (y := (⟨"java/lang/Enum", "ordinal", "()I"⟩ : MethodName)) hown1 (mvT hZ1 (hw _ (List.mem_of_getElem? (i := 29) rfl))) (mvT hZ1 (hw _ (List.mem_of_getElem? (i := 30) rfl))) (mvT hZ1 (hw _ (List.mem_of_getElem? (i := 31) rfl))) (by decide) (mvT hZ1 (hw _ (List.mem_of_getElem? (i := 33) rfl))) (mvT hZ1 (hw _ (List.mem_of_getElem? (i := 32) rfl))) (backOf (W := 0) (rm4_8 l Z a0 hw [] w_OPEN w_COMMITTED w_ROLLED_BACK w_PARKED h1 n0 (Nat.le_trans Z0 E1.1) HW) hZ1 (hw _ (List.mem_of_getElem? (i := 35) rfl)) (hw _ (List.mem_of_getElem? (i := 34) rfl)) (by decide) (by decide)) q3a q3c (g := (mkF m 8 #[.val (.ref w_COMMITTED), .val (.ref w_PARKED), .unset] [(.ref w_COMMITTED)])) rfl (by rw [hml]; rfl) (Steps.refl _) (argsL := []) (rest := []) (lenOf pd31 rfl) rfl (by show 2 * 0 + _ ≤ _; exact Nat.le_of_eq rfl) (hb hby d2_8) (fun _ _ => ⟨rfl, e2, (by decide : 2 + 0 ≤ _), (by decide : 20 + 0 ≤ _)⟩)
  dsimp only [Pt.U, Pt.locs, Pt.cells, Pt.slots] at X3 l3 y3 z3 st3 hQ3
  subst l3 y3 z3
  obtain ⟨rfl, N3q, e3⟩ := hQ3
  have N3 := Fr.app N2 N3q
  obtain ⟨fs, hr, hrun, hended, hW0, hW1, hW2, hsame⟩ := X3.leaveW hS1 (by rw [e3]; exact hk1) (v := some (.int (0 : Int32))) (fun h => by rw [Bd.returns] at h; cases h)
  refine ⟨_, _, pre0 _ ?_, hrun, hended, _, _, rfl, ?_, hW0, hW1, hW2, hsame.mono (by decide) (by decide)⟩
  · show Steps p.tables e below (s₁.setTop (mkF m 0 #[.val (.ref w_COMMITTED), .val (.ref w_PARKED), .unset] [])) _
    refine XS.aloadN X0s.here hx rfl (hb hby d2_0) rfl rfl ?_
    show Steps p.tables e below (s₁.setTop (mkF m 1 #[.val (.ref w_COMMITTED), .val (.ref w_PARKED), .unset] [(.ref w_PARKED)])) _
    refine st1 _ ?_
    show Steps p.tables e below (T1.setTop (mkF m 3 #[.val (.ref w_COMMITTED), .val (.ref w_PARKED), .unset] [(.ref a1), (.ref w_PARKED)])) _
    refine st2 _ ?_
    show Steps p.tables e below (T2.setTop (mkF m 6 #[.val (.ref w_COMMITTED), .val (.ref w_PARKED), .unset] [(.ref w_PARKED)])) _
    refine XS.pop X2.here hx rfl (hb hby d2_6) rfl rfl ?_
    show Steps p.tables e below (T2.setTop (mkF m 7 #[.val (.ref w_COMMITTED), .val (.ref w_PARKED), .unset] [])) _
    refine XS.aloadN X2.here hx rfl (hb hby d2_7) rfl rfl ?_
    show Steps p.tables e below (T2.setTop (mkF m 8 #[.val (.ref w_COMMITTED), .val (.ref w_PARKED), .unset] [(.ref w_COMMITTED)])) _
    refine st3.trans ?_
    show Steps p.tables e below (T3.setTop (mkF m 11 #[.val (.ref w_COMMITTED), .val (.ref w_PARKED), .unset] [(.int (1 : Int32))])) _
    refine XS.tswIn X3.here hx rfl (pc0 := 11) (pc' := 72) rfl (hb hby d2_11) rfl (by decide) (o := 61) (by decide) (by decide) (by decide) ?_
    show Steps p.tables e below (T3.setTop (mkF m 72 #[.val (.ref w_COMMITTED), .val (.ref w_PARKED), .unset] [])) _
    refine XS.iconst X3.here hx rfl (hb hby d2_72) ?_
    show Steps p.tables e below (T3.setTop (mkF m 73 #[.val (.ref w_COMMITTED), .val (.ref w_PARKED), .unset] [(.int (0 : Int32))])) _
    refine XS.istoreN X3.here hx rfl (hb hby d2_73) rfl (l' := #[.val (.ref w_COMMITTED), .val (.ref w_PARKED), .val (.int (0 : Int32))]) rfl ?_
    show Steps p.tables e below (T3.setTop (mkF m 74 #[.val (.ref w_COMMITTED), .val (.ref w_PARKED), .val (.int (0 : Int32))] [])) _
    refine XS.iloadN X3.here hx rfl (hb hby d2_74) rfl ?_
    show Steps p.tables e below (T3.setTop (mkF m 75 #[.val (.ref w_COMMITTED), .val (.ref w_PARKED), .val (.int (0 : Int32))] [(.int (0 : Int32))])) _
    exact retN X3 hx (t := .boolean) Bd.returns (by simp) (hb hby d2_75) hr
  · exact ⟨rfl, N3, (by show Ext h0 T3.heap; rw [e3]; exact E1)⟩
set_option maxRecDepth 65536 in
set_option maxHeartbeats 40000000 in
theorem rm0_c1 (l : Launch) (Z : State) (a0 : Array Value) (hw : ∀ d ∈ tables_1, d.before a0 Z = true) (ws : List Jvm.Cond) (w_OPEN : Addr) (w_COMMITTED : Addr) (w_ROLLED_BACK : Addr) (w_PARKED : Addr) (p1 : Int32) (h0 : Heap) (n0 : Nat) (Z0 : n0 ≤ h0.size) (HW : World Z h0 w_OPEN w_COMMITTED w_ROLLED_BACK w_PARKED) (hk : (p1 &&& (3 : Int32)) = (1 : Int32)) :
    MetFree l x (head1 (Jvm.Cond.code x code maxLocals ret :: ws) room_1) (fun a U => a = #[(.int p1)] ∧ Z.Warmed39 U.vm ∧ U.heap = h0) (fun _ _ _ _ _ => True) (fun _ U o U' => ∃ v L, o = .returned v ∧ Q0 h0 n0 v U'.heap L ∧ ReturnedEndW U o U' L room_1.cells room_1.slots) := by
  refine MetFree.of_bodySF (plainFor_of_name pn51) hisR ?_
  intro p e s m args below meth c s₁ Bd hml0 hP hK
  obtain ⟨rfl, hZ, hh⟩ := hP
  have hx := Bd.exec
  have hby := Bd.bytes
  have hml : c.maxLocals = 6 := hml0
  have hown : s.vm.findClass "com/example/clinch/clinch/broker/TransactionStateIsFinalPinLaw" = some m.cls := findClass_of_methodNamed Bd.named
  have X0 : Stand p l e room_1 s m #[(.int p1)] below meth c s₁ [] 0 0 := Stand.of_body Bd
  have e0 : s₁.heap = h0 := by rw [← hh, Bd.state]; rfl
  have N0 := Fr.nil n0
  have pre0 : ∀ t, Steps p.tables e below (s₁.setTop (mkF m 0 #[.val (.int p1), .unset, .unset, .unset, .unset, .unset] [])) t → Steps p.tables e below (s₁.setTop (entryFrame m #[(.int p1)] maxLocals)) t := fun t k => castTop (ef50 m p1) k
  have X0s : Stand p l e room_1 (s.setVm s.vm) m #[(.int p1)] below meth c s₁ [] 0 0 := X0
  have hZ0 : Z.Warmed39 (s.setVm s.vm).vm := hZ
  have hown0 : (s.setVm s.vm).vm.findClass "com/example/clinch/clinch/broker/TransactionStateIsFinalPinLaw" = some m.cls := hown
  have hS0 := own_since s
  obtain ⟨S_w_OPEN, E_w_OPEN, S_w_COMMITTED, E_w_COMMITTED, S_w_ROLLED_BACK, E_w_ROLLED_BACK, S_w_PARKED, E_w_PARKED, F_ordinal_w_OPEN, F_ordinal_w_COMMITTED, F_ordinal_w_ROLLED_BACK, F_ordinal_w_PARKED, ne_w_OPEN_w_COMMITTED, ne_w_OPEN_w_ROLLED_BACK, ne_w_OPEN_w_PARKED, ne_w_COMMITTED_w_ROLLED_BACK, ne_w_COMMITTED_w_PARKED, ne_w_ROLLED_BACK_w_PARKED, -⟩ := id HW
  obtain ⟨T1, X1, e1, st1⟩ := getS2 X0s hx hZ0 hown0 (host := "") (Or.inl (hw _ (List.mem_of_getElem? (i := 39) rfl))) Via.refl e0 S_w_COMMITTED (g := (mkF m 20 #[.val (.int p1), .val (.int (1 : Int32)), .unset, .unset, .unset, .unset] [])) rfl (hb hby at_20)
  obtain ⟨cq2, kq2, q2a, q2b, q2c⟩ := isOf hZ0 e1 E_w_COMMITTED
  obtain ⟨_, _, ⟨T2, L2, k2, n2⟩, -, X2, ⟨Lc2, hQ2, l2, y2, z2⟩, st2⟩ := X1.virtualBack hx (y := (⟨"com/example/clinch/clinch/broker/TransactionState", "isFinal", "()Z"⟩ : MethodName)) (z := (⟨"com/example/clinch/clinch/broker/TransactionState", "isFinal", "()Z"⟩ : MethodName)) hown0 (mvT hZ0 (hw _ (List.mem_of_getElem? (i := 3) rfl))) (mvT hZ0 (hw _ (List.mem_of_getElem? (i := 4) rfl))) (notFace_of_selects (args := #[]) (mvT hZ0 (hw _ (List.mem_of_getElem? (i := 6) rfl)))) (mvT hZ0 (hw _ (List.mem_of_getElem? (i := 6) rfl))) (mvT hZ0 (hw _ (List.mem_of_getElem? (i := 5) rfl))) (by decide) (backOf (W := 0) (rm1_7 l Z a0 hw [] w_OPEN w_COMMITTED w_ROLLED_BACK w_PARKED h0 n0 Z0 HW) hZ0 (hw _ (List.mem_of_getElem? (i := 7) rfl)) (hw _ (List.mem_of_getElem? (i := 1) rfl)) (by decide) (by decide)) q2a q2c (g := (mkF m 44 #[.val (.int p1), .val (.int (1 : Int32)), .val (.ref w_COMMITTED), .unset, .unset, .unset] [(.ref w_COMMITTED)])) rfl (by rw [hml]; rfl) (Steps.refl _) (argsL := []) (rest := []) (lenOf pd11 rfl) rfl (by show 2 * 0 + _ ≤ _; exact Nat.le_of_eq rfl) (hb hby at_44) (fun _ _ => ⟨rfl, e1, (by decide : 0 + 0 ≤ _), (by decide : 0 + 0 ≤ _)⟩)
  dsimp only [Pt.U, Pt.locs, Pt.cells, Pt.slots] at X2 l2 y2 z2 st2 hQ2
  subst l2 y2 z2
  obtain ⟨rfl, N2q, e2⟩ := hQ2
  have N2 := Fr.app N0 N2q
  obtain ⟨T3, X3, e3, st3⟩ := getS2 X2 hx hZ0 hown0 (host := "") (Or.inl (hw _ (List.mem_of_getElem? (i := 0) rfl))) Via.refl e2 S_w_OPEN (g := (mkF m 66 #[.val (.int p1), .val (.int (1 : Int32)), .val (.ref w_COMMITTED), .val (.int (1 : Int32)), .val (.int (1 : Int32)), .unset] [(.ref w_COMMITTED)])) rfl (hb hby at_66)
  obtain ⟨cq4, kq4, q4a, q4b, q4c⟩ := isOf hZ0 e3 E_w_COMMITTED
  obtain ⟨_, _, ⟨T4, L4, k4, n4⟩, -, X4, hS4, G4, ⟨Lc4, hQ4, l4, y4, z4⟩, st4⟩ := X3.virtualBackS hx (y := (⟨"com/example/clinch/clinch/broker/TransactionState", "canMoveTo", "(Lcom/example/clinch/clinch/broker/TransactionState;)Z"⟩ : MethodName)) (z := (⟨"com/example/clinch/clinch/broker/TransactionState", "canMoveTo", "(Lcom/example/clinch/clinch/broker/TransactionState;)Z"⟩ : MethodName)) hown0 (mvT hZ0 (hw _ (List.mem_of_getElem? (i := 12) rfl))) (mvT hZ0 (hw _ (List.mem_of_getElem? (i := 13) rfl))) (notFace_of_selects (args := #[]) (mvT hZ0 (hw _ (List.mem_of_getElem? (i := 15) rfl)))) (mvT hZ0 (hw _ (List.mem_of_getElem? (i := 15) rfl))) (mvT hZ0 (hw _ (List.mem_of_getElem? (i := 14) rfl))) (by decide) (backOfS (W := 0) (rm2_9 l Z a0 hw [] w_OPEN w_COMMITTED w_ROLLED_BACK w_PARKED h0 n0 Z0 HW) hZ0 (hw _ (List.mem_of_getElem? (i := 16) rfl)) (hw _ (List.mem_of_getElem? (i := 1) rfl)) (by decide) (by decide)) q4a q4c (g := (mkF m 69 #[.val (.int p1), .val (.int (1 : Int32)), .val (.ref w_COMMITTED), .val (.int (1 : Int32)), .val (.int (1 : Int32)), .unset] [(.ref w_OPEN), (.ref w_COMMITTED)])) rfl (by rw [hml]; rfl) (Steps.refl _) (argsL := [(.ref w_OPEN)]) (rest := []) (lenOf pd44 rfl) rfl (by show 2 * 0 + _ ≤ _; exact Nat.le_of_eq rfl) (hb hby at_69) (fun _ _ => ⟨rfl, e3, (by decide : 0 + 2 ≤ _), (by decide : 0 + 20 ≤ _)⟩)
  dsimp only [Pt.U, Pt.locs, Pt.cells, Pt.slots] at X4 l4 y4 z4 st4 hQ4 hS4 G4
  subst l4 y4 z4
  obtain ⟨X4, hS4, hZ4, hown4⟩ := rebS hS0 (by rw [e3]; exact (Nat.zero_le _)) X4 hS4 G4 hZ0 hown0
  obtain ⟨rfl, N4q, E4⟩ := hQ4
  replace HW := HW.ext E4
  obtain ⟨S_w_OPEN, E_w_OPEN, S_w_COMMITTED, E_w_COMMITTED, S_w_ROLLED_BACK, E_w_ROLLED_BACK, S_w_PARKED, E_w_PARKED, F_ordinal_w_OPEN, F_ordinal_w_COMMITTED, F_ordinal_w_ROLLED_BACK, F_ordinal_w_PARKED, ne_w_OPEN_w_COMMITTED, ne_w_OPEN_w_ROLLED_BACK, ne_w_OPEN_w_PARKED, ne_w_COMMITTED_w_ROLLED_BACK, ne_w_COMMITTED_w_PARKED, ne_w_ROLLED_BACK_w_PARKED, -⟩ := id HW
  have N4 := Fr.app N2 N4q
  obtain ⟨T5, X5, e5, st5⟩ := getS2 X4 hx hZ4 hown4 (host := "") (Or.inl (hw _ (List.mem_of_getElem? (i := 39) rfl))) Via.refl rfl S_w_COMMITTED (g := (mkF m 76 #[.val (.int p1), .val (.int (1 : Int32)), .val (.ref w_COMMITTED), .val (.int (1 : Int32)), .val (.int (1 : Int32)), .unset] [(.ref w_COMMITTED)])) rfl (hb hby at_76)
  obtain ⟨cq6, kq6, q6a, q6b, q6c⟩ := isOf hZ4 e5 E_w_COMMITTED
  obtain ⟨_, _, ⟨T6, L6, k6, n6⟩, -, X6, hS6, G6, ⟨Lc6, hQ6, l6, y6, z6⟩, st6⟩ := X5.virtualBackS hx (y := (⟨"com/example/clinch/clinch/broker/TransactionState", "canMoveTo", "(Lcom/example/clinch/clinch/broker/TransactionState;)Z"⟩ : MethodName)) (z := (⟨"com/example/clinch/clinch/broker/TransactionState", "canMoveTo", "(Lcom/example/clinch/clinch/broker/TransactionState;)Z"⟩ : MethodName)) hown4 (mvT hZ4 (hw _ (List.mem_of_getElem? (i := 12) rfl))) (mvT hZ4 (hw _ (List.mem_of_getElem? (i := 13) rfl))) (notFace_of_selects (args := #[]) (mvT hZ4 (hw _ (List.mem_of_getElem? (i := 15) rfl)))) (mvT hZ4 (hw _ (List.mem_of_getElem? (i := 15) rfl))) (mvT hZ4 (hw _ (List.mem_of_getElem? (i := 14) rfl))) (by decide) (backOfS (W := 0) (rm2_10 l Z a0 hw [] w_OPEN w_COMMITTED w_ROLLED_BACK w_PARKED T4.heap n0 (Nat.le_trans Z0 E4.1) HW) hZ4 (hw _ (List.mem_of_getElem? (i := 16) rfl)) (hw _ (List.mem_of_getElem? (i := 1) rfl)) (by decide) (by decide)) q6a q6c (g := (mkF m 79 #[.val (.int p1), .val (.int (1 : Int32)), .val (.ref w_COMMITTED), .val (.int (1 : Int32)), .val (.int (1 : Int32)), .unset] [(.ref w_COMMITTED), (.ref w_COMMITTED)])) rfl (by rw [hml]; rfl) (Steps.refl _) (argsL := [(.ref w_COMMITTED)]) (rest := []) (lenOf pd44 rfl) rfl (by show 2 * 0 + _ ≤ _; exact Nat.le_of_eq rfl) (hb hby at_79) (fun _ _ => ⟨rfl, e5, (by decide : 2 + 2 ≤ _), (by decide : 20 + 20 ≤ _)⟩)
  dsimp only [Pt.U, Pt.locs, Pt.cells, Pt.slots] at X6 l6 y6 z6 st6 hQ6 hS6 G6
  subst l6 y6 z6
  obtain ⟨X6, hS6, hZ6, hown6⟩ := rebS hS4 (by rw [e5]; exact (Nat.le_refl _)) X6 hS6 G6 hZ4 hown4
  obtain ⟨rfl, N6q, E6⟩ := hQ6
  replace HW := HW.ext E6
  obtain ⟨S_w_OPEN, E_w_OPEN, S_w_COMMITTED, E_w_COMMITTED, S_w_ROLLED_BACK, E_w_ROLLED_BACK, S_w_PARKED, E_w_PARKED, F_ordinal_w_OPEN, F_ordinal_w_COMMITTED, F_ordinal_w_ROLLED_BACK, F_ordinal_w_PARKED, ne_w_OPEN_w_COMMITTED, ne_w_OPEN_w_ROLLED_BACK, ne_w_OPEN_w_PARKED, ne_w_COMMITTED_w_ROLLED_BACK, ne_w_COMMITTED_w_PARKED, ne_w_ROLLED_BACK_w_PARKED, -⟩ := id HW
  have N6 := Fr.app N4 N6q
  obtain ⟨T7, X7, e7, st7⟩ := getS2 X6 hx hZ6 hown6 (host := "") (Or.inl (hw _ (List.mem_of_getElem? (i := 43) rfl))) Via.refl rfl S_w_ROLLED_BACK (g := (mkF m 86 #[.val (.int p1), .val (.int (1 : Int32)), .val (.ref w_COMMITTED), .val (.int (1 : Int32)), .val (.int (1 : Int32)), .unset] [(.ref w_COMMITTED)])) rfl (hb hby at_86)
  obtain ⟨cq8, kq8, q8a, q8b, q8c⟩ := isOf hZ6 e7 E_w_COMMITTED
  obtain ⟨_, _, ⟨T8, L8, k8, n8⟩, -, X8, hS8, G8, ⟨Lc8, hQ8, l8, y8, z8⟩, st8⟩ := X7.virtualBackS hx (y := (⟨"com/example/clinch/clinch/broker/TransactionState", "canMoveTo", "(Lcom/example/clinch/clinch/broker/TransactionState;)Z"⟩ : MethodName)) (z := (⟨"com/example/clinch/clinch/broker/TransactionState", "canMoveTo", "(Lcom/example/clinch/clinch/broker/TransactionState;)Z"⟩ : MethodName)) hown6 (mvT hZ6 (hw _ (List.mem_of_getElem? (i := 12) rfl))) (mvT hZ6 (hw _ (List.mem_of_getElem? (i := 13) rfl))) (notFace_of_selects (args := #[]) (mvT hZ6 (hw _ (List.mem_of_getElem? (i := 15) rfl)))) (mvT hZ6 (hw _ (List.mem_of_getElem? (i := 15) rfl))) (mvT hZ6 (hw _ (List.mem_of_getElem? (i := 14) rfl))) (by decide) (backOfS (W := 0) (rm2_12 l Z a0 hw [] w_OPEN w_COMMITTED w_ROLLED_BACK w_PARKED T6.heap n0 (Nat.le_trans (Nat.le_trans Z0 E4.1) E6.1) HW) hZ6 (hw _ (List.mem_of_getElem? (i := 16) rfl)) (hw _ (List.mem_of_getElem? (i := 1) rfl)) (by decide) (by decide)) q8a q8c (g := (mkF m 89 #[.val (.int p1), .val (.int (1 : Int32)), .val (.ref w_COMMITTED), .val (.int (1 : Int32)), .val (.int (1 : Int32)), .unset] [(.ref w_ROLLED_BACK), (.ref w_COMMITTED)])) rfl (by rw [hml]; rfl) (Steps.refl _) (argsL := [(.ref w_ROLLED_BACK)]) (rest := []) (lenOf pd44 rfl) rfl (by show 2 * 0 + _ ≤ _; exact Nat.le_of_eq rfl) (hb hby at_89) (fun _ _ => ⟨rfl, e7, (by decide : 4 + 2 ≤ _), (by decide : 40 + 20 ≤ _)⟩)
  dsimp only [Pt.U, Pt.locs, Pt.cells, Pt.slots] at X8 l8 y8 z8 st8 hQ8 hS8 G8
  subst l8 y8 z8
  obtain ⟨X8, hS8, hZ8, hown8⟩ := rebS hS6 (by rw [e7]; exact (Nat.le_refl _)) X8 hS8 G8 hZ6 hown6
  obtain ⟨rfl, N8q, E8⟩ := hQ8
  replace HW := HW.ext E8
  obtain ⟨S_w_OPEN, E_w_OPEN, S_w_COMMITTED, E_w_COMMITTED, S_w_ROLLED_BACK, E_w_ROLLED_BACK, S_w_PARKED, E_w_PARKED, F_ordinal_w_OPEN, F_ordinal_w_COMMITTED, F_ordinal_w_ROLLED_BACK, F_ordinal_w_PARKED, ne_w_OPEN_w_COMMITTED, ne_w_OPEN_w_ROLLED_BACK, ne_w_OPEN_w_PARKED, ne_w_COMMITTED_w_ROLLED_BACK, ne_w_COMMITTED_w_PARKED, ne_w_ROLLED_BACK_w_PARKED, -⟩ := id HW
  have N8 := Fr.app N6 N8q
  obtain ⟨T9, X9, e9, st9⟩ := getS2 X8 hx hZ8 hown8 (host := "") (Or.inl (hw _ (List.mem_of_getElem? (i := 40) rfl))) Via.refl rfl S_w_PARKED (g := (mkF m 96 #[.val (.int p1), .val (.int (1 : Int32)), .val (.ref w_COMMITTED), .val (.int (1 : Int32)), .val (.int (1 : Int32)), .unset] [(.ref w_COMMITTED)])) rfl (hb hby at_96)
  obtain ⟨cq10, kq10, q10a, q10b, q10c⟩ := isOf hZ8 e9 E_w_COMMITTED
  obtain ⟨_, _, ⟨T10, L10, k10, n10⟩, -, X10, hS10, G10, ⟨Lc10, hQ10, l10, y10, z10⟩, st10⟩ := X9.virtualBackS hx (y := (⟨"com/example/clinch/clinch/broker/TransactionState", "canMoveTo", "(Lcom/example/clinch/clinch/broker/TransactionState;)Z"⟩ : MethodName)) (z := (⟨"com/example/clinch/clinch/broker/TransactionState", "canMoveTo", "(Lcom/example/clinch/clinch/broker/TransactionState;)Z"⟩ : MethodName)) hown8 (mvT hZ8 (hw _ (List.mem_of_getElem? (i := 12) rfl))) (mvT hZ8 (hw _ (List.mem_of_getElem? (i := 13) rfl))) (notFace_of_selects (args := #[]) (mvT hZ8 (hw _ (List.mem_of_getElem? (i := 15) rfl)))) (mvT hZ8 (hw _ (List.mem_of_getElem? (i := 15) rfl))) (mvT hZ8 (hw _ (List.mem_of_getElem? (i := 14) rfl))) (by decide) (backOfS (W := 0) (rm2_14 l Z a0 hw [] w_OPEN w_COMMITTED w_ROLLED_BACK w_PARKED T8.heap n0 (Nat.le_trans (Nat.le_trans (Nat.le_trans Z0 E4.1) E6.1) E8.1) HW) hZ8 (hw _ (List.mem_of_getElem? (i := 16) rfl)) (hw _ (List.mem_of_getElem? (i := 1) rfl)) (by decide) (by decide)) q10a q10c (g := (mkF m 99 #[.val (.int p1), .val (.int (1 : Int32)), .val (.ref w_COMMITTED), .val (.int (1 : Int32)), .val (.int (1 : Int32)), .unset] [(.ref w_PARKED), (.ref w_COMMITTED)])) rfl (by rw [hml]; rfl) (Steps.refl _) (argsL := [(.ref w_PARKED)]) (rest := []) (lenOf pd44 rfl) rfl (by show 2 * 0 + _ ≤ _; exact Nat.le_of_eq rfl) (hb hby at_99) (fun _ _ => ⟨rfl, e9, (by decide : 6 + 2 ≤ _), (by decide : 60 + 20 ≤ _)⟩)
  dsimp only [Pt.U, Pt.locs, Pt.cells, Pt.slots] at X10 l10 y10 z10 st10 hQ10 hS10 G10
  subst l10 y10 z10
  obtain ⟨X10, hS10, hZ10, hown10⟩ := rebS hS8 (by rw [e9]; exact (Nat.le_refl _)) X10 hS10 G10 hZ8 hown8
  obtain ⟨rfl, N10q, E10⟩ := hQ10
  replace HW := HW.ext E10
  obtain ⟨S_w_OPEN, E_w_OPEN, S_w_COMMITTED, E_w_COMMITTED, S_w_ROLLED_BACK, E_w_ROLLED_BACK, S_w_PARKED, E_w_PARKED, F_ordinal_w_OPEN, F_ordinal_w_COMMITTED, F_ordinal_w_ROLLED_BACK, F_ordinal_w_PARKED, ne_w_OPEN_w_COMMITTED, ne_w_OPEN_w_ROLLED_BACK, ne_w_OPEN_w_PARKED, ne_w_COMMITTED_w_ROLLED_BACK, ne_w_COMMITTED_w_PARKED, ne_w_ROLLED_BACK_w_PARKED, -⟩ := id HW
  have N10 := Fr.app N8 N10q
  obtain ⟨fs, hr, hrun, hended, hW0, hW1, hW2, hsame⟩ := X10.leaveW hS10 (Nat.le_refl _) (v := some (.int (1 : Int32))) (fun h => by rw [Bd.returns] at h; cases h)
  refine ⟨_, _, pre0 _ ?_, hrun, hended, _, _, rfl, ?_, hW0, hW1, hW2, hsame.mono (by decide) (by decide)⟩
  · show Steps p.tables e below (s₁.setTop (mkF m 0 #[.val (.int p1), .unset, .unset, .unset, .unset, .unset] [])) _
    refine XS.iloadN X0s.here hx rfl (hb hby at_0) rfl ?_
    show Steps p.tables e below (s₁.setTop (mkF m 1 #[.val (.int p1), .unset, .unset, .unset, .unset, .unset] [(.int p1)])) _
    refine XS.iconst X0s.here hx rfl (hb hby at_1) ?_
    show Steps p.tables e below (s₁.setTop (mkF m 2 #[.val (.int p1), .unset, .unset, .unset, .unset, .unset] [(.int (3 : Int32)), (.int p1)])) _
    refine XS.iand X0s.here hx rfl (hb hby at_2) rfl ?_
    rw [hk]
    show Steps p.tables e below (s₁.setTop (mkF m 3 #[.val (.int p1), .unset, .unset, .unset, .unset, .unset] [(.int (1 : Int32))])) _
    refine XS.istoreN X0s.here hx rfl (hb hby at_3) rfl (l' := #[.val (.int p1), .val (.int (1 : Int32)), .unset, .unset, .unset, .unset]) rfl ?_
    show Steps p.tables e below (s₁.setTop (mkF m 4 #[.val (.int p1), .val (.int (1 : Int32)), .unset, .unset, .unset, .unset] [])) _
    refine XS.iloadN X0s.here hx rfl (hb hby at_4) rfl ?_
    show Steps p.tables e below (s₁.setTop (mkF m 5 #[.val (.int p1), .val (.int (1 : Int32)), .unset, .unset, .unset, .unset] [(.int (1 : Int32))])) _
    refine XS.ifYes X0s.here hx rfl (pc0 := 5) (pc' := 15) rfl (hb hby at_5) rfl ((if0 _ _).trans (feq (by decide : ¬ ((1 : Int32) = (0 : Int32)))).2) (by decide) (by decide) ?_
    show Steps p.tables e below (s₁.setTop (mkF m 15 #[.val (.int p1), .val (.int (1 : Int32)), .unset, .unset, .unset, .unset] [])) _
    refine XS.iloadN X0s.here hx rfl (hb hby at_15) rfl ?_
    show Steps p.tables e below (s₁.setTop (mkF m 16 #[.val (.int p1), .val (.int (1 : Int32)), .unset, .unset, .unset, .unset] [(.int (1 : Int32))])) _
    refine XS.iconst X0s.here hx rfl (hb hby at_16) ?_
    show Steps p.tables e below (s₁.setTop (mkF m 17 #[.val (.int p1), .val (.int (1 : Int32)), .unset, .unset, .unset, .unset] [(.int (1 : Int32)), (.int (1 : Int32))])) _
    refine XS.icmpNo X0s.here hx rfl (hb hby at_17) rfl (teq (by decide : (1 : Int32) = (1 : Int32))).2 ?_
    show Steps p.tables e below (s₁.setTop (mkF m 20 #[.val (.int p1), .val (.int (1 : Int32)), .unset, .unset, .unset, .unset] [])) _
    refine st1 _ ?_
    show Steps p.tables e below (T1.setTop (mkF m 23 #[.val (.int p1), .val (.int (1 : Int32)), .unset, .unset, .unset, .unset] [(.ref w_COMMITTED)])) _
    refine XS.astoreN X1.here hx rfl (hb hby at_23) rfl rfl (l' := #[.val (.int p1), .val (.int (1 : Int32)), .val (.ref w_COMMITTED), .unset, .unset, .unset]) rfl ?_
    show Steps p.tables e below (T1.setTop (mkF m 24 #[.val (.int p1), .val (.int (1 : Int32)), .val (.ref w_COMMITTED), .unset, .unset, .unset] [])) _
    refine XS.goto X1.here hx rfl (pc0 := 24) (pc' := 43) rfl (hb hby at_24) (by decide) (by decide) ?_
    show Steps p.tables e below (T1.setTop (mkF m 43 #[.val (.int p1), .val (.int (1 : Int32)), .val (.ref w_COMMITTED), .unset, .unset, .unset] [])) _
    refine XS.aloadN X1.here hx rfl (hb hby at_43) rfl rfl ?_
    show Steps p.tables e below (T1.setTop (mkF m 44 #[.val (.int p1), .val (.int (1 : Int32)), .val (.ref w_COMMITTED), .unset, .unset, .unset] [(.ref w_COMMITTED)])) _
    refine st2.trans ?_
    show Steps p.tables e below (T2.setTop (mkF m 47 #[.val (.int p1), .val (.int (1 : Int32)), .val (.ref w_COMMITTED), .unset, .unset, .unset] [(.int (1 : Int32))])) _
    refine XS.istoreN X2.here hx rfl (hb hby at_47) rfl (l' := #[.val (.int p1), .val (.int (1 : Int32)), .val (.ref w_COMMITTED), .val (.int (1 : Int32)), .unset, .unset]) rfl ?_
    show Steps p.tables e below (T2.setTop (mkF m 48 #[.val (.int p1), .val (.int (1 : Int32)), .val (.ref w_COMMITTED), .val (.int (1 : Int32)), .unset, .unset] [])) _
    refine XS.iloadN X2.here hx rfl (hb hby at_48) rfl ?_
    show Steps p.tables e below (T2.setTop (mkF m 49 #[.val (.int p1), .val (.int (1 : Int32)), .val (.ref w_COMMITTED), .val (.int (1 : Int32)), .unset, .unset] [(.int (1 : Int32))])) _
    refine XS.iconst X2.here hx rfl (hb hby at_49) ?_
    show Steps p.tables e below (T2.setTop (mkF m 50 #[.val (.int p1), .val (.int (1 : Int32)), .val (.ref w_COMMITTED), .val (.int (1 : Int32)), .unset, .unset] [(.int (1 : Int32)), (.int (1 : Int32))])) _
    refine XS.icmpYes X2.here hx rfl (pc0 := 50) (pc' := 58) rfl (hb hby at_50) rfl (teq (by decide : (1 : Int32) = (1 : Int32))).1 (by decide) (by decide) ?_
    show Steps p.tables e below (T2.setTop (mkF m 58 #[.val (.int p1), .val (.int (1 : Int32)), .val (.ref w_COMMITTED), .val (.int (1 : Int32)), .unset, .unset] [])) _
    refine XS.iconst X2.here hx rfl (hb hby at_58) ?_
    show Steps p.tables e below (T2.setTop (mkF m 59 #[.val (.int p1), .val (.int (1 : Int32)), .val (.ref w_COMMITTED), .val (.int (1 : Int32)), .unset, .unset] [(.int (1 : Int32))])) _
    refine XS.goto X2.here hx rfl (pc0 := 59) (pc' := 63) rfl (hb hby at_59) (by decide) (by decide) ?_
    show Steps p.tables e below (T2.setTop (mkF m 63 #[.val (.int p1), .val (.int (1 : Int32)), .val (.ref w_COMMITTED), .val (.int (1 : Int32)), .unset, .unset] [(.int (1 : Int32))])) _
    refine XS.istore X2.here hx rfl (hb hby at_63) rfl (l' := #[.val (.int p1), .val (.int (1 : Int32)), .val (.ref w_COMMITTED), .val (.int (1 : Int32)), .val (.int (1 : Int32)), .unset]) rfl ?_
    show Steps p.tables e below (T2.setTop (mkF m 65 #[.val (.int p1), .val (.int (1 : Int32)), .val (.ref w_COMMITTED), .val (.int (1 : Int32)), .val (.int (1 : Int32)), .unset] [])) _
    refine XS.aloadN X2.here hx rfl (hb hby at_65) rfl rfl ?_
    show Steps p.tables e below (T2.setTop (mkF m 66 #[.val (.int p1), .val (.int (1 : Int32)), .val (.ref w_COMMITTED), .val (.int (1 : Int32)), .val (.int (1 : Int32)), .unset] [(.ref w_COMMITTED)])) _
    refine st3 _ ?_
    show Steps p.tables e below (T3.setTop (mkF m 69 #[.val (.int p1), .val (.int (1 : Int32)), .val (.ref w_COMMITTED), .val (.int (1 : Int32)), .val (.int (1 : Int32)), .unset] [(.ref w_OPEN), (.ref w_COMMITTED)])) _
    refine st4.trans ?_
    show Steps p.tables e below (T4.setTop (mkF m 72 #[.val (.int p1), .val (.int (1 : Int32)), .val (.ref w_COMMITTED), .val (.int (1 : Int32)), .val (.int (1 : Int32)), .unset] [(.int (0 : Int32))])) _
    refine XS.ifNo X4.here hx rfl (hb hby at_72) rfl ((if0 _ _).trans (teq (by decide : (0 : Int32) = (0 : Int32))).2) ?_
    show Steps p.tables e below (T4.setTop (mkF m 75 #[.val (.int p1), .val (.int (1 : Int32)), .val (.ref w_COMMITTED), .val (.int (1 : Int32)), .val (.int (1 : Int32)), .unset] [])) _
    refine XS.aloadN X4.here hx rfl (hb hby at_75) rfl rfl ?_
    show Steps p.tables e below (T4.setTop (mkF m 76 #[.val (.int p1), .val (.int (1 : Int32)), .val (.ref w_COMMITTED), .val (.int (1 : Int32)), .val (.int (1 : Int32)), .unset] [(.ref w_COMMITTED)])) _
    refine st5 _ ?_
    show Steps p.tables e below (T5.setTop (mkF m 79 #[.val (.int p1), .val (.int (1 : Int32)), .val (.ref w_COMMITTED), .val (.int (1 : Int32)), .val (.int (1 : Int32)), .unset] [(.ref w_COMMITTED), (.ref w_COMMITTED)])) _
    refine st6.trans ?_
    show Steps p.tables e below (T6.setTop (mkF m 82 #[.val (.int p1), .val (.int (1 : Int32)), .val (.ref w_COMMITTED), .val (.int (1 : Int32)), .val (.int (1 : Int32)), .unset] [(.int (0 : Int32))])) _
    refine XS.ifNo X6.here hx rfl (hb hby at_82) rfl ((if0 _ _).trans (teq (by decide : (0 : Int32) = (0 : Int32))).2) ?_
    show Steps p.tables e below (T6.setTop (mkF m 85 #[.val (.int p1), .val (.int (1 : Int32)), .val (.ref w_COMMITTED), .val (.int (1 : Int32)), .val (.int (1 : Int32)), .unset] [])) _
    refine XS.aloadN X6.here hx rfl (hb hby at_85) rfl rfl ?_
    show Steps p.tables e below (T6.setTop (mkF m 86 #[.val (.int p1), .val (.int (1 : Int32)), .val (.ref w_COMMITTED), .val (.int (1 : Int32)), .val (.int (1 : Int32)), .unset] [(.ref w_COMMITTED)])) _
    refine st7 _ ?_
    show Steps p.tables e below (T7.setTop (mkF m 89 #[.val (.int p1), .val (.int (1 : Int32)), .val (.ref w_COMMITTED), .val (.int (1 : Int32)), .val (.int (1 : Int32)), .unset] [(.ref w_ROLLED_BACK), (.ref w_COMMITTED)])) _
    refine st8.trans ?_
    show Steps p.tables e below (T8.setTop (mkF m 92 #[.val (.int p1), .val (.int (1 : Int32)), .val (.ref w_COMMITTED), .val (.int (1 : Int32)), .val (.int (1 : Int32)), .unset] [(.int (0 : Int32))])) _
    refine XS.ifNo X8.here hx rfl (hb hby at_92) rfl ((if0 _ _).trans (teq (by decide : (0 : Int32) = (0 : Int32))).2) ?_
    show Steps p.tables e below (T8.setTop (mkF m 95 #[.val (.int p1), .val (.int (1 : Int32)), .val (.ref w_COMMITTED), .val (.int (1 : Int32)), .val (.int (1 : Int32)), .unset] [])) _
    refine XS.aloadN X8.here hx rfl (hb hby at_95) rfl rfl ?_
    show Steps p.tables e below (T8.setTop (mkF m 96 #[.val (.int p1), .val (.int (1 : Int32)), .val (.ref w_COMMITTED), .val (.int (1 : Int32)), .val (.int (1 : Int32)), .unset] [(.ref w_COMMITTED)])) _
    refine st9 _ ?_
    show Steps p.tables e below (T9.setTop (mkF m 99 #[.val (.int p1), .val (.int (1 : Int32)), .val (.ref w_COMMITTED), .val (.int (1 : Int32)), .val (.int (1 : Int32)), .unset] [(.ref w_PARKED), (.ref w_COMMITTED)])) _
    refine st10.trans ?_
    show Steps p.tables e below (T10.setTop (mkF m 102 #[.val (.int p1), .val (.int (1 : Int32)), .val (.ref w_COMMITTED), .val (.int (1 : Int32)), .val (.int (1 : Int32)), .unset] [(.int (0 : Int32))])) _
    refine XS.ifNo X10.here hx rfl (hb hby at_102) rfl ((if0 _ _).trans (teq (by decide : (0 : Int32) = (0 : Int32))).2) ?_
    show Steps p.tables e below (T10.setTop (mkF m 105 #[.val (.int p1), .val (.int (1 : Int32)), .val (.ref w_COMMITTED), .val (.int (1 : Int32)), .val (.int (1 : Int32)), .unset] [])) _
    refine XS.iconst X10.here hx rfl (hb hby at_105) ?_
    show Steps p.tables e below (T10.setTop (mkF m 106 #[.val (.int p1), .val (.int (1 : Int32)), .val (.ref w_COMMITTED), .val (.int (1 : Int32)), .val (.int (1 : Int32)), .unset] [(.int (1 : Int32))])) _
    refine XS.goto X10.here hx rfl (pc0 := 106) (pc' := 110) rfl (hb hby at_106) (by decide) (by decide) ?_
    show Steps p.tables e below (T10.setTop (mkF m 110 #[.val (.int p1), .val (.int (1 : Int32)), .val (.ref w_COMMITTED), .val (.int (1 : Int32)), .val (.int (1 : Int32)), .unset] [(.int (1 : Int32))])) _
    refine XS.istore X10.here hx rfl (hb hby at_110) rfl (l' := #[.val (.int p1), .val (.int (1 : Int32)), .val (.ref w_COMMITTED), .val (.int (1 : Int32)), .val (.int (1 : Int32)), .val (.int (1 : Int32))]) rfl ?_
    show Steps p.tables e below (T10.setTop (mkF m 112 #[.val (.int p1), .val (.int (1 : Int32)), .val (.ref w_COMMITTED), .val (.int (1 : Int32)), .val (.int (1 : Int32)), .val (.int (1 : Int32))] [])) _
    refine XS.iloadN X10.here hx rfl (hb hby at_112) rfl ?_
    show Steps p.tables e below (T10.setTop (mkF m 113 #[.val (.int p1), .val (.int (1 : Int32)), .val (.ref w_COMMITTED), .val (.int (1 : Int32)), .val (.int (1 : Int32)), .val (.int (1 : Int32))] [(.int (1 : Int32))])) _
    refine XS.iload X10.here hx rfl (hb hby at_113) rfl ?_
    show Steps p.tables e below (T10.setTop (mkF m 115 #[.val (.int p1), .val (.int (1 : Int32)), .val (.ref w_COMMITTED), .val (.int (1 : Int32)), .val (.int (1 : Int32)), .val (.int (1 : Int32))] [(.int (1 : Int32)), (.int (1 : Int32))])) _
    refine XS.icmpNo X10.here hx rfl (hb hby at_115) rfl (teq (by decide : (1 : Int32) = (1 : Int32))).2 ?_
    show Steps p.tables e below (T10.setTop (mkF m 118 #[.val (.int p1), .val (.int (1 : Int32)), .val (.ref w_COMMITTED), .val (.int (1 : Int32)), .val (.int (1 : Int32)), .val (.int (1 : Int32))] [])) _
    refine XS.iloadN X10.here hx rfl (hb hby at_118) rfl ?_
    show Steps p.tables e below (T10.setTop (mkF m 119 #[.val (.int p1), .val (.int (1 : Int32)), .val (.ref w_COMMITTED), .val (.int (1 : Int32)), .val (.int (1 : Int32)), .val (.int (1 : Int32))] [(.int (1 : Int32))])) _
    refine XS.iload X10.here hx rfl (hb hby at_119) rfl ?_
    show Steps p.tables e below (T10.setTop (mkF m 121 #[.val (.int p1), .val (.int (1 : Int32)), .val (.ref w_COMMITTED), .val (.int (1 : Int32)), .val (.int (1 : Int32)), .val (.int (1 : Int32))] [(.int (1 : Int32)), (.int (1 : Int32))])) _
    refine XS.icmpNo X10.here hx rfl (hb hby at_121) rfl (teq (by decide : (1 : Int32) = (1 : Int32))).2 ?_
    show Steps p.tables e below (T10.setTop (mkF m 124 #[.val (.int p1), .val (.int (1 : Int32)), .val (.ref w_COMMITTED), .val (.int (1 : Int32)), .val (.int (1 : Int32)), .val (.int (1 : Int32))] [])) _
    refine XS.iconst X10.here hx rfl (hb hby at_124) ?_
    show Steps p.tables e below (T10.setTop (mkF m 125 #[.val (.int p1), .val (.int (1 : Int32)), .val (.ref w_COMMITTED), .val (.int (1 : Int32)), .val (.int (1 : Int32)), .val (.int (1 : Int32))] [(.int (1 : Int32))])) _
    refine XS.goto X10.here hx rfl (pc0 := 125) (pc' := 129) rfl (hb hby at_125) (by decide) (by decide) ?_
    show Steps p.tables e below (T10.setTop (mkF m 129 #[.val (.int p1), .val (.int (1 : Int32)), .val (.ref w_COMMITTED), .val (.int (1 : Int32)), .val (.int (1 : Int32)), .val (.int (1 : Int32))] [(.int (1 : Int32))])) _
    exact retN X10 hx (t := .boolean) Bd.returns (by simp) (hb hby at_129) hr
  · exact ⟨rfl, N10⟩
def Q1_16 (Z : State) (w_OPEN : Addr) (w_COMMITTED : Addr) (w_ROLLED_BACK : Addr) (w_PARKED : Addr) (h0 : Heap) (n0 : Nat) (v : Option Value) (h : Heap) (L : List Loc) : Prop := v = some (.int (1 : Int32)) ∧ Fr n0 L ∧ h = h0
set_option maxRecDepth 65536 in
set_option maxHeartbeats 40000000 in
theorem rm1_16 (l : Launch) (Z : State) (a0 : Array Value) (hw : ∀ d ∈ tables_1, d.before a0 Z = true) (ws : List Jvm.Cond) (w_OPEN : Addr) (w_COMMITTED : Addr) (w_ROLLED_BACK : Addr) (w_PARKED : Addr) (h0 : Heap) (n0 : Nat) (Z0 : n0 ≤ h0.size) (HW : World Z h0 w_OPEN w_COMMITTED w_ROLLED_BACK w_PARKED) :
    MetFree l (⟨"com/example/clinch/clinch/broker/TransactionState", "isFinal", "()Z"⟩ : MethodName) (head1 (Jvm.Cond.code (⟨"com/example/clinch/clinch/broker/TransactionState", "isFinal", "()Z"⟩ : MethodName) prog_17_method_4_code 1 (some .boolean) :: ws) ({ frames := 0, cells := 0, slots := 0, locals := 0 } : Room)) (fun a U => a = #[(.ref w_ROLLED_BACK)] ∧ Z.Warmed39 U.vm ∧ U.heap = h0) (fun _ _ _ _ _ => True) (fun _ U o U' => ∃ v L, o = .returned v ∧ Q1_16 Z w_OPEN w_COMMITTED w_ROLLED_BACK w_PARKED h0 n0 v U'.heap L ∧ FrameEnd U o U' L ({ frames := 0, cells := 0, slots := 0, locals := 0 } : Room).cells ({ frames := 0, cells := 0, slots := 0, locals := 0 } : Room).slots) := by
  refine MetFree.of_bodySF (plainFor_of_name pn10) hisR ?_
  intro p e s m args below meth c s₁ Bd hml0 hP hK
  obtain ⟨rfl, hZ, hh⟩ := hP
  have hx := Bd.exec
  have hby := Bd.bytes
  have hml : c.maxLocals = 1 := hml0
  have hown : s.vm.findClass "com/example/clinch/clinch/broker/TransactionState" = some m.cls := findClass_of_methodNamed Bd.named
  have X0 : Stand p l e ({ frames := 0, cells := 0, slots := 0, locals := 0 } : Room) s m #[(.ref w_ROLLED_BACK)] below meth c s₁ [] 0 0 := Stand.of_body Bd
  have e0 : s₁.heap = h0 := by rw [← hh, Bd.state]; rfl
  have N0 := Fr.nil n0
  have pre0 : ∀ t, Steps p.tables e below (s₁.setTop (mkF m 0 #[.val (.ref w_ROLLED_BACK)] [])) t → Steps p.tables e below (s₁.setTop (entryFrame m #[(.ref w_ROLLED_BACK)] 1)) t := fun t k => castTop (ef9 m w_ROLLED_BACK) k
  obtain ⟨S_w_OPEN, E_w_OPEN, S_w_COMMITTED, E_w_COMMITTED, S_w_ROLLED_BACK, E_w_ROLLED_BACK, S_w_PARKED, E_w_PARKED, F_ordinal_w_OPEN, F_ordinal_w_COMMITTED, F_ordinal_w_ROLLED_BACK, F_ordinal_w_PARKED, ne_w_OPEN_w_COMMITTED, ne_w_OPEN_w_ROLLED_BACK, ne_w_OPEN_w_PARKED, ne_w_COMMITTED_w_ROLLED_BACK, ne_w_COMMITTED_w_PARKED, ne_w_ROLLED_BACK_w_PARKED, -⟩ := id HW
  obtain ⟨T1, X1, e1, st1⟩ := getS2 X0 hx hZ hown (host := "") (Or.inl (hw _ (List.mem_of_getElem? (i := 8) rfl))) Via.refl e0 S_w_COMMITTED (g := (mkF m 1 #[.val (.ref w_ROLLED_BACK)] [(.ref w_ROLLED_BACK)])) rfl (hb hby d1_1)
  obtain ⟨T2, X2, e2, st2⟩ := getS2 X1 hx hZ hown (host := "") (Or.inl (hw _ (List.mem_of_getElem? (i := 10) rfl))) Via.refl e1 S_w_ROLLED_BACK (g := (mkF m 8 #[.val (.ref w_ROLLED_BACK)] [(.ref w_ROLLED_BACK)])) rfl (hb hby d1_8)
  obtain ⟨fs, hr, hrun, hended, hW, hsame⟩ := X2.leave (v := some (.int (1 : Int32))) (fun h => by rw [Bd.returns] at h; cases h)
  refine ⟨_, _, pre0 _ ?_, hrun, hended, _, _, rfl, ?_, ⟨_, rfl⟩, hW, hsame.mono (by decide) (by decide)⟩
  · show Steps p.tables e below (s₁.setTop (mkF m 0 #[.val (.ref w_ROLLED_BACK)] [])) _
    refine XS.aloadN X0.here hx rfl (hb hby d1_0) rfl rfl ?_
    show Steps p.tables e below (s₁.setTop (mkF m 1 #[.val (.ref w_ROLLED_BACK)] [(.ref w_ROLLED_BACK)])) _
    refine st1 _ ?_
    show Steps p.tables e below (T1.setTop (mkF m 4 #[.val (.ref w_ROLLED_BACK)] [(.ref w_COMMITTED), (.ref w_ROLLED_BACK)])) _
    refine Jvm.RoadKit.acmp (g := (mkF m 4 #[.val (.ref w_ROLLED_BACK)] [(.ref w_COMMITTED), (.ref w_ROLLED_BACK)])) X1 hx rfl rfl rfl (pc0 := 4) (pc' := 7) (same := false) rfl (hb hby d1_4) rfl (decide_eq_false fun q => ne_w_COMMITTED_w_ROLLED_BACK (Value.ref.inj q).symm) (by decide) (by decide) ?_
    show Steps p.tables e below (T1.setTop (mkF m 7 #[.val (.ref w_ROLLED_BACK)] [])) _
    refine XS.aloadN X1.here hx rfl (hb hby d1_7) rfl rfl ?_
    show Steps p.tables e below (T1.setTop (mkF m 8 #[.val (.ref w_ROLLED_BACK)] [(.ref w_ROLLED_BACK)])) _
    refine st2 _ ?_
    show Steps p.tables e below (T2.setTop (mkF m 11 #[.val (.ref w_ROLLED_BACK)] [(.ref w_ROLLED_BACK), (.ref w_ROLLED_BACK)])) _
    refine Jvm.RoadKit.acmp (g := (mkF m 11 #[.val (.ref w_ROLLED_BACK)] [(.ref w_ROLLED_BACK), (.ref w_ROLLED_BACK)])) X2 hx rfl rfl rfl (pc0 := 11) (pc' := 14) (same := true) rfl (hb hby d1_11) rfl (decide_eq_true rfl) (by decide) (by decide) ?_
    show Steps p.tables e below (T2.setTop (mkF m 14 #[.val (.ref w_ROLLED_BACK)] [])) _
    refine XS.iconst X2.here hx rfl (hb hby d1_14) ?_
    show Steps p.tables e below (T2.setTop (mkF m 15 #[.val (.ref w_ROLLED_BACK)] [(.int (1 : Int32))])) _
    refine XS.goto X2.here hx rfl (pc0 := 15) (pc' := 19) rfl (hb hby d1_15) (by decide) (by decide) ?_
    show Steps p.tables e below (T2.setTop (mkF m 19 #[.val (.ref w_ROLLED_BACK)] [(.int (1 : Int32))])) _
    exact retN X2 hx (t := .boolean) Bd.returns (by simp) (hb hby d1_19) hr
  · exact ⟨rfl, N0, e2⟩
def Q4_17 (Z : State) (w_OPEN : Addr) (w_COMMITTED : Addr) (w_ROLLED_BACK : Addr) (w_PARKED : Addr) (h0 : Heap) (n0 : Nat) (v : Option Value) (h : Heap) (L : List Loc) : Prop := v = some (.int (2 : Int32)) ∧ Fr n0 L ∧ h = h0
set_option maxRecDepth 65536 in
set_option maxHeartbeats 40000000 in
theorem rm4_17 (l : Launch) (Z : State) (a0 : Array Value) (hw : ∀ d ∈ tables_1, d.before a0 Z = true) (ws : List Jvm.Cond) (w_OPEN : Addr) (w_COMMITTED : Addr) (w_ROLLED_BACK : Addr) (w_PARKED : Addr) (h0 : Heap) (n0 : Nat) (Z0 : n0 ≤ h0.size) (HW : World Z h0 w_OPEN w_COMMITTED w_ROLLED_BACK w_PARKED) :
    MetFree l (⟨"java/lang/Enum", "ordinal", "()I"⟩ : MethodName) (head1 (Jvm.Cond.code (⟨"java/lang/Enum", "ordinal", "()I"⟩ : MethodName) jdk_37_method_2_code 1 (some .int) :: ws) ({ frames := 0, cells := 0, slots := 0, locals := 0 } : Room)) (fun a U => a = #[(.ref w_ROLLED_BACK)] ∧ Z.Warmed39 U.vm ∧ U.heap = h0) (fun _ _ _ _ _ => True) (fun _ U o U' => ∃ v L, o = .returned v ∧ Q4_17 Z w_OPEN w_COMMITTED w_ROLLED_BACK w_PARKED h0 n0 v U'.heap L ∧ FrameEnd U o U' L ({ frames := 0, cells := 0, slots := 0, locals := 0 } : Room).cells ({ frames := 0, cells := 0, slots := 0, locals := 0 } : Room).slots) := by
  refine MetFree.of_bodySF (plainFor_of_name pn30) hisR ?_
  intro p e s m args below meth c s₁ Bd hml0 hP hK
  obtain ⟨rfl, hZ, hh⟩ := hP
  have hx := Bd.exec
  have hby := Bd.bytes
  have hml : c.maxLocals = 1 := hml0
  have hown : s.vm.findClass "java/lang/Enum" = some m.cls := findClass_of_methodNamed Bd.named
  have X0 : Stand p l e ({ frames := 0, cells := 0, slots := 0, locals := 0 } : Room) s m #[(.ref w_ROLLED_BACK)] below meth c s₁ [] 0 0 := Stand.of_body Bd
  have e0 : s₁.heap = h0 := by rw [← hh, Bd.state]; rfl
  have N0 := Fr.nil n0
  have pre0 : ∀ t, Steps p.tables e below (s₁.setTop (mkF m 0 #[.val (.ref w_ROLLED_BACK)] [])) t → Steps p.tables e below (s₁.setTop (entryFrame m #[(.ref w_ROLLED_BACK)] 1)) t := fun t k => castTop (ef29 m w_ROLLED_BACK) k
  obtain ⟨S_w_OPEN, E_w_OPEN, S_w_COMMITTED, E_w_COMMITTED, S_w_ROLLED_BACK, E_w_ROLLED_BACK, S_w_PARKED, E_w_PARKED, F_ordinal_w_OPEN, F_ordinal_w_COMMITTED, F_ordinal_w_ROLLED_BACK, F_ordinal_w_PARKED, ne_w_OPEN_w_COMMITTED, ne_w_OPEN_w_ROLLED_BACK, ne_w_OPEN_w_PARKED, ne_w_COMMITTED_w_ROLLED_BACK, ne_w_COMMITTED_w_PARKED, ne_w_ROLLED_BACK_w_PARKED, -⟩ := id HW
  obtain ⟨T1, X1, e1, st1⟩ := getF X0 hx hZ hown (host := "") (Or.inl (hw _ (List.mem_of_getElem? (i := 36) rfl))) Via.refl e0 F_ordinal_w_ROLLED_BACK (g := (mkF m 1 #[.val (.ref w_ROLLED_BACK)] [(.ref w_ROLLED_BACK)])) rfl rfl (hb hby d4_1)
  obtain ⟨fs, hr, hrun, hended, hW, hsame⟩ := X1.leave (v := some (.int (2 : Int32))) (fun h => by rw [Bd.returns] at h; cases h)
  refine ⟨_, _, pre0 _ ?_, hrun, hended, _, _, rfl, ?_, ⟨_, rfl⟩, hW, hsame.mono (by decide) (by decide)⟩
  · show Steps p.tables e below (s₁.setTop (mkF m 0 #[.val (.ref w_ROLLED_BACK)] [])) _
    refine XS.aloadN X0.here hx rfl (hb hby d4_0) rfl rfl ?_
    show Steps p.tables e below (s₁.setTop (mkF m 1 #[.val (.ref w_ROLLED_BACK)] [(.ref w_ROLLED_BACK)])) _
    refine st1 _ ?_
    show Steps p.tables e below (T1.setTop (mkF m 4 #[.val (.ref w_ROLLED_BACK)] [(.int (2 : Int32))])) _
    exact Jvm.RoadKit.retI X1 hx Bd.returns (hb hby d4_4) hr
  · exact ⟨rfl, N0, e1⟩
def Q2_18 (Z : State) (w_OPEN : Addr) (w_COMMITTED : Addr) (w_ROLLED_BACK : Addr) (w_PARKED : Addr) (h0 : Heap) (n0 : Nat) (v : Option Value) (h : Heap) (L : List Loc) : Prop := v = some (.int (0 : Int32)) ∧ Fr n0 L ∧ Ext h0 h
set_option maxRecDepth 65536 in
set_option maxHeartbeats 40000000 in
theorem rm2_18 (l : Launch) (Z : State) (a0 : Array Value) (hw : ∀ d ∈ tables_1, d.before a0 Z = true) (ws : List Jvm.Cond) (w_OPEN : Addr) (w_COMMITTED : Addr) (w_ROLLED_BACK : Addr) (w_PARKED : Addr) (h0 : Heap) (n0 : Nat) (Z0 : n0 ≤ h0.size) (HW : World Z h0 w_OPEN w_COMMITTED w_ROLLED_BACK w_PARKED) :
    MetFree l (⟨"com/example/clinch/clinch/broker/TransactionState", "canMoveTo", "(Lcom/example/clinch/clinch/broker/TransactionState;)Z"⟩ : MethodName) (head1 (Jvm.Cond.code (⟨"com/example/clinch/clinch/broker/TransactionState", "canMoveTo", "(Lcom/example/clinch/clinch/broker/TransactionState;)Z"⟩ : MethodName) prog_17_method_5_code 3 (some .boolean) :: ws) ({ frames := 1, cells := 2, slots := 20, locals := 13 } : Room)) (fun a U => a = #[(.ref w_ROLLED_BACK), (.ref w_OPEN)] ∧ Z.Warmed39 U.vm ∧ U.heap = h0) (fun _ _ _ _ _ => True) (fun _ U o U' => ∃ v L, o = .returned v ∧ Q2_18 Z w_OPEN w_COMMITTED w_ROLLED_BACK w_PARKED h0 n0 v U'.heap L ∧ ReturnedEndW U o U' L ({ frames := 1, cells := 2, slots := 20, locals := 13 } : Room).cells ({ frames := 1, cells := 2, slots := 20, locals := 13 } : Room).slots) := by
  refine MetFree.of_bodySF (plainFor_of_name pn10) hisR ?_
  intro p e s m args below meth c s₁ Bd hml0 hP hK
  obtain ⟨rfl, hZ, hh⟩ := hP
  have hx := Bd.exec
  have hby := Bd.bytes
  have hml : c.maxLocals = 3 := hml0
  have hown : s.vm.findClass "com/example/clinch/clinch/broker/TransactionState" = some m.cls := findClass_of_methodNamed Bd.named
  have X0 : Stand p l e ({ frames := 1, cells := 2, slots := 20, locals := 13 } : Room) s m #[(.ref w_ROLLED_BACK), (.ref w_OPEN)] below meth c s₁ [] 0 0 := Stand.of_body Bd
  have e0 : s₁.heap = h0 := by rw [← hh, Bd.state]; rfl
  have N0 := Fr.nil n0
  have pre0 : ∀ t, Steps p.tables e below (s₁.setTop (mkF m 0 #[.val (.ref w_ROLLED_BACK), .val (.ref w_OPEN), .unset] [])) t → Steps p.tables e below (s₁.setTop (entryFrame m #[(.ref w_ROLLED_BACK), (.ref w_OPEN)] 3)) t := fun t k => castTop (ef43 m w_ROLLED_BACK w_OPEN) k
  have X0s : Stand p l e ({ frames := 1, cells := 2, slots := 20, locals := 13 } : Room) (s.setVm s.vm) m #[(.ref w_ROLLED_BACK), (.ref w_OPEN)] below meth c s₁ [] 0 0 := X0
  have hZ0 : Z.Warmed39 (s.setVm s.vm).vm := hZ
  have hown0 : (s.setVm s.vm).vm.findClass "com/example/clinch/clinch/broker/TransactionState" = some m.cls := hown
  have hS0 := own_since s
  obtain ⟨S_w_OPEN, E_w_OPEN, S_w_COMMITTED, E_w_COMMITTED, S_w_ROLLED_BACK, E_w_ROLLED_BACK, S_w_PARKED, E_w_PARKED, F_ordinal_w_OPEN, F_ordinal_w_COMMITTED, F_ordinal_w_ROLLED_BACK, F_ordinal_w_PARKED, ne_w_OPEN_w_COMMITTED, ne_w_OPEN_w_ROLLED_BACK, ne_w_OPEN_w_PARKED, ne_w_COMMITTED_w_ROLLED_BACK, ne_w_COMMITTED_w_PARKED, ne_w_ROLLED_BACK_w_PARKED, -⟩ := id HW
  obtain ⟨a1, T1, h1, kk1, X1, e1, E1, hS1, hk1, hZ1, hown1, st1⟩ := ldcS X0s hx hZ0 hown0 (hw _ (List.mem_of_getElem? (i := 17) rfl)) (own_wS hw) e0 hS0 (Nat.zero_le _) (g := (mkF m 1 #[.val (.ref w_ROLLED_BACK), .val (.ref w_OPEN), .unset] [(.ref w_OPEN)])) rfl (hb hby d2_1) (n := 16) (by decide) (by decide) (by decide) (by decide)
  replace HW := HW.ext E1
  obtain ⟨S_w_OPEN, E_w_OPEN, S_w_COMMITTED, E_w_COMMITTED, S_w_ROLLED_BACK, E_w_ROLLED_BACK, S_w_PARKED, E_w_PARKED, F_ordinal_w_OPEN, F_ordinal_w_COMMITTED, F_ordinal_w_ROLLED_BACK, F_ordinal_w_PARKED, ne_w_OPEN_w_COMMITTED, ne_w_OPEN_w_ROLLED_BACK, ne_w_OPEN_w_PARKED, ne_w_COMMITTED_w_ROLLED_BACK, ne_w_COMMITTED_w_PARKED, ne_w_ROLLED_BACK_w_PARKED, -⟩ := id HW
  obtain ⟨_, _, ⟨T2, L2, k2, n2⟩, -, X2, ⟨Lc2, hQ2, l2, y2, z2⟩, st2⟩ := Jvm.LawKit.callS X1 hx (y := (⟨"java/util/Objects", "requireNonNull", "(Ljava/lang/Object;Ljava/lang/String;)Ljava/lang/Object;"⟩ : MethodName)) hown1 (mvT hZ1 (hw _ (List.mem_of_getElem? (i := 25) rfl))) (mvT hZ1 (hw _ (List.mem_of_getElem? (i := 26) rfl))) (mvT hZ1 (hw _ (List.mem_of_getElem? (i := 27) rfl))) (mvT hZ1 (hw _ (List.mem_of_getElem? (i := 28) rfl))) (by decide) (backOf (W := 0) (rm3_1 l Z a0 hw [] w_OPEN w_COMMITTED w_ROLLED_BACK w_PARKED a1 h1 n0 (Nat.le_trans Z0 E1.1) HW) hZ1 (hw _ (List.mem_of_getElem? (i := 28) rfl)) (hw _ (List.mem_of_getElem? (i := 27) rfl)) (by decide) (by decide)) (g := (mkF m 3 #[.val (.ref w_ROLLED_BACK), .val (.ref w_OPEN), .unset] [(.ref a1), (.ref w_OPEN)])) rfl (by rw [hml]; rfl) (argsL := [(.ref w_OPEN), (.ref a1)]) (rest := []) (lenOf pd21 rfl) rfl (by show 2 * 0 + _ ≤ _; exact Nat.le_of_eq rfl) (hb hby d2_3) (fun _ _ => ⟨rfl, e1, (by decide : 2 + 0 ≤ _), (by decide : 20 + 0 ≤ _)⟩)
  dsimp only [Pt.U, Pt.locs, Pt.cells, Pt.slots] at X2 l2 y2 z2 st2 hQ2
  subst l2 y2 z2
  obtain ⟨rfl, N2q, e2⟩ := hQ2
  have N2 := Fr.app N0 N2q
  obtain ⟨cq3, kq3, q3a, q3b, q3c⟩ := isOf hZ1 e2 E_w_ROLLED_BACK
  obtain ⟨_, _, ⟨T3, L3, k3, n3⟩, -, X3, ⟨Lc3, hQ3, l3, y3, z3⟩, st3⟩ := X2.virtualBackUp hx (x := (⟨"com/example/clinch/clinch/broker/TransactionState", "ordinal", "()I"⟩ : MethodName)) (y := (⟨"java/lang/Enum", "ordinal", "()I"⟩ : MethodName)) hown1 (mvT hZ1 (hw _ (List.mem_of_getElem? (i := 29) rfl))) (mvT hZ1 (hw _ (List.mem_of_getElem? (i := 30) rfl))) (mvT hZ1 (hw _ (List.mem_of_getElem? (i := 31) rfl))) (by decide) (mvT hZ1 (hw _ (List.mem_of_getElem? (i := 33) rfl))) (mvT hZ1 (hw _ (List.mem_of_getElem? (i := 32) rfl))) (backOf (W := 0) (rm4_17 l Z a0 hw [] w_OPEN w_COMMITTED w_ROLLED_BACK w_PARKED h1 n0 (Nat.le_trans Z0 E1.1) HW) hZ1 (hw _ (List.mem_of_getElem? (i := 35) rfl)) (hw _ (List.mem_of_getElem? (i := 34) rfl)) (by decide) (by decide)) q3a q3c (g := (mkF m 8 #[.val (.ref w_ROLLED_BACK), .val (.ref w_OPEN), .unset] [(.ref w_ROLLED_BACK)])) rfl (by rw [hml]; rfl) (Steps.refl _) (argsL := []) (rest := []) (lenOf pd31 rfl) rfl (by show 2 * 0 + _ ≤ _; exact Nat.le_of_eq rfl) (hb hby d2_8) (fun _ _ => ⟨rfl, e2, (by decide : 2 + 0 ≤ _), (by decide : 20 + 0 ≤ _)⟩)
  dsimp only [Pt.U, Pt.locs, Pt.cells, Pt.slots] at X3 l3 y3 z3 st3 hQ3
  subst l3 y3 z3
  obtain ⟨rfl, N3q, e3⟩ := hQ3
  have N3 := Fr.app N2 N3q
  obtain ⟨fs, hr, hrun, hended, hW0, hW1, hW2, hsame⟩ := X3.leaveW hS1 (by rw [e3]; exact hk1) (v := some (.int (0 : Int32))) (fun h => by rw [Bd.returns] at h; cases h)
  refine ⟨_, _, pre0 _ ?_, hrun, hended, _, _, rfl, ?_, hW0, hW1, hW2, hsame.mono (by decide) (by decide)⟩
  · show Steps p.tables e below (s₁.setTop (mkF m 0 #[.val (.ref w_ROLLED_BACK), .val (.ref w_OPEN), .unset] [])) _
    refine XS.aloadN X0s.here hx rfl (hb hby d2_0) rfl rfl ?_
    show Steps p.tables e below (s₁.setTop (mkF m 1 #[.val (.ref w_ROLLED_BACK), .val (.ref w_OPEN), .unset] [(.ref w_OPEN)])) _
    refine st1 _ ?_
    show Steps p.tables e below (T1.setTop (mkF m 3 #[.val (.ref w_ROLLED_BACK), .val (.ref w_OPEN), .unset] [(.ref a1), (.ref w_OPEN)])) _
    refine st2 _ ?_
    show Steps p.tables e below (T2.setTop (mkF m 6 #[.val (.ref w_ROLLED_BACK), .val (.ref w_OPEN), .unset] [(.ref w_OPEN)])) _
    refine XS.pop X2.here hx rfl (hb hby d2_6) rfl rfl ?_
    show Steps p.tables e below (T2.setTop (mkF m 7 #[.val (.ref w_ROLLED_BACK), .val (.ref w_OPEN), .unset] [])) _
    refine XS.aloadN X2.here hx rfl (hb hby d2_7) rfl rfl ?_
    show Steps p.tables e below (T2.setTop (mkF m 8 #[.val (.ref w_ROLLED_BACK), .val (.ref w_OPEN), .unset] [(.ref w_ROLLED_BACK)])) _
    refine st3.trans ?_
    show Steps p.tables e below (T3.setTop (mkF m 11 #[.val (.ref w_ROLLED_BACK), .val (.ref w_OPEN), .unset] [(.int (2 : Int32))])) _
    refine XS.tswIn X3.here hx rfl (pc0 := 11) (pc' := 72) rfl (hb hby d2_11) rfl (by decide) (o := 61) (by decide) (by decide) (by decide) ?_
    show Steps p.tables e below (T3.setTop (mkF m 72 #[.val (.ref w_ROLLED_BACK), .val (.ref w_OPEN), .unset] [])) _
    refine XS.iconst X3.here hx rfl (hb hby d2_72) ?_
    show Steps p.tables e below (T3.setTop (mkF m 73 #[.val (.ref w_ROLLED_BACK), .val (.ref w_OPEN), .unset] [(.int (0 : Int32))])) _
    refine XS.istoreN X3.here hx rfl (hb hby d2_73) rfl (l' := #[.val (.ref w_ROLLED_BACK), .val (.ref w_OPEN), .val (.int (0 : Int32))]) rfl ?_
    show Steps p.tables e below (T3.setTop (mkF m 74 #[.val (.ref w_ROLLED_BACK), .val (.ref w_OPEN), .val (.int (0 : Int32))] [])) _
    refine XS.iloadN X3.here hx rfl (hb hby d2_74) rfl ?_
    show Steps p.tables e below (T3.setTop (mkF m 75 #[.val (.ref w_ROLLED_BACK), .val (.ref w_OPEN), .val (.int (0 : Int32))] [(.int (0 : Int32))])) _
    exact retN X3 hx (t := .boolean) Bd.returns (by simp) (hb hby d2_75) hr
  · exact ⟨rfl, N3, (by show Ext h0 T3.heap; rw [e3]; exact E1)⟩
def Q2_19 (Z : State) (w_OPEN : Addr) (w_COMMITTED : Addr) (w_ROLLED_BACK : Addr) (w_PARKED : Addr) (h0 : Heap) (n0 : Nat) (v : Option Value) (h : Heap) (L : List Loc) : Prop := v = some (.int (0 : Int32)) ∧ Fr n0 L ∧ Ext h0 h
set_option maxRecDepth 65536 in
set_option maxHeartbeats 40000000 in
theorem rm2_19 (l : Launch) (Z : State) (a0 : Array Value) (hw : ∀ d ∈ tables_1, d.before a0 Z = true) (ws : List Jvm.Cond) (w_OPEN : Addr) (w_COMMITTED : Addr) (w_ROLLED_BACK : Addr) (w_PARKED : Addr) (h0 : Heap) (n0 : Nat) (Z0 : n0 ≤ h0.size) (HW : World Z h0 w_OPEN w_COMMITTED w_ROLLED_BACK w_PARKED) :
    MetFree l (⟨"com/example/clinch/clinch/broker/TransactionState", "canMoveTo", "(Lcom/example/clinch/clinch/broker/TransactionState;)Z"⟩ : MethodName) (head1 (Jvm.Cond.code (⟨"com/example/clinch/clinch/broker/TransactionState", "canMoveTo", "(Lcom/example/clinch/clinch/broker/TransactionState;)Z"⟩ : MethodName) prog_17_method_5_code 3 (some .boolean) :: ws) ({ frames := 1, cells := 2, slots := 20, locals := 13 } : Room)) (fun a U => a = #[(.ref w_ROLLED_BACK), (.ref w_COMMITTED)] ∧ Z.Warmed39 U.vm ∧ U.heap = h0) (fun _ _ _ _ _ => True) (fun _ U o U' => ∃ v L, o = .returned v ∧ Q2_19 Z w_OPEN w_COMMITTED w_ROLLED_BACK w_PARKED h0 n0 v U'.heap L ∧ ReturnedEndW U o U' L ({ frames := 1, cells := 2, slots := 20, locals := 13 } : Room).cells ({ frames := 1, cells := 2, slots := 20, locals := 13 } : Room).slots) := by
  refine MetFree.of_bodySF (plainFor_of_name pn10) hisR ?_
  intro p e s m args below meth c s₁ Bd hml0 hP hK
  obtain ⟨rfl, hZ, hh⟩ := hP
  have hx := Bd.exec
  have hby := Bd.bytes
  have hml : c.maxLocals = 3 := hml0
  have hown : s.vm.findClass "com/example/clinch/clinch/broker/TransactionState" = some m.cls := findClass_of_methodNamed Bd.named
  have X0 : Stand p l e ({ frames := 1, cells := 2, slots := 20, locals := 13 } : Room) s m #[(.ref w_ROLLED_BACK), (.ref w_COMMITTED)] below meth c s₁ [] 0 0 := Stand.of_body Bd
  have e0 : s₁.heap = h0 := by rw [← hh, Bd.state]; rfl
  have N0 := Fr.nil n0
  have pre0 : ∀ t, Steps p.tables e below (s₁.setTop (mkF m 0 #[.val (.ref w_ROLLED_BACK), .val (.ref w_COMMITTED), .unset] [])) t → Steps p.tables e below (s₁.setTop (entryFrame m #[(.ref w_ROLLED_BACK), (.ref w_COMMITTED)] 3)) t := fun t k => castTop (ef43 m w_ROLLED_BACK w_COMMITTED) k
  have X0s : Stand p l e ({ frames := 1, cells := 2, slots := 20, locals := 13 } : Room) (s.setVm s.vm) m #[(.ref w_ROLLED_BACK), (.ref w_COMMITTED)] below meth c s₁ [] 0 0 := X0
  have hZ0 : Z.Warmed39 (s.setVm s.vm).vm := hZ
  have hown0 : (s.setVm s.vm).vm.findClass "com/example/clinch/clinch/broker/TransactionState" = some m.cls := hown
  have hS0 := own_since s
  obtain ⟨S_w_OPEN, E_w_OPEN, S_w_COMMITTED, E_w_COMMITTED, S_w_ROLLED_BACK, E_w_ROLLED_BACK, S_w_PARKED, E_w_PARKED, F_ordinal_w_OPEN, F_ordinal_w_COMMITTED, F_ordinal_w_ROLLED_BACK, F_ordinal_w_PARKED, ne_w_OPEN_w_COMMITTED, ne_w_OPEN_w_ROLLED_BACK, ne_w_OPEN_w_PARKED, ne_w_COMMITTED_w_ROLLED_BACK, ne_w_COMMITTED_w_PARKED, ne_w_ROLLED_BACK_w_PARKED, -⟩ := id HW
  obtain ⟨a1, T1, h1, kk1, X1, e1, E1, hS1, hk1, hZ1, hown1, st1⟩ := ldcS X0s hx hZ0 hown0 (hw _ (List.mem_of_getElem? (i := 17) rfl)) (own_wS hw) e0 hS0 (Nat.zero_le _) (g := (mkF m 1 #[.val (.ref w_ROLLED_BACK), .val (.ref w_COMMITTED), .unset] [(.ref w_COMMITTED)])) rfl (hb hby d2_1) (n := 16) (by decide) (by decide) (by decide) (by decide)
  replace HW := HW.ext E1
  obtain ⟨S_w_OPEN, E_w_OPEN, S_w_COMMITTED, E_w_COMMITTED, S_w_ROLLED_BACK, E_w_ROLLED_BACK, S_w_PARKED, E_w_PARKED, F_ordinal_w_OPEN, F_ordinal_w_COMMITTED, F_ordinal_w_ROLLED_BACK, F_ordinal_w_PARKED, ne_w_OPEN_w_COMMITTED, ne_w_OPEN_w_ROLLED_BACK, ne_w_OPEN_w_PARKED, ne_w_COMMITTED_w_ROLLED_BACK, ne_w_COMMITTED_w_PARKED, ne_w_ROLLED_BACK_w_PARKED, -⟩ := id HW
  obtain ⟨_, _, ⟨T2, L2, k2, n2⟩, -, X2, ⟨Lc2, hQ2, l2, y2, z2⟩, st2⟩ := Jvm.LawKit.callS X1 hx (y := (⟨"java/util/Objects", "requireNonNull", "(Ljava/lang/Object;Ljava/lang/String;)Ljava/lang/Object;"⟩ : MethodName)) hown1 (mvT hZ1 (hw _ (List.mem_of_getElem? (i := 25) rfl))) (mvT hZ1 (hw _ (List.mem_of_getElem? (i := 26) rfl))) (mvT hZ1 (hw _ (List.mem_of_getElem? (i := 27) rfl))) (mvT hZ1 (hw _ (List.mem_of_getElem? (i := 28) rfl))) (by decide) (backOf (W := 0) (rm3_4 l Z a0 hw [] w_OPEN w_COMMITTED w_ROLLED_BACK w_PARKED a1 h1 n0 (Nat.le_trans Z0 E1.1) HW) hZ1 (hw _ (List.mem_of_getElem? (i := 28) rfl)) (hw _ (List.mem_of_getElem? (i := 27) rfl)) (by decide) (by decide)) (g := (mkF m 3 #[.val (.ref w_ROLLED_BACK), .val (.ref w_COMMITTED), .unset] [(.ref a1), (.ref w_COMMITTED)])) rfl (by rw [hml]; rfl) (argsL := [(.ref w_COMMITTED), (.ref a1)]) (rest := []) (lenOf pd21 rfl) rfl (by show 2 * 0 + _ ≤ _; exact Nat.le_of_eq rfl) (hb hby d2_3) (fun _ _ => ⟨rfl, e1, (by decide : 2 + 0 ≤ _), (by decide : 20 + 0 ≤ _)⟩)
  dsimp only [Pt.U, Pt.locs, Pt.cells, Pt.slots] at X2 l2 y2 z2 st2 hQ2
  subst l2 y2 z2
  obtain ⟨rfl, N2q, e2⟩ := hQ2
  have N2 := Fr.app N0 N2q
  obtain ⟨cq3, kq3, q3a, q3b, q3c⟩ := isOf hZ1 e2 E_w_ROLLED_BACK
  obtain ⟨_, _, ⟨T3, L3, k3, n3⟩, -, X3, ⟨Lc3, hQ3, l3, y3, z3⟩, st3⟩ := X2.virtualBackUp hx (x := (⟨"com/example/clinch/clinch/broker/TransactionState", "ordinal", "()I"⟩ : MethodName)) (y := (⟨"java/lang/Enum", "ordinal", "()I"⟩ : MethodName)) hown1 (mvT hZ1 (hw _ (List.mem_of_getElem? (i := 29) rfl))) (mvT hZ1 (hw _ (List.mem_of_getElem? (i := 30) rfl))) (mvT hZ1 (hw _ (List.mem_of_getElem? (i := 31) rfl))) (by decide) (mvT hZ1 (hw _ (List.mem_of_getElem? (i := 33) rfl))) (mvT hZ1 (hw _ (List.mem_of_getElem? (i := 32) rfl))) (backOf (W := 0) (rm4_17 l Z a0 hw [] w_OPEN w_COMMITTED w_ROLLED_BACK w_PARKED h1 n0 (Nat.le_trans Z0 E1.1) HW) hZ1 (hw _ (List.mem_of_getElem? (i := 35) rfl)) (hw _ (List.mem_of_getElem? (i := 34) rfl)) (by decide) (by decide)) q3a q3c (g := (mkF m 8 #[.val (.ref w_ROLLED_BACK), .val (.ref w_COMMITTED), .unset] [(.ref w_ROLLED_BACK)])) rfl (by rw [hml]; rfl) (Steps.refl _) (argsL := []) (rest := []) (lenOf pd31 rfl) rfl (by show 2 * 0 + _ ≤ _; exact Nat.le_of_eq rfl) (hb hby d2_8) (fun _ _ => ⟨rfl, e2, (by decide : 2 + 0 ≤ _), (by decide : 20 + 0 ≤ _)⟩)
  dsimp only [Pt.U, Pt.locs, Pt.cells, Pt.slots] at X3 l3 y3 z3 st3 hQ3
  subst l3 y3 z3
  obtain ⟨rfl, N3q, e3⟩ := hQ3
  have N3 := Fr.app N2 N3q
  obtain ⟨fs, hr, hrun, hended, hW0, hW1, hW2, hsame⟩ := X3.leaveW hS1 (by rw [e3]; exact hk1) (v := some (.int (0 : Int32))) (fun h => by rw [Bd.returns] at h; cases h)
  refine ⟨_, _, pre0 _ ?_, hrun, hended, _, _, rfl, ?_, hW0, hW1, hW2, hsame.mono (by decide) (by decide)⟩
  · show Steps p.tables e below (s₁.setTop (mkF m 0 #[.val (.ref w_ROLLED_BACK), .val (.ref w_COMMITTED), .unset] [])) _
    refine XS.aloadN X0s.here hx rfl (hb hby d2_0) rfl rfl ?_
    show Steps p.tables e below (s₁.setTop (mkF m 1 #[.val (.ref w_ROLLED_BACK), .val (.ref w_COMMITTED), .unset] [(.ref w_COMMITTED)])) _
    refine st1 _ ?_
    show Steps p.tables e below (T1.setTop (mkF m 3 #[.val (.ref w_ROLLED_BACK), .val (.ref w_COMMITTED), .unset] [(.ref a1), (.ref w_COMMITTED)])) _
    refine st2 _ ?_
    show Steps p.tables e below (T2.setTop (mkF m 6 #[.val (.ref w_ROLLED_BACK), .val (.ref w_COMMITTED), .unset] [(.ref w_COMMITTED)])) _
    refine XS.pop X2.here hx rfl (hb hby d2_6) rfl rfl ?_
    show Steps p.tables e below (T2.setTop (mkF m 7 #[.val (.ref w_ROLLED_BACK), .val (.ref w_COMMITTED), .unset] [])) _
    refine XS.aloadN X2.here hx rfl (hb hby d2_7) rfl rfl ?_
    show Steps p.tables e below (T2.setTop (mkF m 8 #[.val (.ref w_ROLLED_BACK), .val (.ref w_COMMITTED), .unset] [(.ref w_ROLLED_BACK)])) _
    refine st3.trans ?_
    show Steps p.tables e below (T3.setTop (mkF m 11 #[.val (.ref w_ROLLED_BACK), .val (.ref w_COMMITTED), .unset] [(.int (2 : Int32))])) _
    refine XS.tswIn X3.here hx rfl (pc0 := 11) (pc' := 72) rfl (hb hby d2_11) rfl (by decide) (o := 61) (by decide) (by decide) (by decide) ?_
    show Steps p.tables e below (T3.setTop (mkF m 72 #[.val (.ref w_ROLLED_BACK), .val (.ref w_COMMITTED), .unset] [])) _
    refine XS.iconst X3.here hx rfl (hb hby d2_72) ?_
    show Steps p.tables e below (T3.setTop (mkF m 73 #[.val (.ref w_ROLLED_BACK), .val (.ref w_COMMITTED), .unset] [(.int (0 : Int32))])) _
    refine XS.istoreN X3.here hx rfl (hb hby d2_73) rfl (l' := #[.val (.ref w_ROLLED_BACK), .val (.ref w_COMMITTED), .val (.int (0 : Int32))]) rfl ?_
    show Steps p.tables e below (T3.setTop (mkF m 74 #[.val (.ref w_ROLLED_BACK), .val (.ref w_COMMITTED), .val (.int (0 : Int32))] [])) _
    refine XS.iloadN X3.here hx rfl (hb hby d2_74) rfl ?_
    show Steps p.tables e below (T3.setTop (mkF m 75 #[.val (.ref w_ROLLED_BACK), .val (.ref w_COMMITTED), .val (.int (0 : Int32))] [(.int (0 : Int32))])) _
    exact retN X3 hx (t := .boolean) Bd.returns (by simp) (hb hby d2_75) hr
  · exact ⟨rfl, N3, (by show Ext h0 T3.heap; rw [e3]; exact E1)⟩
def Q2_20 (Z : State) (w_OPEN : Addr) (w_COMMITTED : Addr) (w_ROLLED_BACK : Addr) (w_PARKED : Addr) (h0 : Heap) (n0 : Nat) (v : Option Value) (h : Heap) (L : List Loc) : Prop := v = some (.int (0 : Int32)) ∧ Fr n0 L ∧ Ext h0 h
set_option maxRecDepth 65536 in
set_option maxHeartbeats 40000000 in
theorem rm2_20 (l : Launch) (Z : State) (a0 : Array Value) (hw : ∀ d ∈ tables_1, d.before a0 Z = true) (ws : List Jvm.Cond) (w_OPEN : Addr) (w_COMMITTED : Addr) (w_ROLLED_BACK : Addr) (w_PARKED : Addr) (h0 : Heap) (n0 : Nat) (Z0 : n0 ≤ h0.size) (HW : World Z h0 w_OPEN w_COMMITTED w_ROLLED_BACK w_PARKED) :
    MetFree l (⟨"com/example/clinch/clinch/broker/TransactionState", "canMoveTo", "(Lcom/example/clinch/clinch/broker/TransactionState;)Z"⟩ : MethodName) (head1 (Jvm.Cond.code (⟨"com/example/clinch/clinch/broker/TransactionState", "canMoveTo", "(Lcom/example/clinch/clinch/broker/TransactionState;)Z"⟩ : MethodName) prog_17_method_5_code 3 (some .boolean) :: ws) ({ frames := 1, cells := 2, slots := 20, locals := 13 } : Room)) (fun a U => a = #[(.ref w_ROLLED_BACK), (.ref w_ROLLED_BACK)] ∧ Z.Warmed39 U.vm ∧ U.heap = h0) (fun _ _ _ _ _ => True) (fun _ U o U' => ∃ v L, o = .returned v ∧ Q2_20 Z w_OPEN w_COMMITTED w_ROLLED_BACK w_PARKED h0 n0 v U'.heap L ∧ ReturnedEndW U o U' L ({ frames := 1, cells := 2, slots := 20, locals := 13 } : Room).cells ({ frames := 1, cells := 2, slots := 20, locals := 13 } : Room).slots) := by
  refine MetFree.of_bodySF (plainFor_of_name pn10) hisR ?_
  intro p e s m args below meth c s₁ Bd hml0 hP hK
  obtain ⟨rfl, hZ, hh⟩ := hP
  have hx := Bd.exec
  have hby := Bd.bytes
  have hml : c.maxLocals = 3 := hml0
  have hown : s.vm.findClass "com/example/clinch/clinch/broker/TransactionState" = some m.cls := findClass_of_methodNamed Bd.named
  have X0 : Stand p l e ({ frames := 1, cells := 2, slots := 20, locals := 13 } : Room) s m #[(.ref w_ROLLED_BACK), (.ref w_ROLLED_BACK)] below meth c s₁ [] 0 0 := Stand.of_body Bd
  have e0 : s₁.heap = h0 := by rw [← hh, Bd.state]; rfl
  have N0 := Fr.nil n0
  have pre0 : ∀ t, Steps p.tables e below (s₁.setTop (mkF m 0 #[.val (.ref w_ROLLED_BACK), .val (.ref w_ROLLED_BACK), .unset] [])) t → Steps p.tables e below (s₁.setTop (entryFrame m #[(.ref w_ROLLED_BACK), (.ref w_ROLLED_BACK)] 3)) t := fun t k => castTop (ef43 m w_ROLLED_BACK w_ROLLED_BACK) k
  have X0s : Stand p l e ({ frames := 1, cells := 2, slots := 20, locals := 13 } : Room) (s.setVm s.vm) m #[(.ref w_ROLLED_BACK), (.ref w_ROLLED_BACK)] below meth c s₁ [] 0 0 := X0
  have hZ0 : Z.Warmed39 (s.setVm s.vm).vm := hZ
  have hown0 : (s.setVm s.vm).vm.findClass "com/example/clinch/clinch/broker/TransactionState" = some m.cls := hown
  have hS0 := own_since s
  obtain ⟨S_w_OPEN, E_w_OPEN, S_w_COMMITTED, E_w_COMMITTED, S_w_ROLLED_BACK, E_w_ROLLED_BACK, S_w_PARKED, E_w_PARKED, F_ordinal_w_OPEN, F_ordinal_w_COMMITTED, F_ordinal_w_ROLLED_BACK, F_ordinal_w_PARKED, ne_w_OPEN_w_COMMITTED, ne_w_OPEN_w_ROLLED_BACK, ne_w_OPEN_w_PARKED, ne_w_COMMITTED_w_ROLLED_BACK, ne_w_COMMITTED_w_PARKED, ne_w_ROLLED_BACK_w_PARKED, -⟩ := id HW
  obtain ⟨a1, T1, h1, kk1, X1, e1, E1, hS1, hk1, hZ1, hown1, st1⟩ := ldcS X0s hx hZ0 hown0 (hw _ (List.mem_of_getElem? (i := 17) rfl)) (own_wS hw) e0 hS0 (Nat.zero_le _) (g := (mkF m 1 #[.val (.ref w_ROLLED_BACK), .val (.ref w_ROLLED_BACK), .unset] [(.ref w_ROLLED_BACK)])) rfl (hb hby d2_1) (n := 16) (by decide) (by decide) (by decide) (by decide)
  replace HW := HW.ext E1
  obtain ⟨S_w_OPEN, E_w_OPEN, S_w_COMMITTED, E_w_COMMITTED, S_w_ROLLED_BACK, E_w_ROLLED_BACK, S_w_PARKED, E_w_PARKED, F_ordinal_w_OPEN, F_ordinal_w_COMMITTED, F_ordinal_w_ROLLED_BACK, F_ordinal_w_PARKED, ne_w_OPEN_w_COMMITTED, ne_w_OPEN_w_ROLLED_BACK, ne_w_OPEN_w_PARKED, ne_w_COMMITTED_w_ROLLED_BACK, ne_w_COMMITTED_w_PARKED, ne_w_ROLLED_BACK_w_PARKED, -⟩ := id HW
  obtain ⟨_, _, ⟨T2, L2, k2, n2⟩, -, X2, ⟨Lc2, hQ2, l2, y2, z2⟩, st2⟩ := Jvm.LawKit.callS X1 hx (y := (⟨"java/util/Objects", "requireNonNull", "(Ljava/lang/Object;Ljava/lang/String;)Ljava/lang/Object;"⟩ : MethodName)) hown1 (mvT hZ1 (hw _ (List.mem_of_getElem? (i := 25) rfl))) (mvT hZ1 (hw _ (List.mem_of_getElem? (i := 26) rfl))) (mvT hZ1 (hw _ (List.mem_of_getElem? (i := 27) rfl))) (mvT hZ1 (hw _ (List.mem_of_getElem? (i := 28) rfl))) (by decide) (backOf (W := 0) (rm3_11 l Z a0 hw [] w_OPEN w_COMMITTED w_ROLLED_BACK w_PARKED a1 h1 n0 (Nat.le_trans Z0 E1.1) HW) hZ1 (hw _ (List.mem_of_getElem? (i := 28) rfl)) (hw _ (List.mem_of_getElem? (i := 27) rfl)) (by decide) (by decide)) (g := (mkF m 3 #[.val (.ref w_ROLLED_BACK), .val (.ref w_ROLLED_BACK), .unset] [(.ref a1), (.ref w_ROLLED_BACK)])) rfl (by rw [hml]; rfl) (argsL := [(.ref w_ROLLED_BACK), (.ref a1)]) (rest := []) (lenOf pd21 rfl) rfl (by show 2 * 0 + _ ≤ _; exact Nat.le_of_eq rfl) (hb hby d2_3) (fun _ _ => ⟨rfl, e1, (by decide : 2 + 0 ≤ _), (by decide : 20 + 0 ≤ _)⟩)
  dsimp only [Pt.U, Pt.locs, Pt.cells, Pt.slots] at X2 l2 y2 z2 st2 hQ2
  subst l2 y2 z2
  obtain ⟨rfl, N2q, e2⟩ := hQ2
  have N2 := Fr.app N0 N2q
  obtain ⟨cq3, kq3, q3a, q3b, q3c⟩ := isOf hZ1 e2 E_w_ROLLED_BACK
  obtain ⟨_, _, ⟨T3, L3, k3, n3⟩, -, X3, ⟨Lc3, hQ3, l3, y3, z3⟩, st3⟩ := X2.virtualBackUp hx (x := (⟨"com/example/clinch/clinch/broker/TransactionState", "ordinal", "()I"⟩ : MethodName)) (y := (⟨"java/lang/Enum", "ordinal", "()I"⟩ : MethodName)) hown1 (mvT hZ1 (hw _ (List.mem_of_getElem? (i := 29) rfl))) (mvT hZ1 (hw _ (List.mem_of_getElem? (i := 30) rfl))) (mvT hZ1 (hw _ (List.mem_of_getElem? (i := 31) rfl))) (by decide) (mvT hZ1 (hw _ (List.mem_of_getElem? (i := 33) rfl))) (mvT hZ1 (hw _ (List.mem_of_getElem? (i := 32) rfl))) (backOf (W := 0) (rm4_17 l Z a0 hw [] w_OPEN w_COMMITTED w_ROLLED_BACK w_PARKED h1 n0 (Nat.le_trans Z0 E1.1) HW) hZ1 (hw _ (List.mem_of_getElem? (i := 35) rfl)) (hw _ (List.mem_of_getElem? (i := 34) rfl)) (by decide) (by decide)) q3a q3c (g := (mkF m 8 #[.val (.ref w_ROLLED_BACK), .val (.ref w_ROLLED_BACK), .unset] [(.ref w_ROLLED_BACK)])) rfl (by rw [hml]; rfl) (Steps.refl _) (argsL := []) (rest := []) (lenOf pd31 rfl) rfl (by show 2 * 0 + _ ≤ _; exact Nat.le_of_eq rfl) (hb hby d2_8) (fun _ _ => ⟨rfl, e2, (by decide : 2 + 0 ≤ _), (by decide : 20 + 0 ≤ _)⟩)
  dsimp only [Pt.U, Pt.locs, Pt.cells, Pt.slots] at X3 l3 y3 z3 st3 hQ3
  subst l3 y3 z3
  obtain ⟨rfl, N3q, e3⟩ := hQ3
  have N3 := Fr.app N2 N3q
  obtain ⟨fs, hr, hrun, hended, hW0, hW1, hW2, hsame⟩ := X3.leaveW hS1 (by rw [e3]; exact hk1) (v := some (.int (0 : Int32))) (fun h => by rw [Bd.returns] at h; cases h)
  refine ⟨_, _, pre0 _ ?_, hrun, hended, _, _, rfl, ?_, hW0, hW1, hW2, hsame.mono (by decide) (by decide)⟩
  · show Steps p.tables e below (s₁.setTop (mkF m 0 #[.val (.ref w_ROLLED_BACK), .val (.ref w_ROLLED_BACK), .unset] [])) _
    refine XS.aloadN X0s.here hx rfl (hb hby d2_0) rfl rfl ?_
    show Steps p.tables e below (s₁.setTop (mkF m 1 #[.val (.ref w_ROLLED_BACK), .val (.ref w_ROLLED_BACK), .unset] [(.ref w_ROLLED_BACK)])) _
    refine st1 _ ?_
    show Steps p.tables e below (T1.setTop (mkF m 3 #[.val (.ref w_ROLLED_BACK), .val (.ref w_ROLLED_BACK), .unset] [(.ref a1), (.ref w_ROLLED_BACK)])) _
    refine st2 _ ?_
    show Steps p.tables e below (T2.setTop (mkF m 6 #[.val (.ref w_ROLLED_BACK), .val (.ref w_ROLLED_BACK), .unset] [(.ref w_ROLLED_BACK)])) _
    refine XS.pop X2.here hx rfl (hb hby d2_6) rfl rfl ?_
    show Steps p.tables e below (T2.setTop (mkF m 7 #[.val (.ref w_ROLLED_BACK), .val (.ref w_ROLLED_BACK), .unset] [])) _
    refine XS.aloadN X2.here hx rfl (hb hby d2_7) rfl rfl ?_
    show Steps p.tables e below (T2.setTop (mkF m 8 #[.val (.ref w_ROLLED_BACK), .val (.ref w_ROLLED_BACK), .unset] [(.ref w_ROLLED_BACK)])) _
    refine st3.trans ?_
    show Steps p.tables e below (T3.setTop (mkF m 11 #[.val (.ref w_ROLLED_BACK), .val (.ref w_ROLLED_BACK), .unset] [(.int (2 : Int32))])) _
    refine XS.tswIn X3.here hx rfl (pc0 := 11) (pc' := 72) rfl (hb hby d2_11) rfl (by decide) (o := 61) (by decide) (by decide) (by decide) ?_
    show Steps p.tables e below (T3.setTop (mkF m 72 #[.val (.ref w_ROLLED_BACK), .val (.ref w_ROLLED_BACK), .unset] [])) _
    refine XS.iconst X3.here hx rfl (hb hby d2_72) ?_
    show Steps p.tables e below (T3.setTop (mkF m 73 #[.val (.ref w_ROLLED_BACK), .val (.ref w_ROLLED_BACK), .unset] [(.int (0 : Int32))])) _
    refine XS.istoreN X3.here hx rfl (hb hby d2_73) rfl (l' := #[.val (.ref w_ROLLED_BACK), .val (.ref w_ROLLED_BACK), .val (.int (0 : Int32))]) rfl ?_
    show Steps p.tables e below (T3.setTop (mkF m 74 #[.val (.ref w_ROLLED_BACK), .val (.ref w_ROLLED_BACK), .val (.int (0 : Int32))] [])) _
    refine XS.iloadN X3.here hx rfl (hb hby d2_74) rfl ?_
    show Steps p.tables e below (T3.setTop (mkF m 75 #[.val (.ref w_ROLLED_BACK), .val (.ref w_ROLLED_BACK), .val (.int (0 : Int32))] [(.int (0 : Int32))])) _
    exact retN X3 hx (t := .boolean) Bd.returns (by simp) (hb hby d2_75) hr
  · exact ⟨rfl, N3, (by show Ext h0 T3.heap; rw [e3]; exact E1)⟩
def Q2_21 (Z : State) (w_OPEN : Addr) (w_COMMITTED : Addr) (w_ROLLED_BACK : Addr) (w_PARKED : Addr) (h0 : Heap) (n0 : Nat) (v : Option Value) (h : Heap) (L : List Loc) : Prop := v = some (.int (0 : Int32)) ∧ Fr n0 L ∧ Ext h0 h
set_option maxRecDepth 65536 in
set_option maxHeartbeats 40000000 in
theorem rm2_21 (l : Launch) (Z : State) (a0 : Array Value) (hw : ∀ d ∈ tables_1, d.before a0 Z = true) (ws : List Jvm.Cond) (w_OPEN : Addr) (w_COMMITTED : Addr) (w_ROLLED_BACK : Addr) (w_PARKED : Addr) (h0 : Heap) (n0 : Nat) (Z0 : n0 ≤ h0.size) (HW : World Z h0 w_OPEN w_COMMITTED w_ROLLED_BACK w_PARKED) :
    MetFree l (⟨"com/example/clinch/clinch/broker/TransactionState", "canMoveTo", "(Lcom/example/clinch/clinch/broker/TransactionState;)Z"⟩ : MethodName) (head1 (Jvm.Cond.code (⟨"com/example/clinch/clinch/broker/TransactionState", "canMoveTo", "(Lcom/example/clinch/clinch/broker/TransactionState;)Z"⟩ : MethodName) prog_17_method_5_code 3 (some .boolean) :: ws) ({ frames := 1, cells := 2, slots := 20, locals := 13 } : Room)) (fun a U => a = #[(.ref w_ROLLED_BACK), (.ref w_PARKED)] ∧ Z.Warmed39 U.vm ∧ U.heap = h0) (fun _ _ _ _ _ => True) (fun _ U o U' => ∃ v L, o = .returned v ∧ Q2_21 Z w_OPEN w_COMMITTED w_ROLLED_BACK w_PARKED h0 n0 v U'.heap L ∧ ReturnedEndW U o U' L ({ frames := 1, cells := 2, slots := 20, locals := 13 } : Room).cells ({ frames := 1, cells := 2, slots := 20, locals := 13 } : Room).slots) := by
  refine MetFree.of_bodySF (plainFor_of_name pn10) hisR ?_
  intro p e s m args below meth c s₁ Bd hml0 hP hK
  obtain ⟨rfl, hZ, hh⟩ := hP
  have hx := Bd.exec
  have hby := Bd.bytes
  have hml : c.maxLocals = 3 := hml0
  have hown : s.vm.findClass "com/example/clinch/clinch/broker/TransactionState" = some m.cls := findClass_of_methodNamed Bd.named
  have X0 : Stand p l e ({ frames := 1, cells := 2, slots := 20, locals := 13 } : Room) s m #[(.ref w_ROLLED_BACK), (.ref w_PARKED)] below meth c s₁ [] 0 0 := Stand.of_body Bd
  have e0 : s₁.heap = h0 := by rw [← hh, Bd.state]; rfl
  have N0 := Fr.nil n0
  have pre0 : ∀ t, Steps p.tables e below (s₁.setTop (mkF m 0 #[.val (.ref w_ROLLED_BACK), .val (.ref w_PARKED), .unset] [])) t → Steps p.tables e below (s₁.setTop (entryFrame m #[(.ref w_ROLLED_BACK), (.ref w_PARKED)] 3)) t := fun t k => castTop (ef43 m w_ROLLED_BACK w_PARKED) k
  have X0s : Stand p l e ({ frames := 1, cells := 2, slots := 20, locals := 13 } : Room) (s.setVm s.vm) m #[(.ref w_ROLLED_BACK), (.ref w_PARKED)] below meth c s₁ [] 0 0 := X0
  have hZ0 : Z.Warmed39 (s.setVm s.vm).vm := hZ
  have hown0 : (s.setVm s.vm).vm.findClass "com/example/clinch/clinch/broker/TransactionState" = some m.cls := hown
  have hS0 := own_since s
  obtain ⟨S_w_OPEN, E_w_OPEN, S_w_COMMITTED, E_w_COMMITTED, S_w_ROLLED_BACK, E_w_ROLLED_BACK, S_w_PARKED, E_w_PARKED, F_ordinal_w_OPEN, F_ordinal_w_COMMITTED, F_ordinal_w_ROLLED_BACK, F_ordinal_w_PARKED, ne_w_OPEN_w_COMMITTED, ne_w_OPEN_w_ROLLED_BACK, ne_w_OPEN_w_PARKED, ne_w_COMMITTED_w_ROLLED_BACK, ne_w_COMMITTED_w_PARKED, ne_w_ROLLED_BACK_w_PARKED, -⟩ := id HW
  obtain ⟨a1, T1, h1, kk1, X1, e1, E1, hS1, hk1, hZ1, hown1, st1⟩ := ldcS X0s hx hZ0 hown0 (hw _ (List.mem_of_getElem? (i := 17) rfl)) (own_wS hw) e0 hS0 (Nat.zero_le _) (g := (mkF m 1 #[.val (.ref w_ROLLED_BACK), .val (.ref w_PARKED), .unset] [(.ref w_PARKED)])) rfl (hb hby d2_1) (n := 16) (by decide) (by decide) (by decide) (by decide)
  replace HW := HW.ext E1
  obtain ⟨S_w_OPEN, E_w_OPEN, S_w_COMMITTED, E_w_COMMITTED, S_w_ROLLED_BACK, E_w_ROLLED_BACK, S_w_PARKED, E_w_PARKED, F_ordinal_w_OPEN, F_ordinal_w_COMMITTED, F_ordinal_w_ROLLED_BACK, F_ordinal_w_PARKED, ne_w_OPEN_w_COMMITTED, ne_w_OPEN_w_ROLLED_BACK, ne_w_OPEN_w_PARKED, ne_w_COMMITTED_w_ROLLED_BACK, ne_w_COMMITTED_w_PARKED, ne_w_ROLLED_BACK_w_PARKED, -⟩ := id HW
  obtain ⟨_, _, ⟨T2, L2, k2, n2⟩, -, X2, ⟨Lc2, hQ2, l2, y2, z2⟩, st2⟩ := Jvm.LawKit.callS X1 hx (y := (⟨"java/util/Objects", "requireNonNull", "(Ljava/lang/Object;Ljava/lang/String;)Ljava/lang/Object;"⟩ : MethodName)) hown1 (mvT hZ1 (hw _ (List.mem_of_getElem? (i := 25) rfl))) (mvT hZ1 (hw _ (List.mem_of_getElem? (i := 26) rfl))) (mvT hZ1 (hw _ (List.mem_of_getElem? (i := 27) rfl))) (mvT hZ1 (hw _ (List.mem_of_getElem? (i := 28) rfl))) (by decide) (backOf (W := 0) (rm3_13 l Z a0 hw [] w_OPEN w_COMMITTED w_ROLLED_BACK w_PARKED a1 h1 n0 (Nat.le_trans Z0 E1.1) HW) hZ1 (hw _ (List.mem_of_getElem? (i := 28) rfl)) (hw _ (List.mem_of_getElem? (i := 27) rfl)) (by decide) (by decide)) (g := (mkF m 3 #[.val (.ref w_ROLLED_BACK), .val (.ref w_PARKED), .unset] [(.ref a1), (.ref w_PARKED)])) rfl (by rw [hml]; rfl) (argsL := [(.ref w_PARKED), (.ref a1)]) (rest := []) (lenOf pd21 rfl) rfl (by show 2 * 0 + _ ≤ _; exact Nat.le_of_eq rfl) (hb hby d2_3) (fun _ _ => ⟨rfl, e1, (by decide : 2 + 0 ≤ _), (by decide : 20 + 0 ≤ _)⟩)
  dsimp only [Pt.U, Pt.locs, Pt.cells, Pt.slots] at X2 l2 y2 z2 st2 hQ2
  subst l2 y2 z2
  obtain ⟨rfl, N2q, e2⟩ := hQ2
  have N2 := Fr.app N0 N2q
  obtain ⟨cq3, kq3, q3a, q3b, q3c⟩ := isOf hZ1 e2 E_w_ROLLED_BACK
  obtain ⟨_, _, ⟨T3, L3, k3, n3⟩, -, X3, ⟨Lc3, hQ3, l3, y3, z3⟩, st3⟩ := X2.virtualBackUp hx (x := (⟨"com/example/clinch/clinch/broker/TransactionState", "ordinal", "()I"⟩ : MethodName)) (y := (⟨"java/lang/Enum", "ordinal", "()I"⟩ : MethodName)) hown1 (mvT hZ1 (hw _ (List.mem_of_getElem? (i := 29) rfl))) (mvT hZ1 (hw _ (List.mem_of_getElem? (i := 30) rfl))) (mvT hZ1 (hw _ (List.mem_of_getElem? (i := 31) rfl))) (by decide) (mvT hZ1 (hw _ (List.mem_of_getElem? (i := 33) rfl))) (mvT hZ1 (hw _ (List.mem_of_getElem? (i := 32) rfl))) (backOf (W := 0) (rm4_17 l Z a0 hw [] w_OPEN w_COMMITTED w_ROLLED_BACK w_PARKED h1 n0 (Nat.le_trans Z0 E1.1) HW) hZ1 (hw _ (List.mem_of_getElem? (i := 35) rfl)) (hw _ (List.mem_of_getElem? (i := 34) rfl)) (by decide) (by decide)) q3a q3c (g := (mkF m 8 #[.val (.ref w_ROLLED_BACK), .val (.ref w_PARKED), .unset] [(.ref w_ROLLED_BACK)])) rfl (by rw [hml]; rfl) (Steps.refl _) (argsL := []) (rest := []) (lenOf pd31 rfl) rfl (by show 2 * 0 + _ ≤ _; exact Nat.le_of_eq rfl) (hb hby d2_8) (fun _ _ => ⟨rfl, e2, (by decide : 2 + 0 ≤ _), (by decide : 20 + 0 ≤ _)⟩)
  dsimp only [Pt.U, Pt.locs, Pt.cells, Pt.slots] at X3 l3 y3 z3 st3 hQ3
  subst l3 y3 z3
  obtain ⟨rfl, N3q, e3⟩ := hQ3
  have N3 := Fr.app N2 N3q
  obtain ⟨fs, hr, hrun, hended, hW0, hW1, hW2, hsame⟩ := X3.leaveW hS1 (by rw [e3]; exact hk1) (v := some (.int (0 : Int32))) (fun h => by rw [Bd.returns] at h; cases h)
  refine ⟨_, _, pre0 _ ?_, hrun, hended, _, _, rfl, ?_, hW0, hW1, hW2, hsame.mono (by decide) (by decide)⟩
  · show Steps p.tables e below (s₁.setTop (mkF m 0 #[.val (.ref w_ROLLED_BACK), .val (.ref w_PARKED), .unset] [])) _
    refine XS.aloadN X0s.here hx rfl (hb hby d2_0) rfl rfl ?_
    show Steps p.tables e below (s₁.setTop (mkF m 1 #[.val (.ref w_ROLLED_BACK), .val (.ref w_PARKED), .unset] [(.ref w_PARKED)])) _
    refine st1 _ ?_
    show Steps p.tables e below (T1.setTop (mkF m 3 #[.val (.ref w_ROLLED_BACK), .val (.ref w_PARKED), .unset] [(.ref a1), (.ref w_PARKED)])) _
    refine st2 _ ?_
    show Steps p.tables e below (T2.setTop (mkF m 6 #[.val (.ref w_ROLLED_BACK), .val (.ref w_PARKED), .unset] [(.ref w_PARKED)])) _
    refine XS.pop X2.here hx rfl (hb hby d2_6) rfl rfl ?_
    show Steps p.tables e below (T2.setTop (mkF m 7 #[.val (.ref w_ROLLED_BACK), .val (.ref w_PARKED), .unset] [])) _
    refine XS.aloadN X2.here hx rfl (hb hby d2_7) rfl rfl ?_
    show Steps p.tables e below (T2.setTop (mkF m 8 #[.val (.ref w_ROLLED_BACK), .val (.ref w_PARKED), .unset] [(.ref w_ROLLED_BACK)])) _
    refine st3.trans ?_
    show Steps p.tables e below (T3.setTop (mkF m 11 #[.val (.ref w_ROLLED_BACK), .val (.ref w_PARKED), .unset] [(.int (2 : Int32))])) _
    refine XS.tswIn X3.here hx rfl (pc0 := 11) (pc' := 72) rfl (hb hby d2_11) rfl (by decide) (o := 61) (by decide) (by decide) (by decide) ?_
    show Steps p.tables e below (T3.setTop (mkF m 72 #[.val (.ref w_ROLLED_BACK), .val (.ref w_PARKED), .unset] [])) _
    refine XS.iconst X3.here hx rfl (hb hby d2_72) ?_
    show Steps p.tables e below (T3.setTop (mkF m 73 #[.val (.ref w_ROLLED_BACK), .val (.ref w_PARKED), .unset] [(.int (0 : Int32))])) _
    refine XS.istoreN X3.here hx rfl (hb hby d2_73) rfl (l' := #[.val (.ref w_ROLLED_BACK), .val (.ref w_PARKED), .val (.int (0 : Int32))]) rfl ?_
    show Steps p.tables e below (T3.setTop (mkF m 74 #[.val (.ref w_ROLLED_BACK), .val (.ref w_PARKED), .val (.int (0 : Int32))] [])) _
    refine XS.iloadN X3.here hx rfl (hb hby d2_74) rfl ?_
    show Steps p.tables e below (T3.setTop (mkF m 75 #[.val (.ref w_ROLLED_BACK), .val (.ref w_PARKED), .val (.int (0 : Int32))] [(.int (0 : Int32))])) _
    exact retN X3 hx (t := .boolean) Bd.returns (by simp) (hb hby d2_75) hr
  · exact ⟨rfl, N3, (by show Ext h0 T3.heap; rw [e3]; exact E1)⟩
set_option maxRecDepth 65536 in
set_option maxHeartbeats 40000000 in
theorem rm0_c2 (l : Launch) (Z : State) (a0 : Array Value) (hw : ∀ d ∈ tables_1, d.before a0 Z = true) (ws : List Jvm.Cond) (w_OPEN : Addr) (w_COMMITTED : Addr) (w_ROLLED_BACK : Addr) (w_PARKED : Addr) (p1 : Int32) (h0 : Heap) (n0 : Nat) (Z0 : n0 ≤ h0.size) (HW : World Z h0 w_OPEN w_COMMITTED w_ROLLED_BACK w_PARKED) (hk : (p1 &&& (3 : Int32)) = (2 : Int32)) :
    MetFree l x (head1 (Jvm.Cond.code x code maxLocals ret :: ws) room_1) (fun a U => a = #[(.int p1)] ∧ Z.Warmed39 U.vm ∧ U.heap = h0) (fun _ _ _ _ _ => True) (fun _ U o U' => ∃ v L, o = .returned v ∧ Q0 h0 n0 v U'.heap L ∧ ReturnedEndW U o U' L room_1.cells room_1.slots) := by
  refine MetFree.of_bodySF (plainFor_of_name pn51) hisR ?_
  intro p e s m args below meth c s₁ Bd hml0 hP hK
  obtain ⟨rfl, hZ, hh⟩ := hP
  have hx := Bd.exec
  have hby := Bd.bytes
  have hml : c.maxLocals = 6 := hml0
  have hown : s.vm.findClass "com/example/clinch/clinch/broker/TransactionStateIsFinalPinLaw" = some m.cls := findClass_of_methodNamed Bd.named
  have X0 : Stand p l e room_1 s m #[(.int p1)] below meth c s₁ [] 0 0 := Stand.of_body Bd
  have e0 : s₁.heap = h0 := by rw [← hh, Bd.state]; rfl
  have N0 := Fr.nil n0
  have pre0 : ∀ t, Steps p.tables e below (s₁.setTop (mkF m 0 #[.val (.int p1), .unset, .unset, .unset, .unset, .unset] [])) t → Steps p.tables e below (s₁.setTop (entryFrame m #[(.int p1)] maxLocals)) t := fun t k => castTop (ef50 m p1) k
  have X0s : Stand p l e room_1 (s.setVm s.vm) m #[(.int p1)] below meth c s₁ [] 0 0 := X0
  have hZ0 : Z.Warmed39 (s.setVm s.vm).vm := hZ
  have hown0 : (s.setVm s.vm).vm.findClass "com/example/clinch/clinch/broker/TransactionStateIsFinalPinLaw" = some m.cls := hown
  have hS0 := own_since s
  obtain ⟨S_w_OPEN, E_w_OPEN, S_w_COMMITTED, E_w_COMMITTED, S_w_ROLLED_BACK, E_w_ROLLED_BACK, S_w_PARKED, E_w_PARKED, F_ordinal_w_OPEN, F_ordinal_w_COMMITTED, F_ordinal_w_ROLLED_BACK, F_ordinal_w_PARKED, ne_w_OPEN_w_COMMITTED, ne_w_OPEN_w_ROLLED_BACK, ne_w_OPEN_w_PARKED, ne_w_COMMITTED_w_ROLLED_BACK, ne_w_COMMITTED_w_PARKED, ne_w_ROLLED_BACK_w_PARKED, -⟩ := id HW
  obtain ⟨T1, X1, e1, st1⟩ := getS2 X0s hx hZ0 hown0 (host := "") (Or.inl (hw _ (List.mem_of_getElem? (i := 43) rfl))) Via.refl e0 S_w_ROLLED_BACK (g := (mkF m 32 #[.val (.int p1), .val (.int (2 : Int32)), .unset, .unset, .unset, .unset] [])) rfl (hb hby at_32)
  obtain ⟨cq2, kq2, q2a, q2b, q2c⟩ := isOf hZ0 e1 E_w_ROLLED_BACK
  obtain ⟨_, _, ⟨T2, L2, k2, n2⟩, -, X2, ⟨Lc2, hQ2, l2, y2, z2⟩, st2⟩ := X1.virtualBack hx (y := (⟨"com/example/clinch/clinch/broker/TransactionState", "isFinal", "()Z"⟩ : MethodName)) (z := (⟨"com/example/clinch/clinch/broker/TransactionState", "isFinal", "()Z"⟩ : MethodName)) hown0 (mvT hZ0 (hw _ (List.mem_of_getElem? (i := 3) rfl))) (mvT hZ0 (hw _ (List.mem_of_getElem? (i := 4) rfl))) (notFace_of_selects (args := #[]) (mvT hZ0 (hw _ (List.mem_of_getElem? (i := 6) rfl)))) (mvT hZ0 (hw _ (List.mem_of_getElem? (i := 6) rfl))) (mvT hZ0 (hw _ (List.mem_of_getElem? (i := 5) rfl))) (by decide) (backOf (W := 0) (rm1_16 l Z a0 hw [] w_OPEN w_COMMITTED w_ROLLED_BACK w_PARKED h0 n0 Z0 HW) hZ0 (hw _ (List.mem_of_getElem? (i := 7) rfl)) (hw _ (List.mem_of_getElem? (i := 1) rfl)) (by decide) (by decide)) q2a q2c (g := (mkF m 44 #[.val (.int p1), .val (.int (2 : Int32)), .val (.ref w_ROLLED_BACK), .unset, .unset, .unset] [(.ref w_ROLLED_BACK)])) rfl (by rw [hml]; rfl) (Steps.refl _) (argsL := []) (rest := []) (lenOf pd11 rfl) rfl (by show 2 * 0 + _ ≤ _; exact Nat.le_of_eq rfl) (hb hby at_44) (fun _ _ => ⟨rfl, e1, (by decide : 0 + 0 ≤ _), (by decide : 0 + 0 ≤ _)⟩)
  dsimp only [Pt.U, Pt.locs, Pt.cells, Pt.slots] at X2 l2 y2 z2 st2 hQ2
  subst l2 y2 z2
  obtain ⟨rfl, N2q, e2⟩ := hQ2
  have N2 := Fr.app N0 N2q
  obtain ⟨T3, X3, e3, st3⟩ := getS2 X2 hx hZ0 hown0 (host := "") (Or.inl (hw _ (List.mem_of_getElem? (i := 0) rfl))) Via.refl e2 S_w_OPEN (g := (mkF m 66 #[.val (.int p1), .val (.int (2 : Int32)), .val (.ref w_ROLLED_BACK), .val (.int (1 : Int32)), .val (.int (1 : Int32)), .unset] [(.ref w_ROLLED_BACK)])) rfl (hb hby at_66)
  obtain ⟨cq4, kq4, q4a, q4b, q4c⟩ := isOf hZ0 e3 E_w_ROLLED_BACK
  obtain ⟨_, _, ⟨T4, L4, k4, n4⟩, -, X4, hS4, G4, ⟨Lc4, hQ4, l4, y4, z4⟩, st4⟩ := X3.virtualBackS hx (y := (⟨"com/example/clinch/clinch/broker/TransactionState", "canMoveTo", "(Lcom/example/clinch/clinch/broker/TransactionState;)Z"⟩ : MethodName)) (z := (⟨"com/example/clinch/clinch/broker/TransactionState", "canMoveTo", "(Lcom/example/clinch/clinch/broker/TransactionState;)Z"⟩ : MethodName)) hown0 (mvT hZ0 (hw _ (List.mem_of_getElem? (i := 12) rfl))) (mvT hZ0 (hw _ (List.mem_of_getElem? (i := 13) rfl))) (notFace_of_selects (args := #[]) (mvT hZ0 (hw _ (List.mem_of_getElem? (i := 15) rfl)))) (mvT hZ0 (hw _ (List.mem_of_getElem? (i := 15) rfl))) (mvT hZ0 (hw _ (List.mem_of_getElem? (i := 14) rfl))) (by decide) (backOfS (W := 0) (rm2_18 l Z a0 hw [] w_OPEN w_COMMITTED w_ROLLED_BACK w_PARKED h0 n0 Z0 HW) hZ0 (hw _ (List.mem_of_getElem? (i := 16) rfl)) (hw _ (List.mem_of_getElem? (i := 1) rfl)) (by decide) (by decide)) q4a q4c (g := (mkF m 69 #[.val (.int p1), .val (.int (2 : Int32)), .val (.ref w_ROLLED_BACK), .val (.int (1 : Int32)), .val (.int (1 : Int32)), .unset] [(.ref w_OPEN), (.ref w_ROLLED_BACK)])) rfl (by rw [hml]; rfl) (Steps.refl _) (argsL := [(.ref w_OPEN)]) (rest := []) (lenOf pd44 rfl) rfl (by show 2 * 0 + _ ≤ _; exact Nat.le_of_eq rfl) (hb hby at_69) (fun _ _ => ⟨rfl, e3, (by decide : 0 + 2 ≤ _), (by decide : 0 + 20 ≤ _)⟩)
  dsimp only [Pt.U, Pt.locs, Pt.cells, Pt.slots] at X4 l4 y4 z4 st4 hQ4 hS4 G4
  subst l4 y4 z4
  obtain ⟨X4, hS4, hZ4, hown4⟩ := rebS hS0 (by rw [e3]; exact (Nat.zero_le _)) X4 hS4 G4 hZ0 hown0
  obtain ⟨rfl, N4q, E4⟩ := hQ4
  replace HW := HW.ext E4
  obtain ⟨S_w_OPEN, E_w_OPEN, S_w_COMMITTED, E_w_COMMITTED, S_w_ROLLED_BACK, E_w_ROLLED_BACK, S_w_PARKED, E_w_PARKED, F_ordinal_w_OPEN, F_ordinal_w_COMMITTED, F_ordinal_w_ROLLED_BACK, F_ordinal_w_PARKED, ne_w_OPEN_w_COMMITTED, ne_w_OPEN_w_ROLLED_BACK, ne_w_OPEN_w_PARKED, ne_w_COMMITTED_w_ROLLED_BACK, ne_w_COMMITTED_w_PARKED, ne_w_ROLLED_BACK_w_PARKED, -⟩ := id HW
  have N4 := Fr.app N2 N4q
  obtain ⟨T5, X5, e5, st5⟩ := getS2 X4 hx hZ4 hown4 (host := "") (Or.inl (hw _ (List.mem_of_getElem? (i := 39) rfl))) Via.refl rfl S_w_COMMITTED (g := (mkF m 76 #[.val (.int p1), .val (.int (2 : Int32)), .val (.ref w_ROLLED_BACK), .val (.int (1 : Int32)), .val (.int (1 : Int32)), .unset] [(.ref w_ROLLED_BACK)])) rfl (hb hby at_76)
  obtain ⟨cq6, kq6, q6a, q6b, q6c⟩ := isOf hZ4 e5 E_w_ROLLED_BACK
  obtain ⟨_, _, ⟨T6, L6, k6, n6⟩, -, X6, hS6, G6, ⟨Lc6, hQ6, l6, y6, z6⟩, st6⟩ := X5.virtualBackS hx (y := (⟨"com/example/clinch/clinch/broker/TransactionState", "canMoveTo", "(Lcom/example/clinch/clinch/broker/TransactionState;)Z"⟩ : MethodName)) (z := (⟨"com/example/clinch/clinch/broker/TransactionState", "canMoveTo", "(Lcom/example/clinch/clinch/broker/TransactionState;)Z"⟩ : MethodName)) hown4 (mvT hZ4 (hw _ (List.mem_of_getElem? (i := 12) rfl))) (mvT hZ4 (hw _ (List.mem_of_getElem? (i := 13) rfl))) (notFace_of_selects (args := #[]) (mvT hZ4 (hw _ (List.mem_of_getElem? (i := 15) rfl)))) (mvT hZ4 (hw _ (List.mem_of_getElem? (i := 15) rfl))) (mvT hZ4 (hw _ (List.mem_of_getElem? (i := 14) rfl))) (by decide) (backOfS (W := 0) (rm2_19 l Z a0 hw [] w_OPEN w_COMMITTED w_ROLLED_BACK w_PARKED T4.heap n0 (Nat.le_trans Z0 E4.1) HW) hZ4 (hw _ (List.mem_of_getElem? (i := 16) rfl)) (hw _ (List.mem_of_getElem? (i := 1) rfl)) (by decide) (by decide)) q6a q6c (g := (mkF m 79 #[.val (.int p1), .val (.int (2 : Int32)), .val (.ref w_ROLLED_BACK), .val (.int (1 : Int32)), .val (.int (1 : Int32)), .unset] [(.ref w_COMMITTED), (.ref w_ROLLED_BACK)])) rfl (by rw [hml]; rfl) (Steps.refl _) (argsL := [(.ref w_COMMITTED)]) (rest := []) (lenOf pd44 rfl) rfl (by show 2 * 0 + _ ≤ _; exact Nat.le_of_eq rfl) (hb hby at_79) (fun _ _ => ⟨rfl, e5, (by decide : 2 + 2 ≤ _), (by decide : 20 + 20 ≤ _)⟩)
  dsimp only [Pt.U, Pt.locs, Pt.cells, Pt.slots] at X6 l6 y6 z6 st6 hQ6 hS6 G6
  subst l6 y6 z6
  obtain ⟨X6, hS6, hZ6, hown6⟩ := rebS hS4 (by rw [e5]; exact (Nat.le_refl _)) X6 hS6 G6 hZ4 hown4
  obtain ⟨rfl, N6q, E6⟩ := hQ6
  replace HW := HW.ext E6
  obtain ⟨S_w_OPEN, E_w_OPEN, S_w_COMMITTED, E_w_COMMITTED, S_w_ROLLED_BACK, E_w_ROLLED_BACK, S_w_PARKED, E_w_PARKED, F_ordinal_w_OPEN, F_ordinal_w_COMMITTED, F_ordinal_w_ROLLED_BACK, F_ordinal_w_PARKED, ne_w_OPEN_w_COMMITTED, ne_w_OPEN_w_ROLLED_BACK, ne_w_OPEN_w_PARKED, ne_w_COMMITTED_w_ROLLED_BACK, ne_w_COMMITTED_w_PARKED, ne_w_ROLLED_BACK_w_PARKED, -⟩ := id HW
  have N6 := Fr.app N4 N6q
  obtain ⟨T7, X7, e7, st7⟩ := getS2 X6 hx hZ6 hown6 (host := "") (Or.inl (hw _ (List.mem_of_getElem? (i := 43) rfl))) Via.refl rfl S_w_ROLLED_BACK (g := (mkF m 86 #[.val (.int p1), .val (.int (2 : Int32)), .val (.ref w_ROLLED_BACK), .val (.int (1 : Int32)), .val (.int (1 : Int32)), .unset] [(.ref w_ROLLED_BACK)])) rfl (hb hby at_86)
  obtain ⟨cq8, kq8, q8a, q8b, q8c⟩ := isOf hZ6 e7 E_w_ROLLED_BACK
  obtain ⟨_, _, ⟨T8, L8, k8, n8⟩, -, X8, hS8, G8, ⟨Lc8, hQ8, l8, y8, z8⟩, st8⟩ := X7.virtualBackS hx (y := (⟨"com/example/clinch/clinch/broker/TransactionState", "canMoveTo", "(Lcom/example/clinch/clinch/broker/TransactionState;)Z"⟩ : MethodName)) (z := (⟨"com/example/clinch/clinch/broker/TransactionState", "canMoveTo", "(Lcom/example/clinch/clinch/broker/TransactionState;)Z"⟩ : MethodName)) hown6 (mvT hZ6 (hw _ (List.mem_of_getElem? (i := 12) rfl))) (mvT hZ6 (hw _ (List.mem_of_getElem? (i := 13) rfl))) (notFace_of_selects (args := #[]) (mvT hZ6 (hw _ (List.mem_of_getElem? (i := 15) rfl)))) (mvT hZ6 (hw _ (List.mem_of_getElem? (i := 15) rfl))) (mvT hZ6 (hw _ (List.mem_of_getElem? (i := 14) rfl))) (by decide) (backOfS (W := 0) (rm2_20 l Z a0 hw [] w_OPEN w_COMMITTED w_ROLLED_BACK w_PARKED T6.heap n0 (Nat.le_trans (Nat.le_trans Z0 E4.1) E6.1) HW) hZ6 (hw _ (List.mem_of_getElem? (i := 16) rfl)) (hw _ (List.mem_of_getElem? (i := 1) rfl)) (by decide) (by decide)) q8a q8c (g := (mkF m 89 #[.val (.int p1), .val (.int (2 : Int32)), .val (.ref w_ROLLED_BACK), .val (.int (1 : Int32)), .val (.int (1 : Int32)), .unset] [(.ref w_ROLLED_BACK), (.ref w_ROLLED_BACK)])) rfl (by rw [hml]; rfl) (Steps.refl _) (argsL := [(.ref w_ROLLED_BACK)]) (rest := []) (lenOf pd44 rfl) rfl (by show 2 * 0 + _ ≤ _; exact Nat.le_of_eq rfl) (hb hby at_89) (fun _ _ => ⟨rfl, e7, (by decide : 4 + 2 ≤ _), (by decide : 40 + 20 ≤ _)⟩)
  dsimp only [Pt.U, Pt.locs, Pt.cells, Pt.slots] at X8 l8 y8 z8 st8 hQ8 hS8 G8
  subst l8 y8 z8
  obtain ⟨X8, hS8, hZ8, hown8⟩ := rebS hS6 (by rw [e7]; exact (Nat.le_refl _)) X8 hS8 G8 hZ6 hown6
  obtain ⟨rfl, N8q, E8⟩ := hQ8
  replace HW := HW.ext E8
  obtain ⟨S_w_OPEN, E_w_OPEN, S_w_COMMITTED, E_w_COMMITTED, S_w_ROLLED_BACK, E_w_ROLLED_BACK, S_w_PARKED, E_w_PARKED, F_ordinal_w_OPEN, F_ordinal_w_COMMITTED, F_ordinal_w_ROLLED_BACK, F_ordinal_w_PARKED, ne_w_OPEN_w_COMMITTED, ne_w_OPEN_w_ROLLED_BACK, ne_w_OPEN_w_PARKED, ne_w_COMMITTED_w_ROLLED_BACK, ne_w_COMMITTED_w_PARKED, ne_w_ROLLED_BACK_w_PARKED, -⟩ := id HW
  have N8 := Fr.app N6 N8q
  obtain ⟨T9, X9, e9, st9⟩ := getS2 X8 hx hZ8 hown8 (host := "") (Or.inl (hw _ (List.mem_of_getElem? (i := 40) rfl))) Via.refl rfl S_w_PARKED (g := (mkF m 96 #[.val (.int p1), .val (.int (2 : Int32)), .val (.ref w_ROLLED_BACK), .val (.int (1 : Int32)), .val (.int (1 : Int32)), .unset] [(.ref w_ROLLED_BACK)])) rfl (hb hby at_96)
  obtain ⟨cq10, kq10, q10a, q10b, q10c⟩ := isOf hZ8 e9 E_w_ROLLED_BACK
  obtain ⟨_, _, ⟨T10, L10, k10, n10⟩, -, X10, hS10, G10, ⟨Lc10, hQ10, l10, y10, z10⟩, st10⟩ := X9.virtualBackS hx (y := (⟨"com/example/clinch/clinch/broker/TransactionState", "canMoveTo", "(Lcom/example/clinch/clinch/broker/TransactionState;)Z"⟩ : MethodName)) (z := (⟨"com/example/clinch/clinch/broker/TransactionState", "canMoveTo", "(Lcom/example/clinch/clinch/broker/TransactionState;)Z"⟩ : MethodName)) hown8 (mvT hZ8 (hw _ (List.mem_of_getElem? (i := 12) rfl))) (mvT hZ8 (hw _ (List.mem_of_getElem? (i := 13) rfl))) (notFace_of_selects (args := #[]) (mvT hZ8 (hw _ (List.mem_of_getElem? (i := 15) rfl)))) (mvT hZ8 (hw _ (List.mem_of_getElem? (i := 15) rfl))) (mvT hZ8 (hw _ (List.mem_of_getElem? (i := 14) rfl))) (by decide) (backOfS (W := 0) (rm2_21 l Z a0 hw [] w_OPEN w_COMMITTED w_ROLLED_BACK w_PARKED T8.heap n0 (Nat.le_trans (Nat.le_trans (Nat.le_trans Z0 E4.1) E6.1) E8.1) HW) hZ8 (hw _ (List.mem_of_getElem? (i := 16) rfl)) (hw _ (List.mem_of_getElem? (i := 1) rfl)) (by decide) (by decide)) q10a q10c (g := (mkF m 99 #[.val (.int p1), .val (.int (2 : Int32)), .val (.ref w_ROLLED_BACK), .val (.int (1 : Int32)), .val (.int (1 : Int32)), .unset] [(.ref w_PARKED), (.ref w_ROLLED_BACK)])) rfl (by rw [hml]; rfl) (Steps.refl _) (argsL := [(.ref w_PARKED)]) (rest := []) (lenOf pd44 rfl) rfl (by show 2 * 0 + _ ≤ _; exact Nat.le_of_eq rfl) (hb hby at_99) (fun _ _ => ⟨rfl, e9, (by decide : 6 + 2 ≤ _), (by decide : 60 + 20 ≤ _)⟩)
  dsimp only [Pt.U, Pt.locs, Pt.cells, Pt.slots] at X10 l10 y10 z10 st10 hQ10 hS10 G10
  subst l10 y10 z10
  obtain ⟨X10, hS10, hZ10, hown10⟩ := rebS hS8 (by rw [e9]; exact (Nat.le_refl _)) X10 hS10 G10 hZ8 hown8
  obtain ⟨rfl, N10q, E10⟩ := hQ10
  replace HW := HW.ext E10
  obtain ⟨S_w_OPEN, E_w_OPEN, S_w_COMMITTED, E_w_COMMITTED, S_w_ROLLED_BACK, E_w_ROLLED_BACK, S_w_PARKED, E_w_PARKED, F_ordinal_w_OPEN, F_ordinal_w_COMMITTED, F_ordinal_w_ROLLED_BACK, F_ordinal_w_PARKED, ne_w_OPEN_w_COMMITTED, ne_w_OPEN_w_ROLLED_BACK, ne_w_OPEN_w_PARKED, ne_w_COMMITTED_w_ROLLED_BACK, ne_w_COMMITTED_w_PARKED, ne_w_ROLLED_BACK_w_PARKED, -⟩ := id HW
  have N10 := Fr.app N8 N10q
  obtain ⟨fs, hr, hrun, hended, hW0, hW1, hW2, hsame⟩ := X10.leaveW hS10 (Nat.le_refl _) (v := some (.int (1 : Int32))) (fun h => by rw [Bd.returns] at h; cases h)
  refine ⟨_, _, pre0 _ ?_, hrun, hended, _, _, rfl, ?_, hW0, hW1, hW2, hsame.mono (by decide) (by decide)⟩
  · show Steps p.tables e below (s₁.setTop (mkF m 0 #[.val (.int p1), .unset, .unset, .unset, .unset, .unset] [])) _
    refine XS.iloadN X0s.here hx rfl (hb hby at_0) rfl ?_
    show Steps p.tables e below (s₁.setTop (mkF m 1 #[.val (.int p1), .unset, .unset, .unset, .unset, .unset] [(.int p1)])) _
    refine XS.iconst X0s.here hx rfl (hb hby at_1) ?_
    show Steps p.tables e below (s₁.setTop (mkF m 2 #[.val (.int p1), .unset, .unset, .unset, .unset, .unset] [(.int (3 : Int32)), (.int p1)])) _
    refine XS.iand X0s.here hx rfl (hb hby at_2) rfl ?_
    rw [hk]
    show Steps p.tables e below (s₁.setTop (mkF m 3 #[.val (.int p1), .unset, .unset, .unset, .unset, .unset] [(.int (2 : Int32))])) _
    refine XS.istoreN X0s.here hx rfl (hb hby at_3) rfl (l' := #[.val (.int p1), .val (.int (2 : Int32)), .unset, .unset, .unset, .unset]) rfl ?_
    show Steps p.tables e below (s₁.setTop (mkF m 4 #[.val (.int p1), .val (.int (2 : Int32)), .unset, .unset, .unset, .unset] [])) _
    refine XS.iloadN X0s.here hx rfl (hb hby at_4) rfl ?_
    show Steps p.tables e below (s₁.setTop (mkF m 5 #[.val (.int p1), .val (.int (2 : Int32)), .unset, .unset, .unset, .unset] [(.int (2 : Int32))])) _
    refine XS.ifYes X0s.here hx rfl (pc0 := 5) (pc' := 15) rfl (hb hby at_5) rfl ((if0 _ _).trans (feq (by decide : ¬ ((2 : Int32) = (0 : Int32)))).2) (by decide) (by decide) ?_
    show Steps p.tables e below (s₁.setTop (mkF m 15 #[.val (.int p1), .val (.int (2 : Int32)), .unset, .unset, .unset, .unset] [])) _
    refine XS.iloadN X0s.here hx rfl (hb hby at_15) rfl ?_
    show Steps p.tables e below (s₁.setTop (mkF m 16 #[.val (.int p1), .val (.int (2 : Int32)), .unset, .unset, .unset, .unset] [(.int (2 : Int32))])) _
    refine XS.iconst X0s.here hx rfl (hb hby at_16) ?_
    show Steps p.tables e below (s₁.setTop (mkF m 17 #[.val (.int p1), .val (.int (2 : Int32)), .unset, .unset, .unset, .unset] [(.int (1 : Int32)), (.int (2 : Int32))])) _
    refine XS.icmpYes X0s.here hx rfl (pc0 := 17) (pc' := 27) rfl (hb hby at_17) rfl (feq (by decide : ¬ ((2 : Int32) = (1 : Int32)))).2 (by decide) (by decide) ?_
    show Steps p.tables e below (s₁.setTop (mkF m 27 #[.val (.int p1), .val (.int (2 : Int32)), .unset, .unset, .unset, .unset] [])) _
    refine XS.iloadN X0s.here hx rfl (hb hby at_27) rfl ?_
    show Steps p.tables e below (s₁.setTop (mkF m 28 #[.val (.int p1), .val (.int (2 : Int32)), .unset, .unset, .unset, .unset] [(.int (2 : Int32))])) _
    refine XS.iconst X0s.here hx rfl (hb hby at_28) ?_
    show Steps p.tables e below (s₁.setTop (mkF m 29 #[.val (.int p1), .val (.int (2 : Int32)), .unset, .unset, .unset, .unset] [(.int (2 : Int32)), (.int (2 : Int32))])) _
    refine XS.icmpNo X0s.here hx rfl (hb hby at_29) rfl (teq (by decide : (2 : Int32) = (2 : Int32))).2 ?_
    show Steps p.tables e below (s₁.setTop (mkF m 32 #[.val (.int p1), .val (.int (2 : Int32)), .unset, .unset, .unset, .unset] [])) _
    refine st1 _ ?_
    show Steps p.tables e below (T1.setTop (mkF m 35 #[.val (.int p1), .val (.int (2 : Int32)), .unset, .unset, .unset, .unset] [(.ref w_ROLLED_BACK)])) _
    refine XS.astoreN X1.here hx rfl (hb hby at_35) rfl rfl (l' := #[.val (.int p1), .val (.int (2 : Int32)), .val (.ref w_ROLLED_BACK), .unset, .unset, .unset]) rfl ?_
    show Steps p.tables e below (T1.setTop (mkF m 36 #[.val (.int p1), .val (.int (2 : Int32)), .val (.ref w_ROLLED_BACK), .unset, .unset, .unset] [])) _
    refine XS.goto X1.here hx rfl (pc0 := 36) (pc' := 43) rfl (hb hby at_36) (by decide) (by decide) ?_
    show Steps p.tables e below (T1.setTop (mkF m 43 #[.val (.int p1), .val (.int (2 : Int32)), .val (.ref w_ROLLED_BACK), .unset, .unset, .unset] [])) _
    refine XS.aloadN X1.here hx rfl (hb hby at_43) rfl rfl ?_
    show Steps p.tables e below (T1.setTop (mkF m 44 #[.val (.int p1), .val (.int (2 : Int32)), .val (.ref w_ROLLED_BACK), .unset, .unset, .unset] [(.ref w_ROLLED_BACK)])) _
    refine st2.trans ?_
    show Steps p.tables e below (T2.setTop (mkF m 47 #[.val (.int p1), .val (.int (2 : Int32)), .val (.ref w_ROLLED_BACK), .unset, .unset, .unset] [(.int (1 : Int32))])) _
    refine XS.istoreN X2.here hx rfl (hb hby at_47) rfl (l' := #[.val (.int p1), .val (.int (2 : Int32)), .val (.ref w_ROLLED_BACK), .val (.int (1 : Int32)), .unset, .unset]) rfl ?_
    show Steps p.tables e below (T2.setTop (mkF m 48 #[.val (.int p1), .val (.int (2 : Int32)), .val (.ref w_ROLLED_BACK), .val (.int (1 : Int32)), .unset, .unset] [])) _
    refine XS.iloadN X2.here hx rfl (hb hby at_48) rfl ?_
    show Steps p.tables e below (T2.setTop (mkF m 49 #[.val (.int p1), .val (.int (2 : Int32)), .val (.ref w_ROLLED_BACK), .val (.int (1 : Int32)), .unset, .unset] [(.int (2 : Int32))])) _
    refine XS.iconst X2.here hx rfl (hb hby at_49) ?_
    show Steps p.tables e below (T2.setTop (mkF m 50 #[.val (.int p1), .val (.int (2 : Int32)), .val (.ref w_ROLLED_BACK), .val (.int (1 : Int32)), .unset, .unset] [(.int (1 : Int32)), (.int (2 : Int32))])) _
    refine XS.icmpNo X2.here hx rfl (hb hby at_50) rfl (feq (by decide : ¬ ((2 : Int32) = (1 : Int32)))).1 ?_
    show Steps p.tables e below (T2.setTop (mkF m 53 #[.val (.int p1), .val (.int (2 : Int32)), .val (.ref w_ROLLED_BACK), .val (.int (1 : Int32)), .unset, .unset] [])) _
    refine XS.iloadN X2.here hx rfl (hb hby at_53) rfl ?_
    show Steps p.tables e below (T2.setTop (mkF m 54 #[.val (.int p1), .val (.int (2 : Int32)), .val (.ref w_ROLLED_BACK), .val (.int (1 : Int32)), .unset, .unset] [(.int (2 : Int32))])) _
    refine XS.iconst X2.here hx rfl (hb hby at_54) ?_
    show Steps p.tables e below (T2.setTop (mkF m 55 #[.val (.int p1), .val (.int (2 : Int32)), .val (.ref w_ROLLED_BACK), .val (.int (1 : Int32)), .unset, .unset] [(.int (2 : Int32)), (.int (2 : Int32))])) _
    refine XS.icmpNo X2.here hx rfl (hb hby at_55) rfl (teq (by decide : (2 : Int32) = (2 : Int32))).2 ?_
    show Steps p.tables e below (T2.setTop (mkF m 58 #[.val (.int p1), .val (.int (2 : Int32)), .val (.ref w_ROLLED_BACK), .val (.int (1 : Int32)), .unset, .unset] [])) _
    refine XS.iconst X2.here hx rfl (hb hby at_58) ?_
    show Steps p.tables e below (T2.setTop (mkF m 59 #[.val (.int p1), .val (.int (2 : Int32)), .val (.ref w_ROLLED_BACK), .val (.int (1 : Int32)), .unset, .unset] [(.int (1 : Int32))])) _
    refine XS.goto X2.here hx rfl (pc0 := 59) (pc' := 63) rfl (hb hby at_59) (by decide) (by decide) ?_
    show Steps p.tables e below (T2.setTop (mkF m 63 #[.val (.int p1), .val (.int (2 : Int32)), .val (.ref w_ROLLED_BACK), .val (.int (1 : Int32)), .unset, .unset] [(.int (1 : Int32))])) _
    refine XS.istore X2.here hx rfl (hb hby at_63) rfl (l' := #[.val (.int p1), .val (.int (2 : Int32)), .val (.ref w_ROLLED_BACK), .val (.int (1 : Int32)), .val (.int (1 : Int32)), .unset]) rfl ?_
    show Steps p.tables e below (T2.setTop (mkF m 65 #[.val (.int p1), .val (.int (2 : Int32)), .val (.ref w_ROLLED_BACK), .val (.int (1 : Int32)), .val (.int (1 : Int32)), .unset] [])) _
    refine XS.aloadN X2.here hx rfl (hb hby at_65) rfl rfl ?_
    show Steps p.tables e below (T2.setTop (mkF m 66 #[.val (.int p1), .val (.int (2 : Int32)), .val (.ref w_ROLLED_BACK), .val (.int (1 : Int32)), .val (.int (1 : Int32)), .unset] [(.ref w_ROLLED_BACK)])) _
    refine st3 _ ?_
    show Steps p.tables e below (T3.setTop (mkF m 69 #[.val (.int p1), .val (.int (2 : Int32)), .val (.ref w_ROLLED_BACK), .val (.int (1 : Int32)), .val (.int (1 : Int32)), .unset] [(.ref w_OPEN), (.ref w_ROLLED_BACK)])) _
    refine st4.trans ?_
    show Steps p.tables e below (T4.setTop (mkF m 72 #[.val (.int p1), .val (.int (2 : Int32)), .val (.ref w_ROLLED_BACK), .val (.int (1 : Int32)), .val (.int (1 : Int32)), .unset] [(.int (0 : Int32))])) _
    refine XS.ifNo X4.here hx rfl (hb hby at_72) rfl ((if0 _ _).trans (teq (by decide : (0 : Int32) = (0 : Int32))).2) ?_
    show Steps p.tables e below (T4.setTop (mkF m 75 #[.val (.int p1), .val (.int (2 : Int32)), .val (.ref w_ROLLED_BACK), .val (.int (1 : Int32)), .val (.int (1 : Int32)), .unset] [])) _
    refine XS.aloadN X4.here hx rfl (hb hby at_75) rfl rfl ?_
    show Steps p.tables e below (T4.setTop (mkF m 76 #[.val (.int p1), .val (.int (2 : Int32)), .val (.ref w_ROLLED_BACK), .val (.int (1 : Int32)), .val (.int (1 : Int32)), .unset] [(.ref w_ROLLED_BACK)])) _
    refine st5 _ ?_
    show Steps p.tables e below (T5.setTop (mkF m 79 #[.val (.int p1), .val (.int (2 : Int32)), .val (.ref w_ROLLED_BACK), .val (.int (1 : Int32)), .val (.int (1 : Int32)), .unset] [(.ref w_COMMITTED), (.ref w_ROLLED_BACK)])) _
    refine st6.trans ?_
    show Steps p.tables e below (T6.setTop (mkF m 82 #[.val (.int p1), .val (.int (2 : Int32)), .val (.ref w_ROLLED_BACK), .val (.int (1 : Int32)), .val (.int (1 : Int32)), .unset] [(.int (0 : Int32))])) _
    refine XS.ifNo X6.here hx rfl (hb hby at_82) rfl ((if0 _ _).trans (teq (by decide : (0 : Int32) = (0 : Int32))).2) ?_
    show Steps p.tables e below (T6.setTop (mkF m 85 #[.val (.int p1), .val (.int (2 : Int32)), .val (.ref w_ROLLED_BACK), .val (.int (1 : Int32)), .val (.int (1 : Int32)), .unset] [])) _
    refine XS.aloadN X6.here hx rfl (hb hby at_85) rfl rfl ?_
    show Steps p.tables e below (T6.setTop (mkF m 86 #[.val (.int p1), .val (.int (2 : Int32)), .val (.ref w_ROLLED_BACK), .val (.int (1 : Int32)), .val (.int (1 : Int32)), .unset] [(.ref w_ROLLED_BACK)])) _
    refine st7 _ ?_
    show Steps p.tables e below (T7.setTop (mkF m 89 #[.val (.int p1), .val (.int (2 : Int32)), .val (.ref w_ROLLED_BACK), .val (.int (1 : Int32)), .val (.int (1 : Int32)), .unset] [(.ref w_ROLLED_BACK), (.ref w_ROLLED_BACK)])) _
    refine st8.trans ?_
    show Steps p.tables e below (T8.setTop (mkF m 92 #[.val (.int p1), .val (.int (2 : Int32)), .val (.ref w_ROLLED_BACK), .val (.int (1 : Int32)), .val (.int (1 : Int32)), .unset] [(.int (0 : Int32))])) _
    refine XS.ifNo X8.here hx rfl (hb hby at_92) rfl ((if0 _ _).trans (teq (by decide : (0 : Int32) = (0 : Int32))).2) ?_
    show Steps p.tables e below (T8.setTop (mkF m 95 #[.val (.int p1), .val (.int (2 : Int32)), .val (.ref w_ROLLED_BACK), .val (.int (1 : Int32)), .val (.int (1 : Int32)), .unset] [])) _
    refine XS.aloadN X8.here hx rfl (hb hby at_95) rfl rfl ?_
    show Steps p.tables e below (T8.setTop (mkF m 96 #[.val (.int p1), .val (.int (2 : Int32)), .val (.ref w_ROLLED_BACK), .val (.int (1 : Int32)), .val (.int (1 : Int32)), .unset] [(.ref w_ROLLED_BACK)])) _
    refine st9 _ ?_
    show Steps p.tables e below (T9.setTop (mkF m 99 #[.val (.int p1), .val (.int (2 : Int32)), .val (.ref w_ROLLED_BACK), .val (.int (1 : Int32)), .val (.int (1 : Int32)), .unset] [(.ref w_PARKED), (.ref w_ROLLED_BACK)])) _
    refine st10.trans ?_
    show Steps p.tables e below (T10.setTop (mkF m 102 #[.val (.int p1), .val (.int (2 : Int32)), .val (.ref w_ROLLED_BACK), .val (.int (1 : Int32)), .val (.int (1 : Int32)), .unset] [(.int (0 : Int32))])) _
    refine XS.ifNo X10.here hx rfl (hb hby at_102) rfl ((if0 _ _).trans (teq (by decide : (0 : Int32) = (0 : Int32))).2) ?_
    show Steps p.tables e below (T10.setTop (mkF m 105 #[.val (.int p1), .val (.int (2 : Int32)), .val (.ref w_ROLLED_BACK), .val (.int (1 : Int32)), .val (.int (1 : Int32)), .unset] [])) _
    refine XS.iconst X10.here hx rfl (hb hby at_105) ?_
    show Steps p.tables e below (T10.setTop (mkF m 106 #[.val (.int p1), .val (.int (2 : Int32)), .val (.ref w_ROLLED_BACK), .val (.int (1 : Int32)), .val (.int (1 : Int32)), .unset] [(.int (1 : Int32))])) _
    refine XS.goto X10.here hx rfl (pc0 := 106) (pc' := 110) rfl (hb hby at_106) (by decide) (by decide) ?_
    show Steps p.tables e below (T10.setTop (mkF m 110 #[.val (.int p1), .val (.int (2 : Int32)), .val (.ref w_ROLLED_BACK), .val (.int (1 : Int32)), .val (.int (1 : Int32)), .unset] [(.int (1 : Int32))])) _
    refine XS.istore X10.here hx rfl (hb hby at_110) rfl (l' := #[.val (.int p1), .val (.int (2 : Int32)), .val (.ref w_ROLLED_BACK), .val (.int (1 : Int32)), .val (.int (1 : Int32)), .val (.int (1 : Int32))]) rfl ?_
    show Steps p.tables e below (T10.setTop (mkF m 112 #[.val (.int p1), .val (.int (2 : Int32)), .val (.ref w_ROLLED_BACK), .val (.int (1 : Int32)), .val (.int (1 : Int32)), .val (.int (1 : Int32))] [])) _
    refine XS.iloadN X10.here hx rfl (hb hby at_112) rfl ?_
    show Steps p.tables e below (T10.setTop (mkF m 113 #[.val (.int p1), .val (.int (2 : Int32)), .val (.ref w_ROLLED_BACK), .val (.int (1 : Int32)), .val (.int (1 : Int32)), .val (.int (1 : Int32))] [(.int (1 : Int32))])) _
    refine XS.iload X10.here hx rfl (hb hby at_113) rfl ?_
    show Steps p.tables e below (T10.setTop (mkF m 115 #[.val (.int p1), .val (.int (2 : Int32)), .val (.ref w_ROLLED_BACK), .val (.int (1 : Int32)), .val (.int (1 : Int32)), .val (.int (1 : Int32))] [(.int (1 : Int32)), (.int (1 : Int32))])) _
    refine XS.icmpNo X10.here hx rfl (hb hby at_115) rfl (teq (by decide : (1 : Int32) = (1 : Int32))).2 ?_
    show Steps p.tables e below (T10.setTop (mkF m 118 #[.val (.int p1), .val (.int (2 : Int32)), .val (.ref w_ROLLED_BACK), .val (.int (1 : Int32)), .val (.int (1 : Int32)), .val (.int (1 : Int32))] [])) _
    refine XS.iloadN X10.here hx rfl (hb hby at_118) rfl ?_
    show Steps p.tables e below (T10.setTop (mkF m 119 #[.val (.int p1), .val (.int (2 : Int32)), .val (.ref w_ROLLED_BACK), .val (.int (1 : Int32)), .val (.int (1 : Int32)), .val (.int (1 : Int32))] [(.int (1 : Int32))])) _
    refine XS.iload X10.here hx rfl (hb hby at_119) rfl ?_
    show Steps p.tables e below (T10.setTop (mkF m 121 #[.val (.int p1), .val (.int (2 : Int32)), .val (.ref w_ROLLED_BACK), .val (.int (1 : Int32)), .val (.int (1 : Int32)), .val (.int (1 : Int32))] [(.int (1 : Int32)), (.int (1 : Int32))])) _
    refine XS.icmpNo X10.here hx rfl (hb hby at_121) rfl (teq (by decide : (1 : Int32) = (1 : Int32))).2 ?_
    show Steps p.tables e below (T10.setTop (mkF m 124 #[.val (.int p1), .val (.int (2 : Int32)), .val (.ref w_ROLLED_BACK), .val (.int (1 : Int32)), .val (.int (1 : Int32)), .val (.int (1 : Int32))] [])) _
    refine XS.iconst X10.here hx rfl (hb hby at_124) ?_
    show Steps p.tables e below (T10.setTop (mkF m 125 #[.val (.int p1), .val (.int (2 : Int32)), .val (.ref w_ROLLED_BACK), .val (.int (1 : Int32)), .val (.int (1 : Int32)), .val (.int (1 : Int32))] [(.int (1 : Int32))])) _
    refine XS.goto X10.here hx rfl (pc0 := 125) (pc' := 129) rfl (hb hby at_125) (by decide) (by decide) ?_
    show Steps p.tables e below (T10.setTop (mkF m 129 #[.val (.int p1), .val (.int (2 : Int32)), .val (.ref w_ROLLED_BACK), .val (.int (1 : Int32)), .val (.int (1 : Int32)), .val (.int (1 : Int32))] [(.int (1 : Int32))])) _
    exact retN X10 hx (t := .boolean) Bd.returns (by simp) (hb hby at_129) hr
  · exact ⟨rfl, N10⟩
def Q1_23 (Z : State) (w_OPEN : Addr) (w_COMMITTED : Addr) (w_ROLLED_BACK : Addr) (w_PARKED : Addr) (h0 : Heap) (n0 : Nat) (v : Option Value) (h : Heap) (L : List Loc) : Prop := v = some (.int (0 : Int32)) ∧ Fr n0 L ∧ h = h0
set_option maxRecDepth 65536 in
set_option maxHeartbeats 40000000 in
theorem rm1_23 (l : Launch) (Z : State) (a0 : Array Value) (hw : ∀ d ∈ tables_1, d.before a0 Z = true) (ws : List Jvm.Cond) (w_OPEN : Addr) (w_COMMITTED : Addr) (w_ROLLED_BACK : Addr) (w_PARKED : Addr) (h0 : Heap) (n0 : Nat) (Z0 : n0 ≤ h0.size) (HW : World Z h0 w_OPEN w_COMMITTED w_ROLLED_BACK w_PARKED) :
    MetFree l (⟨"com/example/clinch/clinch/broker/TransactionState", "isFinal", "()Z"⟩ : MethodName) (head1 (Jvm.Cond.code (⟨"com/example/clinch/clinch/broker/TransactionState", "isFinal", "()Z"⟩ : MethodName) prog_17_method_4_code 1 (some .boolean) :: ws) ({ frames := 0, cells := 0, slots := 0, locals := 0 } : Room)) (fun a U => a = #[(.ref w_PARKED)] ∧ Z.Warmed39 U.vm ∧ U.heap = h0) (fun _ _ _ _ _ => True) (fun _ U o U' => ∃ v L, o = .returned v ∧ Q1_23 Z w_OPEN w_COMMITTED w_ROLLED_BACK w_PARKED h0 n0 v U'.heap L ∧ FrameEnd U o U' L ({ frames := 0, cells := 0, slots := 0, locals := 0 } : Room).cells ({ frames := 0, cells := 0, slots := 0, locals := 0 } : Room).slots) := by
  refine MetFree.of_bodySF (plainFor_of_name pn10) hisR ?_
  intro p e s m args below meth c s₁ Bd hml0 hP hK
  obtain ⟨rfl, hZ, hh⟩ := hP
  have hx := Bd.exec
  have hby := Bd.bytes
  have hml : c.maxLocals = 1 := hml0
  have hown : s.vm.findClass "com/example/clinch/clinch/broker/TransactionState" = some m.cls := findClass_of_methodNamed Bd.named
  have X0 : Stand p l e ({ frames := 0, cells := 0, slots := 0, locals := 0 } : Room) s m #[(.ref w_PARKED)] below meth c s₁ [] 0 0 := Stand.of_body Bd
  have e0 : s₁.heap = h0 := by rw [← hh, Bd.state]; rfl
  have N0 := Fr.nil n0
  have pre0 : ∀ t, Steps p.tables e below (s₁.setTop (mkF m 0 #[.val (.ref w_PARKED)] [])) t → Steps p.tables e below (s₁.setTop (entryFrame m #[(.ref w_PARKED)] 1)) t := fun t k => castTop (ef9 m w_PARKED) k
  obtain ⟨S_w_OPEN, E_w_OPEN, S_w_COMMITTED, E_w_COMMITTED, S_w_ROLLED_BACK, E_w_ROLLED_BACK, S_w_PARKED, E_w_PARKED, F_ordinal_w_OPEN, F_ordinal_w_COMMITTED, F_ordinal_w_ROLLED_BACK, F_ordinal_w_PARKED, ne_w_OPEN_w_COMMITTED, ne_w_OPEN_w_ROLLED_BACK, ne_w_OPEN_w_PARKED, ne_w_COMMITTED_w_ROLLED_BACK, ne_w_COMMITTED_w_PARKED, ne_w_ROLLED_BACK_w_PARKED, -⟩ := id HW
  obtain ⟨T1, X1, e1, st1⟩ := getS2 X0 hx hZ hown (host := "") (Or.inl (hw _ (List.mem_of_getElem? (i := 8) rfl))) Via.refl e0 S_w_COMMITTED (g := (mkF m 1 #[.val (.ref w_PARKED)] [(.ref w_PARKED)])) rfl (hb hby d1_1)
  obtain ⟨T2, X2, e2, st2⟩ := getS2 X1 hx hZ hown (host := "") (Or.inl (hw _ (List.mem_of_getElem? (i := 10) rfl))) Via.refl e1 S_w_ROLLED_BACK (g := (mkF m 8 #[.val (.ref w_PARKED)] [(.ref w_PARKED)])) rfl (hb hby d1_8)
  obtain ⟨fs, hr, hrun, hended, hW, hsame⟩ := X2.leave (v := some (.int (0 : Int32))) (fun h => by rw [Bd.returns] at h; cases h)
  refine ⟨_, _, pre0 _ ?_, hrun, hended, _, _, rfl, ?_, ⟨_, rfl⟩, hW, hsame.mono (by decide) (by decide)⟩
  · show Steps p.tables e below (s₁.setTop (mkF m 0 #[.val (.ref w_PARKED)] [])) _
    refine XS.aloadN X0.here hx rfl (hb hby d1_0) rfl rfl ?_
    show Steps p.tables e below (s₁.setTop (mkF m 1 #[.val (.ref w_PARKED)] [(.ref w_PARKED)])) _
    refine st1 _ ?_
    show Steps p.tables e below (T1.setTop (mkF m 4 #[.val (.ref w_PARKED)] [(.ref w_COMMITTED), (.ref w_PARKED)])) _
    refine Jvm.RoadKit.acmp (g := (mkF m 4 #[.val (.ref w_PARKED)] [(.ref w_COMMITTED), (.ref w_PARKED)])) X1 hx rfl rfl rfl (pc0 := 4) (pc' := 7) (same := false) rfl (hb hby d1_4) rfl (decide_eq_false fun q => ne_w_COMMITTED_w_PARKED (Value.ref.inj q).symm) (by decide) (by decide) ?_
    show Steps p.tables e below (T1.setTop (mkF m 7 #[.val (.ref w_PARKED)] [])) _
    refine XS.aloadN X1.here hx rfl (hb hby d1_7) rfl rfl ?_
    show Steps p.tables e below (T1.setTop (mkF m 8 #[.val (.ref w_PARKED)] [(.ref w_PARKED)])) _
    refine st2 _ ?_
    show Steps p.tables e below (T2.setTop (mkF m 11 #[.val (.ref w_PARKED)] [(.ref w_ROLLED_BACK), (.ref w_PARKED)])) _
    refine Jvm.RoadKit.acmp (g := (mkF m 11 #[.val (.ref w_PARKED)] [(.ref w_ROLLED_BACK), (.ref w_PARKED)])) X2 hx rfl rfl rfl (pc0 := 11) (pc' := 18) (same := false) rfl (hb hby d1_11) rfl (decide_eq_false fun q => ne_w_ROLLED_BACK_w_PARKED (Value.ref.inj q).symm) (by decide) (by decide) ?_
    show Steps p.tables e below (T2.setTop (mkF m 18 #[.val (.ref w_PARKED)] [])) _
    refine XS.iconst X2.here hx rfl (hb hby d1_18) ?_
    show Steps p.tables e below (T2.setTop (mkF m 19 #[.val (.ref w_PARKED)] [(.int (0 : Int32))])) _
    exact retN X2 hx (t := .boolean) Bd.returns (by simp) (hb hby d1_19) hr
  · exact ⟨rfl, N0, e2⟩
def Q4_24 (Z : State) (w_OPEN : Addr) (w_COMMITTED : Addr) (w_ROLLED_BACK : Addr) (w_PARKED : Addr) (h0 : Heap) (n0 : Nat) (v : Option Value) (h : Heap) (L : List Loc) : Prop := v = some (.int (3 : Int32)) ∧ Fr n0 L ∧ h = h0
set_option maxRecDepth 65536 in
set_option maxHeartbeats 40000000 in
theorem rm4_24 (l : Launch) (Z : State) (a0 : Array Value) (hw : ∀ d ∈ tables_1, d.before a0 Z = true) (ws : List Jvm.Cond) (w_OPEN : Addr) (w_COMMITTED : Addr) (w_ROLLED_BACK : Addr) (w_PARKED : Addr) (h0 : Heap) (n0 : Nat) (Z0 : n0 ≤ h0.size) (HW : World Z h0 w_OPEN w_COMMITTED w_ROLLED_BACK w_PARKED) :
    MetFree l (⟨"java/lang/Enum", "ordinal", "()I"⟩ : MethodName) (head1 (Jvm.Cond.code (⟨"java/lang/Enum", "ordinal", "()I"⟩ : MethodName) jdk_37_method_2_code 1 (some .int) :: ws) ({ frames := 0, cells := 0, slots := 0, locals := 0 } : Room)) (fun a U => a = #[(.ref w_PARKED)] ∧ Z.Warmed39 U.vm ∧ U.heap = h0) (fun _ _ _ _ _ => True) (fun _ U o U' => ∃ v L, o = .returned v ∧ Q4_24 Z w_OPEN w_COMMITTED w_ROLLED_BACK w_PARKED h0 n0 v U'.heap L ∧ FrameEnd U o U' L ({ frames := 0, cells := 0, slots := 0, locals := 0 } : Room).cells ({ frames := 0, cells := 0, slots := 0, locals := 0 } : Room).slots) := by
  refine MetFree.of_bodySF (plainFor_of_name pn30) hisR ?_
  intro p e s m args below meth c s₁ Bd hml0 hP hK
  obtain ⟨rfl, hZ, hh⟩ := hP
  have hx := Bd.exec
  have hby := Bd.bytes
  have hml : c.maxLocals = 1 := hml0
  have hown : s.vm.findClass "java/lang/Enum" = some m.cls := findClass_of_methodNamed Bd.named
  have X0 : Stand p l e ({ frames := 0, cells := 0, slots := 0, locals := 0 } : Room) s m #[(.ref w_PARKED)] below meth c s₁ [] 0 0 := Stand.of_body Bd
  have e0 : s₁.heap = h0 := by rw [← hh, Bd.state]; rfl
  have N0 := Fr.nil n0
  have pre0 : ∀ t, Steps p.tables e below (s₁.setTop (mkF m 0 #[.val (.ref w_PARKED)] [])) t → Steps p.tables e below (s₁.setTop (entryFrame m #[(.ref w_PARKED)] 1)) t := fun t k => castTop (ef29 m w_PARKED) k
  obtain ⟨S_w_OPEN, E_w_OPEN, S_w_COMMITTED, E_w_COMMITTED, S_w_ROLLED_BACK, E_w_ROLLED_BACK, S_w_PARKED, E_w_PARKED, F_ordinal_w_OPEN, F_ordinal_w_COMMITTED, F_ordinal_w_ROLLED_BACK, F_ordinal_w_PARKED, ne_w_OPEN_w_COMMITTED, ne_w_OPEN_w_ROLLED_BACK, ne_w_OPEN_w_PARKED, ne_w_COMMITTED_w_ROLLED_BACK, ne_w_COMMITTED_w_PARKED, ne_w_ROLLED_BACK_w_PARKED, -⟩ := id HW
  obtain ⟨T1, X1, e1, st1⟩ := getF X0 hx hZ hown (host := "") (Or.inl (hw _ (List.mem_of_getElem? (i := 36) rfl))) Via.refl e0 F_ordinal_w_PARKED (g := (mkF m 1 #[.val (.ref w_PARKED)] [(.ref w_PARKED)])) rfl rfl (hb hby d4_1)
  obtain ⟨fs, hr, hrun, hended, hW, hsame⟩ := X1.leave (v := some (.int (3 : Int32))) (fun h => by rw [Bd.returns] at h; cases h)
  refine ⟨_, _, pre0 _ ?_, hrun, hended, _, _, rfl, ?_, ⟨_, rfl⟩, hW, hsame.mono (by decide) (by decide)⟩
  · show Steps p.tables e below (s₁.setTop (mkF m 0 #[.val (.ref w_PARKED)] [])) _
    refine XS.aloadN X0.here hx rfl (hb hby d4_0) rfl rfl ?_
    show Steps p.tables e below (s₁.setTop (mkF m 1 #[.val (.ref w_PARKED)] [(.ref w_PARKED)])) _
    refine st1 _ ?_
    show Steps p.tables e below (T1.setTop (mkF m 4 #[.val (.ref w_PARKED)] [(.int (3 : Int32))])) _
    exact Jvm.RoadKit.retI X1 hx Bd.returns (hb hby d4_4) hr
  · exact ⟨rfl, N0, e1⟩
theorem d2_65 : decode prog_17_method_5_code 65 = .ok (.aload_n 1, 1) := by decide +kernel
theorem d2_66 : decode prog_17_method_5_code 66 = .ok (.invokevirtual 52, 3) := by decide +kernel
theorem d2_69 : decode prog_17_method_5_code 69 = .ok (.goto 4, 3) := by decide +kernel
def Q2_25 (Z : State) (w_OPEN : Addr) (w_COMMITTED : Addr) (w_ROLLED_BACK : Addr) (w_PARKED : Addr) (h0 : Heap) (n0 : Nat) (v : Option Value) (h : Heap) (L : List Loc) : Prop := v = some (.int (0 : Int32)) ∧ Fr n0 L ∧ Ext h0 h
set_option maxRecDepth 65536 in
set_option maxHeartbeats 40000000 in
theorem rm2_25 (l : Launch) (Z : State) (a0 : Array Value) (hw : ∀ d ∈ tables_1, d.before a0 Z = true) (ws : List Jvm.Cond) (w_OPEN : Addr) (w_COMMITTED : Addr) (w_ROLLED_BACK : Addr) (w_PARKED : Addr) (h0 : Heap) (n0 : Nat) (Z0 : n0 ≤ h0.size) (HW : World Z h0 w_OPEN w_COMMITTED w_ROLLED_BACK w_PARKED) :
    MetFree l (⟨"com/example/clinch/clinch/broker/TransactionState", "canMoveTo", "(Lcom/example/clinch/clinch/broker/TransactionState;)Z"⟩ : MethodName) (head1 (Jvm.Cond.code (⟨"com/example/clinch/clinch/broker/TransactionState", "canMoveTo", "(Lcom/example/clinch/clinch/broker/TransactionState;)Z"⟩ : MethodName) prog_17_method_5_code 3 (some .boolean) :: ws) ({ frames := 1, cells := 2, slots := 20, locals := 13 } : Room)) (fun a U => a = #[(.ref w_PARKED), (.ref w_OPEN)] ∧ Z.Warmed39 U.vm ∧ U.heap = h0) (fun _ _ _ _ _ => True) (fun _ U o U' => ∃ v L, o = .returned v ∧ Q2_25 Z w_OPEN w_COMMITTED w_ROLLED_BACK w_PARKED h0 n0 v U'.heap L ∧ ReturnedEndW U o U' L ({ frames := 1, cells := 2, slots := 20, locals := 13 } : Room).cells ({ frames := 1, cells := 2, slots := 20, locals := 13 } : Room).slots) := by
  refine MetFree.of_bodySF (plainFor_of_name pn10) hisR ?_
  intro p e s m args below meth c s₁ Bd hml0 hP hK
  obtain ⟨rfl, hZ, hh⟩ := hP
  have hx := Bd.exec
  have hby := Bd.bytes
  have hml : c.maxLocals = 3 := hml0
  have hown : s.vm.findClass "com/example/clinch/clinch/broker/TransactionState" = some m.cls := findClass_of_methodNamed Bd.named
  have X0 : Stand p l e ({ frames := 1, cells := 2, slots := 20, locals := 13 } : Room) s m #[(.ref w_PARKED), (.ref w_OPEN)] below meth c s₁ [] 0 0 := Stand.of_body Bd
  have e0 : s₁.heap = h0 := by rw [← hh, Bd.state]; rfl
  have N0 := Fr.nil n0
  have pre0 : ∀ t, Steps p.tables e below (s₁.setTop (mkF m 0 #[.val (.ref w_PARKED), .val (.ref w_OPEN), .unset] [])) t → Steps p.tables e below (s₁.setTop (entryFrame m #[(.ref w_PARKED), (.ref w_OPEN)] 3)) t := fun t k => castTop (ef43 m w_PARKED w_OPEN) k
  have X0s : Stand p l e ({ frames := 1, cells := 2, slots := 20, locals := 13 } : Room) (s.setVm s.vm) m #[(.ref w_PARKED), (.ref w_OPEN)] below meth c s₁ [] 0 0 := X0
  have hZ0 : Z.Warmed39 (s.setVm s.vm).vm := hZ
  have hown0 : (s.setVm s.vm).vm.findClass "com/example/clinch/clinch/broker/TransactionState" = some m.cls := hown
  have hS0 := own_since s
  obtain ⟨S_w_OPEN, E_w_OPEN, S_w_COMMITTED, E_w_COMMITTED, S_w_ROLLED_BACK, E_w_ROLLED_BACK, S_w_PARKED, E_w_PARKED, F_ordinal_w_OPEN, F_ordinal_w_COMMITTED, F_ordinal_w_ROLLED_BACK, F_ordinal_w_PARKED, ne_w_OPEN_w_COMMITTED, ne_w_OPEN_w_ROLLED_BACK, ne_w_OPEN_w_PARKED, ne_w_COMMITTED_w_ROLLED_BACK, ne_w_COMMITTED_w_PARKED, ne_w_ROLLED_BACK_w_PARKED, -⟩ := id HW
  obtain ⟨a1, T1, h1, kk1, X1, e1, E1, hS1, hk1, hZ1, hown1, st1⟩ := ldcS X0s hx hZ0 hown0 (hw _ (List.mem_of_getElem? (i := 17) rfl)) (own_wS hw) e0 hS0 (Nat.zero_le _) (g := (mkF m 1 #[.val (.ref w_PARKED), .val (.ref w_OPEN), .unset] [(.ref w_OPEN)])) rfl (hb hby d2_1) (n := 16) (by decide) (by decide) (by decide) (by decide)
  replace HW := HW.ext E1
  obtain ⟨S_w_OPEN, E_w_OPEN, S_w_COMMITTED, E_w_COMMITTED, S_w_ROLLED_BACK, E_w_ROLLED_BACK, S_w_PARKED, E_w_PARKED, F_ordinal_w_OPEN, F_ordinal_w_COMMITTED, F_ordinal_w_ROLLED_BACK, F_ordinal_w_PARKED, ne_w_OPEN_w_COMMITTED, ne_w_OPEN_w_ROLLED_BACK, ne_w_OPEN_w_PARKED, ne_w_COMMITTED_w_ROLLED_BACK, ne_w_COMMITTED_w_PARKED, ne_w_ROLLED_BACK_w_PARKED, -⟩ := id HW
  obtain ⟨_, _, ⟨T2, L2, k2, n2⟩, -, X2, ⟨Lc2, hQ2, l2, y2, z2⟩, st2⟩ := Jvm.LawKit.callS X1 hx (y := (⟨"java/util/Objects", "requireNonNull", "(Ljava/lang/Object;Ljava/lang/String;)Ljava/lang/Object;"⟩ : MethodName)) hown1 (mvT hZ1 (hw _ (List.mem_of_getElem? (i := 25) rfl))) (mvT hZ1 (hw _ (List.mem_of_getElem? (i := 26) rfl))) (mvT hZ1 (hw _ (List.mem_of_getElem? (i := 27) rfl))) (mvT hZ1 (hw _ (List.mem_of_getElem? (i := 28) rfl))) (by decide) (backOf (W := 0) (rm3_1 l Z a0 hw [] w_OPEN w_COMMITTED w_ROLLED_BACK w_PARKED a1 h1 n0 (Nat.le_trans Z0 E1.1) HW) hZ1 (hw _ (List.mem_of_getElem? (i := 28) rfl)) (hw _ (List.mem_of_getElem? (i := 27) rfl)) (by decide) (by decide)) (g := (mkF m 3 #[.val (.ref w_PARKED), .val (.ref w_OPEN), .unset] [(.ref a1), (.ref w_OPEN)])) rfl (by rw [hml]; rfl) (argsL := [(.ref w_OPEN), (.ref a1)]) (rest := []) (lenOf pd21 rfl) rfl (by show 2 * 0 + _ ≤ _; exact Nat.le_of_eq rfl) (hb hby d2_3) (fun _ _ => ⟨rfl, e1, (by decide : 2 + 0 ≤ _), (by decide : 20 + 0 ≤ _)⟩)
  dsimp only [Pt.U, Pt.locs, Pt.cells, Pt.slots] at X2 l2 y2 z2 st2 hQ2
  subst l2 y2 z2
  obtain ⟨rfl, N2q, e2⟩ := hQ2
  have N2 := Fr.app N0 N2q
  obtain ⟨cq3, kq3, q3a, q3b, q3c⟩ := isOf hZ1 e2 E_w_PARKED
  obtain ⟨_, _, ⟨T3, L3, k3, n3⟩, -, X3, ⟨Lc3, hQ3, l3, y3, z3⟩, st3⟩ := X2.virtualBackUp hx (x := (⟨"com/example/clinch/clinch/broker/TransactionState", "ordinal", "()I"⟩ : MethodName)) (y := (⟨"java/lang/Enum", "ordinal", "()I"⟩ : MethodName)) hown1 (mvT hZ1 (hw _ (List.mem_of_getElem? (i := 29) rfl))) (mvT hZ1 (hw _ (List.mem_of_getElem? (i := 30) rfl))) (mvT hZ1 (hw _ (List.mem_of_getElem? (i := 31) rfl))) (by decide) (mvT hZ1 (hw _ (List.mem_of_getElem? (i := 33) rfl))) (mvT hZ1 (hw _ (List.mem_of_getElem? (i := 32) rfl))) (backOf (W := 0) (rm4_24 l Z a0 hw [] w_OPEN w_COMMITTED w_ROLLED_BACK w_PARKED h1 n0 (Nat.le_trans Z0 E1.1) HW) hZ1 (hw _ (List.mem_of_getElem? (i := 35) rfl)) (hw _ (List.mem_of_getElem? (i := 34) rfl)) (by decide) (by decide)) q3a q3c (g := (mkF m 8 #[.val (.ref w_PARKED), .val (.ref w_OPEN), .unset] [(.ref w_PARKED)])) rfl (by rw [hml]; rfl) (Steps.refl _) (argsL := []) (rest := []) (lenOf pd31 rfl) rfl (by show 2 * 0 + _ ≤ _; exact Nat.le_of_eq rfl) (hb hby d2_8) (fun _ _ => ⟨rfl, e2, (by decide : 2 + 0 ≤ _), (by decide : 20 + 0 ≤ _)⟩)
  dsimp only [Pt.U, Pt.locs, Pt.cells, Pt.slots] at X3 l3 y3 z3 st3 hQ3
  subst l3 y3 z3
  obtain ⟨rfl, N3q, e3⟩ := hQ3
  have N3 := Fr.app N2 N3q
  obtain ⟨cq4, kq4, q4a, q4b, q4c⟩ := isOf hZ1 e3 E_w_OPEN
  obtain ⟨_, _, ⟨T4, L4, k4, n4⟩, -, X4, ⟨Lc4, hQ4, l4, y4, z4⟩, st4⟩ := X3.virtualBack hx (y := (⟨"com/example/clinch/clinch/broker/TransactionState", "isFinal", "()Z"⟩ : MethodName)) (z := (⟨"com/example/clinch/clinch/broker/TransactionState", "isFinal", "()Z"⟩ : MethodName)) hown1 (mvT hZ1 (hw _ (List.mem_of_getElem? (i := 42) rfl))) (mvT hZ1 (hw _ (List.mem_of_getElem? (i := 4) rfl))) (notFace_of_selects (args := #[]) (mvT hZ1 (hw _ (List.mem_of_getElem? (i := 6) rfl)))) (mvT hZ1 (hw _ (List.mem_of_getElem? (i := 6) rfl))) (mvT hZ1 (hw _ (List.mem_of_getElem? (i := 5) rfl))) (by decide) (backOf (W := 0) (rm1_0 l Z a0 hw [] w_OPEN w_COMMITTED w_ROLLED_BACK w_PARKED h1 n0 (Nat.le_trans Z0 E1.1) HW) hZ1 (hw _ (List.mem_of_getElem? (i := 7) rfl)) (hw _ (List.mem_of_getElem? (i := 1) rfl)) (by decide) (by decide)) q4a q4c (g := (mkF m 66 #[.val (.ref w_PARKED), .val (.ref w_OPEN), .unset] [(.ref w_OPEN)])) rfl (by rw [hml]; rfl) (Steps.refl _) (argsL := []) (rest := []) (lenOf pd11 rfl) rfl (by show 2 * 0 + _ ≤ _; exact Nat.le_of_eq rfl) (hb hby d2_66) (fun _ _ => ⟨rfl, e3, (by decide : 2 + 0 ≤ _), (by decide : 20 + 0 ≤ _)⟩)
  dsimp only [Pt.U, Pt.locs, Pt.cells, Pt.slots] at X4 l4 y4 z4 st4 hQ4
  subst l4 y4 z4
  obtain ⟨rfl, N4q, e4⟩ := hQ4
  have N4 := Fr.app N3 N4q
  obtain ⟨fs, hr, hrun, hended, hW0, hW1, hW2, hsame⟩ := X4.leaveW hS1 (by rw [e4]; exact hk1) (v := some (.int (0 : Int32))) (fun h => by rw [Bd.returns] at h; cases h)
  refine ⟨_, _, pre0 _ ?_, hrun, hended, _, _, rfl, ?_, hW0, hW1, hW2, hsame.mono (by decide) (by decide)⟩
  · show Steps p.tables e below (s₁.setTop (mkF m 0 #[.val (.ref w_PARKED), .val (.ref w_OPEN), .unset] [])) _
    refine XS.aloadN X0s.here hx rfl (hb hby d2_0) rfl rfl ?_
    show Steps p.tables e below (s₁.setTop (mkF m 1 #[.val (.ref w_PARKED), .val (.ref w_OPEN), .unset] [(.ref w_OPEN)])) _
    refine st1 _ ?_
    show Steps p.tables e below (T1.setTop (mkF m 3 #[.val (.ref w_PARKED), .val (.ref w_OPEN), .unset] [(.ref a1), (.ref w_OPEN)])) _
    refine st2 _ ?_
    show Steps p.tables e below (T2.setTop (mkF m 6 #[.val (.ref w_PARKED), .val (.ref w_OPEN), .unset] [(.ref w_OPEN)])) _
    refine XS.pop X2.here hx rfl (hb hby d2_6) rfl rfl ?_
    show Steps p.tables e below (T2.setTop (mkF m 7 #[.val (.ref w_PARKED), .val (.ref w_OPEN), .unset] [])) _
    refine XS.aloadN X2.here hx rfl (hb hby d2_7) rfl rfl ?_
    show Steps p.tables e below (T2.setTop (mkF m 8 #[.val (.ref w_PARKED), .val (.ref w_OPEN), .unset] [(.ref w_PARKED)])) _
    refine st3.trans ?_
    show Steps p.tables e below (T3.setTop (mkF m 11 #[.val (.ref w_PARKED), .val (.ref w_OPEN), .unset] [(.int (3 : Int32))])) _
    refine XS.tswIn X3.here hx rfl (pc0 := 11) (pc' := 65) rfl (hb hby d2_11) rfl (by decide) (o := 54) (by decide) (by decide) (by decide) ?_
    show Steps p.tables e below (T3.setTop (mkF m 65 #[.val (.ref w_PARKED), .val (.ref w_OPEN), .unset] [])) _
    refine XS.aloadN X3.here hx rfl (hb hby d2_65) rfl rfl ?_
    show Steps p.tables e below (T3.setTop (mkF m 66 #[.val (.ref w_PARKED), .val (.ref w_OPEN), .unset] [(.ref w_OPEN)])) _
    refine st4.trans ?_
    show Steps p.tables e below (T4.setTop (mkF m 69 #[.val (.ref w_PARKED), .val (.ref w_OPEN), .unset] [(.int (0 : Int32))])) _
    refine XS.goto X4.here hx rfl (pc0 := 69) (pc' := 73) rfl (hb hby d2_69) (by decide) (by decide) ?_
    show Steps p.tables e below (T4.setTop (mkF m 73 #[.val (.ref w_PARKED), .val (.ref w_OPEN), .unset] [(.int (0 : Int32))])) _
    refine XS.istoreN X4.here hx rfl (hb hby d2_73) rfl (l' := #[.val (.ref w_PARKED), .val (.ref w_OPEN), .val (.int (0 : Int32))]) rfl ?_
    show Steps p.tables e below (T4.setTop (mkF m 74 #[.val (.ref w_PARKED), .val (.ref w_OPEN), .val (.int (0 : Int32))] [])) _
    refine XS.iloadN X4.here hx rfl (hb hby d2_74) rfl ?_
    show Steps p.tables e below (T4.setTop (mkF m 75 #[.val (.ref w_PARKED), .val (.ref w_OPEN), .val (.int (0 : Int32))] [(.int (0 : Int32))])) _
    exact retN X4 hx (t := .boolean) Bd.returns (by simp) (hb hby d2_75) hr
  · exact ⟨rfl, N4, (by show Ext h0 T4.heap; rw [e4]; exact E1)⟩
def Q2_26 (Z : State) (w_OPEN : Addr) (w_COMMITTED : Addr) (w_ROLLED_BACK : Addr) (w_PARKED : Addr) (h0 : Heap) (n0 : Nat) (v : Option Value) (h : Heap) (L : List Loc) : Prop := v = some (.int (1 : Int32)) ∧ Fr n0 L ∧ Ext h0 h
set_option maxRecDepth 65536 in
set_option maxHeartbeats 40000000 in
theorem rm2_26 (l : Launch) (Z : State) (a0 : Array Value) (hw : ∀ d ∈ tables_1, d.before a0 Z = true) (ws : List Jvm.Cond) (w_OPEN : Addr) (w_COMMITTED : Addr) (w_ROLLED_BACK : Addr) (w_PARKED : Addr) (h0 : Heap) (n0 : Nat) (Z0 : n0 ≤ h0.size) (HW : World Z h0 w_OPEN w_COMMITTED w_ROLLED_BACK w_PARKED) :
    MetFree l (⟨"com/example/clinch/clinch/broker/TransactionState", "canMoveTo", "(Lcom/example/clinch/clinch/broker/TransactionState;)Z"⟩ : MethodName) (head1 (Jvm.Cond.code (⟨"com/example/clinch/clinch/broker/TransactionState", "canMoveTo", "(Lcom/example/clinch/clinch/broker/TransactionState;)Z"⟩ : MethodName) prog_17_method_5_code 3 (some .boolean) :: ws) ({ frames := 1, cells := 2, slots := 20, locals := 13 } : Room)) (fun a U => a = #[(.ref w_PARKED), (.ref w_COMMITTED)] ∧ Z.Warmed39 U.vm ∧ U.heap = h0) (fun _ _ _ _ _ => True) (fun _ U o U' => ∃ v L, o = .returned v ∧ Q2_26 Z w_OPEN w_COMMITTED w_ROLLED_BACK w_PARKED h0 n0 v U'.heap L ∧ ReturnedEndW U o U' L ({ frames := 1, cells := 2, slots := 20, locals := 13 } : Room).cells ({ frames := 1, cells := 2, slots := 20, locals := 13 } : Room).slots) := by
  refine MetFree.of_bodySF (plainFor_of_name pn10) hisR ?_
  intro p e s m args below meth c s₁ Bd hml0 hP hK
  obtain ⟨rfl, hZ, hh⟩ := hP
  have hx := Bd.exec
  have hby := Bd.bytes
  have hml : c.maxLocals = 3 := hml0
  have hown : s.vm.findClass "com/example/clinch/clinch/broker/TransactionState" = some m.cls := findClass_of_methodNamed Bd.named
  have X0 : Stand p l e ({ frames := 1, cells := 2, slots := 20, locals := 13 } : Room) s m #[(.ref w_PARKED), (.ref w_COMMITTED)] below meth c s₁ [] 0 0 := Stand.of_body Bd
  have e0 : s₁.heap = h0 := by rw [← hh, Bd.state]; rfl
  have N0 := Fr.nil n0
  have pre0 : ∀ t, Steps p.tables e below (s₁.setTop (mkF m 0 #[.val (.ref w_PARKED), .val (.ref w_COMMITTED), .unset] [])) t → Steps p.tables e below (s₁.setTop (entryFrame m #[(.ref w_PARKED), (.ref w_COMMITTED)] 3)) t := fun t k => castTop (ef43 m w_PARKED w_COMMITTED) k
  have X0s : Stand p l e ({ frames := 1, cells := 2, slots := 20, locals := 13 } : Room) (s.setVm s.vm) m #[(.ref w_PARKED), (.ref w_COMMITTED)] below meth c s₁ [] 0 0 := X0
  have hZ0 : Z.Warmed39 (s.setVm s.vm).vm := hZ
  have hown0 : (s.setVm s.vm).vm.findClass "com/example/clinch/clinch/broker/TransactionState" = some m.cls := hown
  have hS0 := own_since s
  obtain ⟨S_w_OPEN, E_w_OPEN, S_w_COMMITTED, E_w_COMMITTED, S_w_ROLLED_BACK, E_w_ROLLED_BACK, S_w_PARKED, E_w_PARKED, F_ordinal_w_OPEN, F_ordinal_w_COMMITTED, F_ordinal_w_ROLLED_BACK, F_ordinal_w_PARKED, ne_w_OPEN_w_COMMITTED, ne_w_OPEN_w_ROLLED_BACK, ne_w_OPEN_w_PARKED, ne_w_COMMITTED_w_ROLLED_BACK, ne_w_COMMITTED_w_PARKED, ne_w_ROLLED_BACK_w_PARKED, -⟩ := id HW
  obtain ⟨a1, T1, h1, kk1, X1, e1, E1, hS1, hk1, hZ1, hown1, st1⟩ := ldcS X0s hx hZ0 hown0 (hw _ (List.mem_of_getElem? (i := 17) rfl)) (own_wS hw) e0 hS0 (Nat.zero_le _) (g := (mkF m 1 #[.val (.ref w_PARKED), .val (.ref w_COMMITTED), .unset] [(.ref w_COMMITTED)])) rfl (hb hby d2_1) (n := 16) (by decide) (by decide) (by decide) (by decide)
  replace HW := HW.ext E1
  obtain ⟨S_w_OPEN, E_w_OPEN, S_w_COMMITTED, E_w_COMMITTED, S_w_ROLLED_BACK, E_w_ROLLED_BACK, S_w_PARKED, E_w_PARKED, F_ordinal_w_OPEN, F_ordinal_w_COMMITTED, F_ordinal_w_ROLLED_BACK, F_ordinal_w_PARKED, ne_w_OPEN_w_COMMITTED, ne_w_OPEN_w_ROLLED_BACK, ne_w_OPEN_w_PARKED, ne_w_COMMITTED_w_ROLLED_BACK, ne_w_COMMITTED_w_PARKED, ne_w_ROLLED_BACK_w_PARKED, -⟩ := id HW
  obtain ⟨_, _, ⟨T2, L2, k2, n2⟩, -, X2, ⟨Lc2, hQ2, l2, y2, z2⟩, st2⟩ := Jvm.LawKit.callS X1 hx (y := (⟨"java/util/Objects", "requireNonNull", "(Ljava/lang/Object;Ljava/lang/String;)Ljava/lang/Object;"⟩ : MethodName)) hown1 (mvT hZ1 (hw _ (List.mem_of_getElem? (i := 25) rfl))) (mvT hZ1 (hw _ (List.mem_of_getElem? (i := 26) rfl))) (mvT hZ1 (hw _ (List.mem_of_getElem? (i := 27) rfl))) (mvT hZ1 (hw _ (List.mem_of_getElem? (i := 28) rfl))) (by decide) (backOf (W := 0) (rm3_4 l Z a0 hw [] w_OPEN w_COMMITTED w_ROLLED_BACK w_PARKED a1 h1 n0 (Nat.le_trans Z0 E1.1) HW) hZ1 (hw _ (List.mem_of_getElem? (i := 28) rfl)) (hw _ (List.mem_of_getElem? (i := 27) rfl)) (by decide) (by decide)) (g := (mkF m 3 #[.val (.ref w_PARKED), .val (.ref w_COMMITTED), .unset] [(.ref a1), (.ref w_COMMITTED)])) rfl (by rw [hml]; rfl) (argsL := [(.ref w_COMMITTED), (.ref a1)]) (rest := []) (lenOf pd21 rfl) rfl (by show 2 * 0 + _ ≤ _; exact Nat.le_of_eq rfl) (hb hby d2_3) (fun _ _ => ⟨rfl, e1, (by decide : 2 + 0 ≤ _), (by decide : 20 + 0 ≤ _)⟩)
  dsimp only [Pt.U, Pt.locs, Pt.cells, Pt.slots] at X2 l2 y2 z2 st2 hQ2
  subst l2 y2 z2
  obtain ⟨rfl, N2q, e2⟩ := hQ2
  have N2 := Fr.app N0 N2q
  obtain ⟨cq3, kq3, q3a, q3b, q3c⟩ := isOf hZ1 e2 E_w_PARKED
  obtain ⟨_, _, ⟨T3, L3, k3, n3⟩, -, X3, ⟨Lc3, hQ3, l3, y3, z3⟩, st3⟩ := X2.virtualBackUp hx (x := (⟨"com/example/clinch/clinch/broker/TransactionState", "ordinal", "()I"⟩ : MethodName)) (y := (⟨"java/lang/Enum", "ordinal", "()I"⟩ : MethodName)) hown1 (mvT hZ1 (hw _ (List.mem_of_getElem? (i := 29) rfl))) (mvT hZ1 (hw _ (List.mem_of_getElem? (i := 30) rfl))) (mvT hZ1 (hw _ (List.mem_of_getElem? (i := 31) rfl))) (by decide) (mvT hZ1 (hw _ (List.mem_of_getElem? (i := 33) rfl))) (mvT hZ1 (hw _ (List.mem_of_getElem? (i := 32) rfl))) (backOf (W := 0) (rm4_24 l Z a0 hw [] w_OPEN w_COMMITTED w_ROLLED_BACK w_PARKED h1 n0 (Nat.le_trans Z0 E1.1) HW) hZ1 (hw _ (List.mem_of_getElem? (i := 35) rfl)) (hw _ (List.mem_of_getElem? (i := 34) rfl)) (by decide) (by decide)) q3a q3c (g := (mkF m 8 #[.val (.ref w_PARKED), .val (.ref w_COMMITTED), .unset] [(.ref w_PARKED)])) rfl (by rw [hml]; rfl) (Steps.refl _) (argsL := []) (rest := []) (lenOf pd31 rfl) rfl (by show 2 * 0 + _ ≤ _; exact Nat.le_of_eq rfl) (hb hby d2_8) (fun _ _ => ⟨rfl, e2, (by decide : 2 + 0 ≤ _), (by decide : 20 + 0 ≤ _)⟩)
  dsimp only [Pt.U, Pt.locs, Pt.cells, Pt.slots] at X3 l3 y3 z3 st3 hQ3
  subst l3 y3 z3
  obtain ⟨rfl, N3q, e3⟩ := hQ3
  have N3 := Fr.app N2 N3q
  obtain ⟨cq4, kq4, q4a, q4b, q4c⟩ := isOf hZ1 e3 E_w_COMMITTED
  obtain ⟨_, _, ⟨T4, L4, k4, n4⟩, -, X4, ⟨Lc4, hQ4, l4, y4, z4⟩, st4⟩ := X3.virtualBack hx (y := (⟨"com/example/clinch/clinch/broker/TransactionState", "isFinal", "()Z"⟩ : MethodName)) (z := (⟨"com/example/clinch/clinch/broker/TransactionState", "isFinal", "()Z"⟩ : MethodName)) hown1 (mvT hZ1 (hw _ (List.mem_of_getElem? (i := 42) rfl))) (mvT hZ1 (hw _ (List.mem_of_getElem? (i := 4) rfl))) (notFace_of_selects (args := #[]) (mvT hZ1 (hw _ (List.mem_of_getElem? (i := 6) rfl)))) (mvT hZ1 (hw _ (List.mem_of_getElem? (i := 6) rfl))) (mvT hZ1 (hw _ (List.mem_of_getElem? (i := 5) rfl))) (by decide) (backOf (W := 0) (rm1_7 l Z a0 hw [] w_OPEN w_COMMITTED w_ROLLED_BACK w_PARKED h1 n0 (Nat.le_trans Z0 E1.1) HW) hZ1 (hw _ (List.mem_of_getElem? (i := 7) rfl)) (hw _ (List.mem_of_getElem? (i := 1) rfl)) (by decide) (by decide)) q4a q4c (g := (mkF m 66 #[.val (.ref w_PARKED), .val (.ref w_COMMITTED), .unset] [(.ref w_COMMITTED)])) rfl (by rw [hml]; rfl) (Steps.refl _) (argsL := []) (rest := []) (lenOf pd11 rfl) rfl (by show 2 * 0 + _ ≤ _; exact Nat.le_of_eq rfl) (hb hby d2_66) (fun _ _ => ⟨rfl, e3, (by decide : 2 + 0 ≤ _), (by decide : 20 + 0 ≤ _)⟩)
  dsimp only [Pt.U, Pt.locs, Pt.cells, Pt.slots] at X4 l4 y4 z4 st4 hQ4
  subst l4 y4 z4
  obtain ⟨rfl, N4q, e4⟩ := hQ4
  have N4 := Fr.app N3 N4q
  obtain ⟨fs, hr, hrun, hended, hW0, hW1, hW2, hsame⟩ := X4.leaveW hS1 (by rw [e4]; exact hk1) (v := some (.int (1 : Int32))) (fun h => by rw [Bd.returns] at h; cases h)
  refine ⟨_, _, pre0 _ ?_, hrun, hended, _, _, rfl, ?_, hW0, hW1, hW2, hsame.mono (by decide) (by decide)⟩
  · show Steps p.tables e below (s₁.setTop (mkF m 0 #[.val (.ref w_PARKED), .val (.ref w_COMMITTED), .unset] [])) _
    refine XS.aloadN X0s.here hx rfl (hb hby d2_0) rfl rfl ?_
    show Steps p.tables e below (s₁.setTop (mkF m 1 #[.val (.ref w_PARKED), .val (.ref w_COMMITTED), .unset] [(.ref w_COMMITTED)])) _
    refine st1 _ ?_
    show Steps p.tables e below (T1.setTop (mkF m 3 #[.val (.ref w_PARKED), .val (.ref w_COMMITTED), .unset] [(.ref a1), (.ref w_COMMITTED)])) _
    refine st2 _ ?_
    show Steps p.tables e below (T2.setTop (mkF m 6 #[.val (.ref w_PARKED), .val (.ref w_COMMITTED), .unset] [(.ref w_COMMITTED)])) _
    refine XS.pop X2.here hx rfl (hb hby d2_6) rfl rfl ?_
    show Steps p.tables e below (T2.setTop (mkF m 7 #[.val (.ref w_PARKED), .val (.ref w_COMMITTED), .unset] [])) _
    refine XS.aloadN X2.here hx rfl (hb hby d2_7) rfl rfl ?_
    show Steps p.tables e below (T2.setTop (mkF m 8 #[.val (.ref w_PARKED), .val (.ref w_COMMITTED), .unset] [(.ref w_PARKED)])) _
    refine st3.trans ?_
    show Steps p.tables e below (T3.setTop (mkF m 11 #[.val (.ref w_PARKED), .val (.ref w_COMMITTED), .unset] [(.int (3 : Int32))])) _
    refine XS.tswIn X3.here hx rfl (pc0 := 11) (pc' := 65) rfl (hb hby d2_11) rfl (by decide) (o := 54) (by decide) (by decide) (by decide) ?_
    show Steps p.tables e below (T3.setTop (mkF m 65 #[.val (.ref w_PARKED), .val (.ref w_COMMITTED), .unset] [])) _
    refine XS.aloadN X3.here hx rfl (hb hby d2_65) rfl rfl ?_
    show Steps p.tables e below (T3.setTop (mkF m 66 #[.val (.ref w_PARKED), .val (.ref w_COMMITTED), .unset] [(.ref w_COMMITTED)])) _
    refine st4.trans ?_
    show Steps p.tables e below (T4.setTop (mkF m 69 #[.val (.ref w_PARKED), .val (.ref w_COMMITTED), .unset] [(.int (1 : Int32))])) _
    refine XS.goto X4.here hx rfl (pc0 := 69) (pc' := 73) rfl (hb hby d2_69) (by decide) (by decide) ?_
    show Steps p.tables e below (T4.setTop (mkF m 73 #[.val (.ref w_PARKED), .val (.ref w_COMMITTED), .unset] [(.int (1 : Int32))])) _
    refine XS.istoreN X4.here hx rfl (hb hby d2_73) rfl (l' := #[.val (.ref w_PARKED), .val (.ref w_COMMITTED), .val (.int (1 : Int32))]) rfl ?_
    show Steps p.tables e below (T4.setTop (mkF m 74 #[.val (.ref w_PARKED), .val (.ref w_COMMITTED), .val (.int (1 : Int32))] [])) _
    refine XS.iloadN X4.here hx rfl (hb hby d2_74) rfl ?_
    show Steps p.tables e below (T4.setTop (mkF m 75 #[.val (.ref w_PARKED), .val (.ref w_COMMITTED), .val (.int (1 : Int32))] [(.int (1 : Int32))])) _
    exact retN X4 hx (t := .boolean) Bd.returns (by simp) (hb hby d2_75) hr
  · exact ⟨rfl, N4, (by show Ext h0 T4.heap; rw [e4]; exact E1)⟩
set_option maxRecDepth 65536 in
set_option maxHeartbeats 40000000 in
theorem rm0_c3 (l : Launch) (Z : State) (a0 : Array Value) (hw : ∀ d ∈ tables_1, d.before a0 Z = true) (ws : List Jvm.Cond) (w_OPEN : Addr) (w_COMMITTED : Addr) (w_ROLLED_BACK : Addr) (w_PARKED : Addr) (p1 : Int32) (h0 : Heap) (n0 : Nat) (Z0 : n0 ≤ h0.size) (HW : World Z h0 w_OPEN w_COMMITTED w_ROLLED_BACK w_PARKED) (hk : (p1 &&& (3 : Int32)) = (3 : Int32)) :
    MetFree l x (head1 (Jvm.Cond.code x code maxLocals ret :: ws) room_1) (fun a U => a = #[(.int p1)] ∧ Z.Warmed39 U.vm ∧ U.heap = h0) (fun _ _ _ _ _ => True) (fun _ U o U' => ∃ v L, o = .returned v ∧ Q0 h0 n0 v U'.heap L ∧ ReturnedEndW U o U' L room_1.cells room_1.slots) := by
  refine MetFree.of_bodySF (plainFor_of_name pn51) hisR ?_
  intro p e s m args below meth c s₁ Bd hml0 hP hK
  obtain ⟨rfl, hZ, hh⟩ := hP
  have hx := Bd.exec
  have hby := Bd.bytes
  have hml : c.maxLocals = 6 := hml0
  have hown : s.vm.findClass "com/example/clinch/clinch/broker/TransactionStateIsFinalPinLaw" = some m.cls := findClass_of_methodNamed Bd.named
  have X0 : Stand p l e room_1 s m #[(.int p1)] below meth c s₁ [] 0 0 := Stand.of_body Bd
  have e0 : s₁.heap = h0 := by rw [← hh, Bd.state]; rfl
  have N0 := Fr.nil n0
  have pre0 : ∀ t, Steps p.tables e below (s₁.setTop (mkF m 0 #[.val (.int p1), .unset, .unset, .unset, .unset, .unset] [])) t → Steps p.tables e below (s₁.setTop (entryFrame m #[(.int p1)] maxLocals)) t := fun t k => castTop (ef50 m p1) k
  have X0s : Stand p l e room_1 (s.setVm s.vm) m #[(.int p1)] below meth c s₁ [] 0 0 := X0
  have hZ0 : Z.Warmed39 (s.setVm s.vm).vm := hZ
  have hown0 : (s.setVm s.vm).vm.findClass "com/example/clinch/clinch/broker/TransactionStateIsFinalPinLaw" = some m.cls := hown
  have hS0 := own_since s
  obtain ⟨S_w_OPEN, E_w_OPEN, S_w_COMMITTED, E_w_COMMITTED, S_w_ROLLED_BACK, E_w_ROLLED_BACK, S_w_PARKED, E_w_PARKED, F_ordinal_w_OPEN, F_ordinal_w_COMMITTED, F_ordinal_w_ROLLED_BACK, F_ordinal_w_PARKED, ne_w_OPEN_w_COMMITTED, ne_w_OPEN_w_ROLLED_BACK, ne_w_OPEN_w_PARKED, ne_w_COMMITTED_w_ROLLED_BACK, ne_w_COMMITTED_w_PARKED, ne_w_ROLLED_BACK_w_PARKED, -⟩ := id HW
  obtain ⟨T1, X1, e1, st1⟩ := getS2 X0s hx hZ0 hown0 (host := "") (Or.inl (hw _ (List.mem_of_getElem? (i := 40) rfl))) Via.refl e0 S_w_PARKED (g := (mkF m 39 #[.val (.int p1), .val (.int (3 : Int32)), .unset, .unset, .unset, .unset] [])) rfl (hb hby at_39)
  obtain ⟨cq2, kq2, q2a, q2b, q2c⟩ := isOf hZ0 e1 E_w_PARKED
  obtain ⟨_, _, ⟨T2, L2, k2, n2⟩, -, X2, ⟨Lc2, hQ2, l2, y2, z2⟩, st2⟩ := X1.virtualBack hx (y := (⟨"com/example/clinch/clinch/broker/TransactionState", "isFinal", "()Z"⟩ : MethodName)) (z := (⟨"com/example/clinch/clinch/broker/TransactionState", "isFinal", "()Z"⟩ : MethodName)) hown0 (mvT hZ0 (hw _ (List.mem_of_getElem? (i := 3) rfl))) (mvT hZ0 (hw _ (List.mem_of_getElem? (i := 4) rfl))) (notFace_of_selects (args := #[]) (mvT hZ0 (hw _ (List.mem_of_getElem? (i := 6) rfl)))) (mvT hZ0 (hw _ (List.mem_of_getElem? (i := 6) rfl))) (mvT hZ0 (hw _ (List.mem_of_getElem? (i := 5) rfl))) (by decide) (backOf (W := 0) (rm1_23 l Z a0 hw [] w_OPEN w_COMMITTED w_ROLLED_BACK w_PARKED h0 n0 Z0 HW) hZ0 (hw _ (List.mem_of_getElem? (i := 7) rfl)) (hw _ (List.mem_of_getElem? (i := 1) rfl)) (by decide) (by decide)) q2a q2c (g := (mkF m 44 #[.val (.int p1), .val (.int (3 : Int32)), .val (.ref w_PARKED), .unset, .unset, .unset] [(.ref w_PARKED)])) rfl (by rw [hml]; rfl) (Steps.refl _) (argsL := []) (rest := []) (lenOf pd11 rfl) rfl (by show 2 * 0 + _ ≤ _; exact Nat.le_of_eq rfl) (hb hby at_44) (fun _ _ => ⟨rfl, e1, (by decide : 0 + 0 ≤ _), (by decide : 0 + 0 ≤ _)⟩)
  dsimp only [Pt.U, Pt.locs, Pt.cells, Pt.slots] at X2 l2 y2 z2 st2 hQ2
  subst l2 y2 z2
  obtain ⟨rfl, N2q, e2⟩ := hQ2
  have N2 := Fr.app N0 N2q
  obtain ⟨T3, X3, e3, st3⟩ := getS2 X2 hx hZ0 hown0 (host := "") (Or.inl (hw _ (List.mem_of_getElem? (i := 0) rfl))) Via.refl e2 S_w_OPEN (g := (mkF m 66 #[.val (.int p1), .val (.int (3 : Int32)), .val (.ref w_PARKED), .val (.int (0 : Int32)), .val (.int (0 : Int32)), .unset] [(.ref w_PARKED)])) rfl (hb hby at_66)
  obtain ⟨cq4, kq4, q4a, q4b, q4c⟩ := isOf hZ0 e3 E_w_PARKED
  obtain ⟨_, _, ⟨T4, L4, k4, n4⟩, -, X4, hS4, G4, ⟨Lc4, hQ4, l4, y4, z4⟩, st4⟩ := X3.virtualBackS hx (y := (⟨"com/example/clinch/clinch/broker/TransactionState", "canMoveTo", "(Lcom/example/clinch/clinch/broker/TransactionState;)Z"⟩ : MethodName)) (z := (⟨"com/example/clinch/clinch/broker/TransactionState", "canMoveTo", "(Lcom/example/clinch/clinch/broker/TransactionState;)Z"⟩ : MethodName)) hown0 (mvT hZ0 (hw _ (List.mem_of_getElem? (i := 12) rfl))) (mvT hZ0 (hw _ (List.mem_of_getElem? (i := 13) rfl))) (notFace_of_selects (args := #[]) (mvT hZ0 (hw _ (List.mem_of_getElem? (i := 15) rfl)))) (mvT hZ0 (hw _ (List.mem_of_getElem? (i := 15) rfl))) (mvT hZ0 (hw _ (List.mem_of_getElem? (i := 14) rfl))) (by decide) (backOfS (W := 0) (rm2_25 l Z a0 hw [] w_OPEN w_COMMITTED w_ROLLED_BACK w_PARKED h0 n0 Z0 HW) hZ0 (hw _ (List.mem_of_getElem? (i := 16) rfl)) (hw _ (List.mem_of_getElem? (i := 1) rfl)) (by decide) (by decide)) q4a q4c (g := (mkF m 69 #[.val (.int p1), .val (.int (3 : Int32)), .val (.ref w_PARKED), .val (.int (0 : Int32)), .val (.int (0 : Int32)), .unset] [(.ref w_OPEN), (.ref w_PARKED)])) rfl (by rw [hml]; rfl) (Steps.refl _) (argsL := [(.ref w_OPEN)]) (rest := []) (lenOf pd44 rfl) rfl (by show 2 * 0 + _ ≤ _; exact Nat.le_of_eq rfl) (hb hby at_69) (fun _ _ => ⟨rfl, e3, (by decide : 0 + 2 ≤ _), (by decide : 0 + 20 ≤ _)⟩)
  dsimp only [Pt.U, Pt.locs, Pt.cells, Pt.slots] at X4 l4 y4 z4 st4 hQ4 hS4 G4
  subst l4 y4 z4
  obtain ⟨X4, hS4, hZ4, hown4⟩ := rebS hS0 (by rw [e3]; exact (Nat.zero_le _)) X4 hS4 G4 hZ0 hown0
  obtain ⟨rfl, N4q, E4⟩ := hQ4
  replace HW := HW.ext E4
  obtain ⟨S_w_OPEN, E_w_OPEN, S_w_COMMITTED, E_w_COMMITTED, S_w_ROLLED_BACK, E_w_ROLLED_BACK, S_w_PARKED, E_w_PARKED, F_ordinal_w_OPEN, F_ordinal_w_COMMITTED, F_ordinal_w_ROLLED_BACK, F_ordinal_w_PARKED, ne_w_OPEN_w_COMMITTED, ne_w_OPEN_w_ROLLED_BACK, ne_w_OPEN_w_PARKED, ne_w_COMMITTED_w_ROLLED_BACK, ne_w_COMMITTED_w_PARKED, ne_w_ROLLED_BACK_w_PARKED, -⟩ := id HW
  have N4 := Fr.app N2 N4q
  obtain ⟨T5, X5, e5, st5⟩ := getS2 X4 hx hZ4 hown4 (host := "") (Or.inl (hw _ (List.mem_of_getElem? (i := 39) rfl))) Via.refl rfl S_w_COMMITTED (g := (mkF m 76 #[.val (.int p1), .val (.int (3 : Int32)), .val (.ref w_PARKED), .val (.int (0 : Int32)), .val (.int (0 : Int32)), .unset] [(.ref w_PARKED)])) rfl (hb hby at_76)
  obtain ⟨cq6, kq6, q6a, q6b, q6c⟩ := isOf hZ4 e5 E_w_PARKED
  obtain ⟨_, _, ⟨T6, L6, k6, n6⟩, -, X6, hS6, G6, ⟨Lc6, hQ6, l6, y6, z6⟩, st6⟩ := X5.virtualBackS hx (y := (⟨"com/example/clinch/clinch/broker/TransactionState", "canMoveTo", "(Lcom/example/clinch/clinch/broker/TransactionState;)Z"⟩ : MethodName)) (z := (⟨"com/example/clinch/clinch/broker/TransactionState", "canMoveTo", "(Lcom/example/clinch/clinch/broker/TransactionState;)Z"⟩ : MethodName)) hown4 (mvT hZ4 (hw _ (List.mem_of_getElem? (i := 12) rfl))) (mvT hZ4 (hw _ (List.mem_of_getElem? (i := 13) rfl))) (notFace_of_selects (args := #[]) (mvT hZ4 (hw _ (List.mem_of_getElem? (i := 15) rfl)))) (mvT hZ4 (hw _ (List.mem_of_getElem? (i := 15) rfl))) (mvT hZ4 (hw _ (List.mem_of_getElem? (i := 14) rfl))) (by decide) (backOfS (W := 0) (rm2_26 l Z a0 hw [] w_OPEN w_COMMITTED w_ROLLED_BACK w_PARKED T4.heap n0 (Nat.le_trans Z0 E4.1) HW) hZ4 (hw _ (List.mem_of_getElem? (i := 16) rfl)) (hw _ (List.mem_of_getElem? (i := 1) rfl)) (by decide) (by decide)) q6a q6c (g := (mkF m 79 #[.val (.int p1), .val (.int (3 : Int32)), .val (.ref w_PARKED), .val (.int (0 : Int32)), .val (.int (0 : Int32)), .unset] [(.ref w_COMMITTED), (.ref w_PARKED)])) rfl (by rw [hml]; rfl) (Steps.refl _) (argsL := [(.ref w_COMMITTED)]) (rest := []) (lenOf pd44 rfl) rfl (by show 2 * 0 + _ ≤ _; exact Nat.le_of_eq rfl) (hb hby at_79) (fun _ _ => ⟨rfl, e5, (by decide : 2 + 2 ≤ _), (by decide : 20 + 20 ≤ _)⟩)
  dsimp only [Pt.U, Pt.locs, Pt.cells, Pt.slots] at X6 l6 y6 z6 st6 hQ6 hS6 G6
  subst l6 y6 z6
  obtain ⟨X6, hS6, hZ6, hown6⟩ := rebS hS4 (by rw [e5]; exact (Nat.le_refl _)) X6 hS6 G6 hZ4 hown4
  obtain ⟨rfl, N6q, E6⟩ := hQ6
  replace HW := HW.ext E6
  obtain ⟨S_w_OPEN, E_w_OPEN, S_w_COMMITTED, E_w_COMMITTED, S_w_ROLLED_BACK, E_w_ROLLED_BACK, S_w_PARKED, E_w_PARKED, F_ordinal_w_OPEN, F_ordinal_w_COMMITTED, F_ordinal_w_ROLLED_BACK, F_ordinal_w_PARKED, ne_w_OPEN_w_COMMITTED, ne_w_OPEN_w_ROLLED_BACK, ne_w_OPEN_w_PARKED, ne_w_COMMITTED_w_ROLLED_BACK, ne_w_COMMITTED_w_PARKED, ne_w_ROLLED_BACK_w_PARKED, -⟩ := id HW
  have N6 := Fr.app N4 N6q
  obtain ⟨fs, hr, hrun, hended, hW0, hW1, hW2, hsame⟩ := X6.leaveW hS6 (Nat.le_refl _) (v := some (.int (1 : Int32))) (fun h => by rw [Bd.returns] at h; cases h)
  refine ⟨_, _, pre0 _ ?_, hrun, hended, _, _, rfl, ?_, hW0, hW1, hW2, hsame.mono (by decide) (by decide)⟩
  · show Steps p.tables e below (s₁.setTop (mkF m 0 #[.val (.int p1), .unset, .unset, .unset, .unset, .unset] [])) _
    refine XS.iloadN X0s.here hx rfl (hb hby at_0) rfl ?_
    show Steps p.tables e below (s₁.setTop (mkF m 1 #[.val (.int p1), .unset, .unset, .unset, .unset, .unset] [(.int p1)])) _
    refine XS.iconst X0s.here hx rfl (hb hby at_1) ?_
    show Steps p.tables e below (s₁.setTop (mkF m 2 #[.val (.int p1), .unset, .unset, .unset, .unset, .unset] [(.int (3 : Int32)), (.int p1)])) _
    refine XS.iand X0s.here hx rfl (hb hby at_2) rfl ?_
    rw [hk]
    show Steps p.tables e below (s₁.setTop (mkF m 3 #[.val (.int p1), .unset, .unset, .unset, .unset, .unset] [(.int (3 : Int32))])) _
    refine XS.istoreN X0s.here hx rfl (hb hby at_3) rfl (l' := #[.val (.int p1), .val (.int (3 : Int32)), .unset, .unset, .unset, .unset]) rfl ?_
    show Steps p.tables e below (s₁.setTop (mkF m 4 #[.val (.int p1), .val (.int (3 : Int32)), .unset, .unset, .unset, .unset] [])) _
    refine XS.iloadN X0s.here hx rfl (hb hby at_4) rfl ?_
    show Steps p.tables e below (s₁.setTop (mkF m 5 #[.val (.int p1), .val (.int (3 : Int32)), .unset, .unset, .unset, .unset] [(.int (3 : Int32))])) _
    refine XS.ifYes X0s.here hx rfl (pc0 := 5) (pc' := 15) rfl (hb hby at_5) rfl ((if0 _ _).trans (feq (by decide : ¬ ((3 : Int32) = (0 : Int32)))).2) (by decide) (by decide) ?_
    show Steps p.tables e below (s₁.setTop (mkF m 15 #[.val (.int p1), .val (.int (3 : Int32)), .unset, .unset, .unset, .unset] [])) _
    refine XS.iloadN X0s.here hx rfl (hb hby at_15) rfl ?_
    show Steps p.tables e below (s₁.setTop (mkF m 16 #[.val (.int p1), .val (.int (3 : Int32)), .unset, .unset, .unset, .unset] [(.int (3 : Int32))])) _
    refine XS.iconst X0s.here hx rfl (hb hby at_16) ?_
    show Steps p.tables e below (s₁.setTop (mkF m 17 #[.val (.int p1), .val (.int (3 : Int32)), .unset, .unset, .unset, .unset] [(.int (1 : Int32)), (.int (3 : Int32))])) _
    refine XS.icmpYes X0s.here hx rfl (pc0 := 17) (pc' := 27) rfl (hb hby at_17) rfl (feq (by decide : ¬ ((3 : Int32) = (1 : Int32)))).2 (by decide) (by decide) ?_
    show Steps p.tables e below (s₁.setTop (mkF m 27 #[.val (.int p1), .val (.int (3 : Int32)), .unset, .unset, .unset, .unset] [])) _
    refine XS.iloadN X0s.here hx rfl (hb hby at_27) rfl ?_
    show Steps p.tables e below (s₁.setTop (mkF m 28 #[.val (.int p1), .val (.int (3 : Int32)), .unset, .unset, .unset, .unset] [(.int (3 : Int32))])) _
    refine XS.iconst X0s.here hx rfl (hb hby at_28) ?_
    show Steps p.tables e below (s₁.setTop (mkF m 29 #[.val (.int p1), .val (.int (3 : Int32)), .unset, .unset, .unset, .unset] [(.int (2 : Int32)), (.int (3 : Int32))])) _
    refine XS.icmpYes X0s.here hx rfl (pc0 := 29) (pc' := 39) rfl (hb hby at_29) rfl (feq (by decide : ¬ ((3 : Int32) = (2 : Int32)))).2 (by decide) (by decide) ?_
    show Steps p.tables e below (s₁.setTop (mkF m 39 #[.val (.int p1), .val (.int (3 : Int32)), .unset, .unset, .unset, .unset] [])) _
    refine st1 _ ?_
    show Steps p.tables e below (T1.setTop (mkF m 42 #[.val (.int p1), .val (.int (3 : Int32)), .unset, .unset, .unset, .unset] [(.ref w_PARKED)])) _
    refine XS.astoreN X1.here hx rfl (hb hby at_42) rfl rfl (l' := #[.val (.int p1), .val (.int (3 : Int32)), .val (.ref w_PARKED), .unset, .unset, .unset]) rfl ?_
    show Steps p.tables e below (T1.setTop (mkF m 43 #[.val (.int p1), .val (.int (3 : Int32)), .val (.ref w_PARKED), .unset, .unset, .unset] [])) _
    refine XS.aloadN X1.here hx rfl (hb hby at_43) rfl rfl ?_
    show Steps p.tables e below (T1.setTop (mkF m 44 #[.val (.int p1), .val (.int (3 : Int32)), .val (.ref w_PARKED), .unset, .unset, .unset] [(.ref w_PARKED)])) _
    refine st2.trans ?_
    show Steps p.tables e below (T2.setTop (mkF m 47 #[.val (.int p1), .val (.int (3 : Int32)), .val (.ref w_PARKED), .unset, .unset, .unset] [(.int (0 : Int32))])) _
    refine XS.istoreN X2.here hx rfl (hb hby at_47) rfl (l' := #[.val (.int p1), .val (.int (3 : Int32)), .val (.ref w_PARKED), .val (.int (0 : Int32)), .unset, .unset]) rfl ?_
    show Steps p.tables e below (T2.setTop (mkF m 48 #[.val (.int p1), .val (.int (3 : Int32)), .val (.ref w_PARKED), .val (.int (0 : Int32)), .unset, .unset] [])) _
    refine XS.iloadN X2.here hx rfl (hb hby at_48) rfl ?_
    show Steps p.tables e below (T2.setTop (mkF m 49 #[.val (.int p1), .val (.int (3 : Int32)), .val (.ref w_PARKED), .val (.int (0 : Int32)), .unset, .unset] [(.int (3 : Int32))])) _
    refine XS.iconst X2.here hx rfl (hb hby at_49) ?_
    show Steps p.tables e below (T2.setTop (mkF m 50 #[.val (.int p1), .val (.int (3 : Int32)), .val (.ref w_PARKED), .val (.int (0 : Int32)), .unset, .unset] [(.int (1 : Int32)), (.int (3 : Int32))])) _
    refine XS.icmpNo X2.here hx rfl (hb hby at_50) rfl (feq (by decide : ¬ ((3 : Int32) = (1 : Int32)))).1 ?_
    show Steps p.tables e below (T2.setTop (mkF m 53 #[.val (.int p1), .val (.int (3 : Int32)), .val (.ref w_PARKED), .val (.int (0 : Int32)), .unset, .unset] [])) _
    refine XS.iloadN X2.here hx rfl (hb hby at_53) rfl ?_
    show Steps p.tables e below (T2.setTop (mkF m 54 #[.val (.int p1), .val (.int (3 : Int32)), .val (.ref w_PARKED), .val (.int (0 : Int32)), .unset, .unset] [(.int (3 : Int32))])) _
    refine XS.iconst X2.here hx rfl (hb hby at_54) ?_
    show Steps p.tables e below (T2.setTop (mkF m 55 #[.val (.int p1), .val (.int (3 : Int32)), .val (.ref w_PARKED), .val (.int (0 : Int32)), .unset, .unset] [(.int (2 : Int32)), (.int (3 : Int32))])) _
    refine XS.icmpYes X2.here hx rfl (pc0 := 55) (pc' := 62) rfl (hb hby at_55) rfl (feq (by decide : ¬ ((3 : Int32) = (2 : Int32)))).2 (by decide) (by decide) ?_
    show Steps p.tables e below (T2.setTop (mkF m 62 #[.val (.int p1), .val (.int (3 : Int32)), .val (.ref w_PARKED), .val (.int (0 : Int32)), .unset, .unset] [])) _
    refine XS.iconst X2.here hx rfl (hb hby at_62) ?_
    show Steps p.tables e below (T2.setTop (mkF m 63 #[.val (.int p1), .val (.int (3 : Int32)), .val (.ref w_PARKED), .val (.int (0 : Int32)), .unset, .unset] [(.int (0 : Int32))])) _
    refine XS.istore X2.here hx rfl (hb hby at_63) rfl (l' := #[.val (.int p1), .val (.int (3 : Int32)), .val (.ref w_PARKED), .val (.int (0 : Int32)), .val (.int (0 : Int32)), .unset]) rfl ?_
    show Steps p.tables e below (T2.setTop (mkF m 65 #[.val (.int p1), .val (.int (3 : Int32)), .val (.ref w_PARKED), .val (.int (0 : Int32)), .val (.int (0 : Int32)), .unset] [])) _
    refine XS.aloadN X2.here hx rfl (hb hby at_65) rfl rfl ?_
    show Steps p.tables e below (T2.setTop (mkF m 66 #[.val (.int p1), .val (.int (3 : Int32)), .val (.ref w_PARKED), .val (.int (0 : Int32)), .val (.int (0 : Int32)), .unset] [(.ref w_PARKED)])) _
    refine st3 _ ?_
    show Steps p.tables e below (T3.setTop (mkF m 69 #[.val (.int p1), .val (.int (3 : Int32)), .val (.ref w_PARKED), .val (.int (0 : Int32)), .val (.int (0 : Int32)), .unset] [(.ref w_OPEN), (.ref w_PARKED)])) _
    refine st4.trans ?_
    show Steps p.tables e below (T4.setTop (mkF m 72 #[.val (.int p1), .val (.int (3 : Int32)), .val (.ref w_PARKED), .val (.int (0 : Int32)), .val (.int (0 : Int32)), .unset] [(.int (0 : Int32))])) _
    refine XS.ifNo X4.here hx rfl (hb hby at_72) rfl ((if0 _ _).trans (teq (by decide : (0 : Int32) = (0 : Int32))).2) ?_
    show Steps p.tables e below (T4.setTop (mkF m 75 #[.val (.int p1), .val (.int (3 : Int32)), .val (.ref w_PARKED), .val (.int (0 : Int32)), .val (.int (0 : Int32)), .unset] [])) _
    refine XS.aloadN X4.here hx rfl (hb hby at_75) rfl rfl ?_
    show Steps p.tables e below (T4.setTop (mkF m 76 #[.val (.int p1), .val (.int (3 : Int32)), .val (.ref w_PARKED), .val (.int (0 : Int32)), .val (.int (0 : Int32)), .unset] [(.ref w_PARKED)])) _
    refine st5 _ ?_
    show Steps p.tables e below (T5.setTop (mkF m 79 #[.val (.int p1), .val (.int (3 : Int32)), .val (.ref w_PARKED), .val (.int (0 : Int32)), .val (.int (0 : Int32)), .unset] [(.ref w_COMMITTED), (.ref w_PARKED)])) _
    refine st6.trans ?_
    show Steps p.tables e below (T6.setTop (mkF m 82 #[.val (.int p1), .val (.int (3 : Int32)), .val (.ref w_PARKED), .val (.int (0 : Int32)), .val (.int (0 : Int32)), .unset] [(.int (1 : Int32))])) _
    refine XS.ifYes X6.here hx rfl (pc0 := 82) (pc' := 109) rfl (hb hby at_82) rfl ((if0 _ _).trans (feq (by decide : ¬ ((1 : Int32) = (0 : Int32)))).2) (by decide) (by decide) ?_
    show Steps p.tables e below (T6.setTop (mkF m 109 #[.val (.int p1), .val (.int (3 : Int32)), .val (.ref w_PARKED), .val (.int (0 : Int32)), .val (.int (0 : Int32)), .unset] [])) _
    refine XS.iconst X6.here hx rfl (hb hby at_109) ?_
    show Steps p.tables e below (T6.setTop (mkF m 110 #[.val (.int p1), .val (.int (3 : Int32)), .val (.ref w_PARKED), .val (.int (0 : Int32)), .val (.int (0 : Int32)), .unset] [(.int (0 : Int32))])) _
    refine XS.istore X6.here hx rfl (hb hby at_110) rfl (l' := #[.val (.int p1), .val (.int (3 : Int32)), .val (.ref w_PARKED), .val (.int (0 : Int32)), .val (.int (0 : Int32)), .val (.int (0 : Int32))]) rfl ?_
    show Steps p.tables e below (T6.setTop (mkF m 112 #[.val (.int p1), .val (.int (3 : Int32)), .val (.ref w_PARKED), .val (.int (0 : Int32)), .val (.int (0 : Int32)), .val (.int (0 : Int32))] [])) _
    refine XS.iloadN X6.here hx rfl (hb hby at_112) rfl ?_
    show Steps p.tables e below (T6.setTop (mkF m 113 #[.val (.int p1), .val (.int (3 : Int32)), .val (.ref w_PARKED), .val (.int (0 : Int32)), .val (.int (0 : Int32)), .val (.int (0 : Int32))] [(.int (0 : Int32))])) _
    refine XS.iload X6.here hx rfl (hb hby at_113) rfl ?_
    show Steps p.tables e below (T6.setTop (mkF m 115 #[.val (.int p1), .val (.int (3 : Int32)), .val (.ref w_PARKED), .val (.int (0 : Int32)), .val (.int (0 : Int32)), .val (.int (0 : Int32))] [(.int (0 : Int32)), (.int (0 : Int32))])) _
    refine XS.icmpNo X6.here hx rfl (hb hby at_115) rfl (teq (by decide : (0 : Int32) = (0 : Int32))).2 ?_
    show Steps p.tables e below (T6.setTop (mkF m 118 #[.val (.int p1), .val (.int (3 : Int32)), .val (.ref w_PARKED), .val (.int (0 : Int32)), .val (.int (0 : Int32)), .val (.int (0 : Int32))] [])) _
    refine XS.iloadN X6.here hx rfl (hb hby at_118) rfl ?_
    show Steps p.tables e below (T6.setTop (mkF m 119 #[.val (.int p1), .val (.int (3 : Int32)), .val (.ref w_PARKED), .val (.int (0 : Int32)), .val (.int (0 : Int32)), .val (.int (0 : Int32))] [(.int (0 : Int32))])) _
    refine XS.iload X6.here hx rfl (hb hby at_119) rfl ?_
    show Steps p.tables e below (T6.setTop (mkF m 121 #[.val (.int p1), .val (.int (3 : Int32)), .val (.ref w_PARKED), .val (.int (0 : Int32)), .val (.int (0 : Int32)), .val (.int (0 : Int32))] [(.int (0 : Int32)), (.int (0 : Int32))])) _
    refine XS.icmpNo X6.here hx rfl (hb hby at_121) rfl (teq (by decide : (0 : Int32) = (0 : Int32))).2 ?_
    show Steps p.tables e below (T6.setTop (mkF m 124 #[.val (.int p1), .val (.int (3 : Int32)), .val (.ref w_PARKED), .val (.int (0 : Int32)), .val (.int (0 : Int32)), .val (.int (0 : Int32))] [])) _
    refine XS.iconst X6.here hx rfl (hb hby at_124) ?_
    show Steps p.tables e below (T6.setTop (mkF m 125 #[.val (.int p1), .val (.int (3 : Int32)), .val (.ref w_PARKED), .val (.int (0 : Int32)), .val (.int (0 : Int32)), .val (.int (0 : Int32))] [(.int (1 : Int32))])) _
    refine XS.goto X6.here hx rfl (pc0 := 125) (pc' := 129) rfl (hb hby at_125) (by decide) (by decide) ?_
    show Steps p.tables e below (T6.setTop (mkF m 129 #[.val (.int p1), .val (.int (3 : Int32)), .val (.ref w_PARKED), .val (.int (0 : Int32)), .val (.int (0 : Int32)), .val (.int (0 : Int32))] [(.int (1 : Int32))])) _
    exact retN X6 hx (t := .boolean) Bd.returns (by simp) (hb hby at_129) hr
  · exact ⟨rfl, N6⟩
theorem rm0_all (l : Launch) (Z : State) (a0 : Array Value) (hw : ∀ d ∈ tables_1, d.before a0 Z = true) (ws : List Jvm.Cond) (w_OPEN : Addr) (w_COMMITTED : Addr) (w_ROLLED_BACK : Addr) (w_PARKED : Addr) (p1 : Int32) (h0 : Heap) (n0 : Nat) (Z0 : n0 ≤ h0.size) (HW : World Z h0 w_OPEN w_COMMITTED w_ROLLED_BACK w_PARKED) :
    MetFree l x (head1 (Jvm.Cond.code x code maxLocals ret :: ws) room_1) (fun a U => a = #[(.int p1)] ∧ Z.Warmed39 U.vm ∧ U.heap = h0) (fun _ _ _ _ _ => True) (fun _ U o U' => ∃ v L, o = .returned v ∧ Q0 h0 n0 v U'.heap L ∧ ReturnedEndW U o U' L room_1.cells room_1.slots) := by
  rcases own_mask p1 with hk | hk | hk | hk
  · skip
    exact rm0_c0 l Z a0 hw ws w_OPEN w_COMMITTED w_ROLLED_BACK w_PARKED p1 h0 n0 Z0 HW hk
  · skip
    exact rm0_c1 l Z a0 hw ws w_OPEN w_COMMITTED w_ROLLED_BACK w_PARKED p1 h0 n0 Z0 HW hk
  · skip
    exact rm0_c2 l Z a0 hw ws w_OPEN w_COMMITTED w_ROLLED_BACK w_PARKED p1 h0 n0 Z0 HW hk
  · skip
    exact rm0_c3 l Z a0 hw ws w_OPEN w_COMMITTED w_ROLLED_BACK w_PARKED p1 h0 n0 Z0 HW hk
set_option maxRecDepth 65536 in
set_option maxHeartbeats 40000000 in
theorem comes_1 {Post : Tables → Env → Array Value → State → Outcome → State → Prop} (hpost : ∀ tb e args s v u, (limb_1_1.after args s (.returned v) u = true ∧ limb_1_2.after args s (.returned v) u = true ∧ True) → ReturnedEndW s (.returned v) u (Jvm.fieldLocs frame_1_writes args s ++ Jvm.arrayLocs frame_1_arrays args s ++ Jvm.staticLocs frame_1_statics s) 8 1088 → Post tb e args s (.returned v) u) :
    ArmFor flags0 classFile x code maxLocals ret World_1 tables_1 room_1 Calls_1 rest_1 Pre_1 Post := by
  intro l hfl _ _ p e ha hc hk s m args below hf hA hF happ hP
  obtain ⟨hcalls, hrest, hpre⟩ := hP
  obtain ⟨-, -, -, hnamed, -, -, -, hat⟩ := (Spec.applies_iff hf).mp happ
  obtain ⟨hg, hn⟩ := and_e (Cond.before_iff.mp (show (Jvm.Cond.and given_1 narrow_1).before args s = true from hpre))
  obtain ⟨hg1a, hg1b⟩ := and_e hg
  obtain ⟨w0, rfl⟩ : ∃ w0 : Value, args = #[w0] := by
    have hs : args.size = 1 := by simpa [Cond.value, given_1] using hg1a
    obtain ⟨L⟩ := args
    match L, hs with
    | [w0], _ => exact ⟨w0, rfl⟩
  have hw := fun d (hd : d ∈ tables_1) => atoms_spec (ws := Jvm.Cond.code x code maxLocals ret :: tables_1) hat d (List.mem_cons_of_mem _ hd)
  have hfit : Fit s := fun {y c} hc i hi => by
    obtain ⟨ha, rfl⟩ := Array.getElem?_eq_some_iff.mp hc
    have q := List.all_eq_true.mp ((Array.all_eq_true_iff_forall_mem.mp hF) _ (Array.getElem_mem ha)) i (List.mem_range.mpr hi)
    simpa [Array.getElem?_eq_getElem hi] using q
  obtain ⟨i0, ei0⟩ := is_v hg1b
  obtain rfl : w0 = (.int i0) := Option.some.inj ei0
  obtain ⟨hn1a, hn1b⟩ := and_e hn
  obtain ⟨hn2a, hn2b⟩ := and_e hn1b
  obtain ⟨hn3a, hn3b⟩ := and_e hn2b
  obtain ⟨hn4a, hn4b⟩ := and_e hn3b
  obtain ⟨hn5a, hn5b⟩ := and_e hn4b
  obtain ⟨hn6a, hn6b⟩ := and_e hn5b
  obtain ⟨hn7a, hn7b⟩ := and_e hn6b
  obtain ⟨w_OPEN, ev_w_OPEN⟩ := exa_v hn1a
  have S_w_OPEN := Sta.start ev_w_OPEN (Or.inr ⟨(hw _ (List.mem_of_getElem? (i := 1) rfl)), (hw _ (List.mem_of_getElem? (i := 2) rfl))⟩)
  have E_w_OPEN := Exa.start ev_w_OPEN hn1a
  obtain ⟨w_COMMITTED, ev_w_COMMITTED⟩ := exa_v hn2a
  have S_w_COMMITTED := Sta.start ev_w_COMMITTED (Or.inr ⟨(hw _ (List.mem_of_getElem? (i := 1) rfl)), (hw _ (List.mem_of_getElem? (i := 9) rfl))⟩)
  have E_w_COMMITTED := Exa.start ev_w_COMMITTED hn2a
  obtain ⟨w_ROLLED_BACK, ev_w_ROLLED_BACK⟩ := exa_v hn5a
  have S_w_ROLLED_BACK := Sta.start ev_w_ROLLED_BACK (Or.inr ⟨(hw _ (List.mem_of_getElem? (i := 1) rfl)), (hw _ (List.mem_of_getElem? (i := 11) rfl))⟩)
  have E_w_ROLLED_BACK := Exa.start ev_w_ROLLED_BACK hn5a
  obtain ⟨w_PARKED, ev_w_PARKED⟩ := exa_v hn7a
  have S_w_PARKED := Sta.start ev_w_PARKED (Or.inr ⟨(hw _ (List.mem_of_getElem? (i := 1) rfl)), (hw _ (List.mem_of_getElem? (i := 41) rfl))⟩)
  have E_w_PARKED := Exa.start ev_w_PARKED hn7a
  have F_ordinal_w_OPEN := own_fld (k := (0 : Int32)) hn3a ev_w_OPEN
  have F_ordinal_w_COMMITTED := own_fld (k := (1 : Int32)) hn4a ev_w_COMMITTED
  have F_ordinal_w_ROLLED_BACK := own_fld (k := (2 : Int32)) hn6a ev_w_ROLLED_BACK
  have F_ordinal_w_PARKED := own_fld (k := (3 : Int32)) hn7b ev_w_PARKED
  have ne_w_OPEN_w_COMMITTED : ¬ (w_OPEN = w_COMMITTED) := own_ne F_ordinal_w_OPEN F_ordinal_w_COMMITTED (by decide)
  have ne_w_OPEN_w_ROLLED_BACK : ¬ (w_OPEN = w_ROLLED_BACK) := own_ne F_ordinal_w_OPEN F_ordinal_w_ROLLED_BACK (by decide)
  have ne_w_OPEN_w_PARKED : ¬ (w_OPEN = w_PARKED) := own_ne F_ordinal_w_OPEN F_ordinal_w_PARKED (by decide)
  have ne_w_COMMITTED_w_ROLLED_BACK : ¬ (w_COMMITTED = w_ROLLED_BACK) := own_ne F_ordinal_w_COMMITTED F_ordinal_w_ROLLED_BACK (by decide)
  have ne_w_COMMITTED_w_PARKED : ¬ (w_COMMITTED = w_PARKED) := own_ne F_ordinal_w_COMMITTED F_ordinal_w_PARKED (by decide)
  have ne_w_ROLLED_BACK_w_PARKED : ¬ (w_ROLLED_BACK = w_PARKED) := own_ne F_ordinal_w_ROLLED_BACK F_ordinal_w_PARKED (by decide)
  have HW : World s s.heap w_OPEN w_COMMITTED w_ROLLED_BACK w_PARKED := ⟨S_w_OPEN, E_w_OPEN, S_w_COMMITTED, E_w_COMMITTED, S_w_ROLLED_BACK, E_w_ROLLED_BACK, S_w_PARKED, E_w_PARKED, F_ordinal_w_OPEN, F_ordinal_w_COMMITTED, F_ordinal_w_ROLLED_BACK, F_ordinal_w_PARKED, ne_w_OPEN_w_COMMITTED, ne_w_OPEN_w_ROLLED_BACK, ne_w_OPEN_w_PARKED, ne_w_COMMITTED_w_ROLLED_BACK, ne_w_COMMITTED_w_PARKED, ne_w_ROLLED_BACK_w_PARKED, trivial⟩
  obtain ⟨n, o, h1, h2, h3, _, L, rfl, ⟨rfl, N⟩, hq⟩ := rm0_all l s _ hw tables_1 w_OPEN w_COMMITTED w_ROLLED_BACK w_PARKED i0 s.heap s.heap.size (Nat.le_refl _) HW p e ha hc hk s m _ below hf ((Spec.applies_iff_loose hf).mp happ).1 ⟨rfl, State.Warmed39.refl s, rfl⟩ trivial
  exact ⟨n, _, h1, h2, h3, hpost _ _ _ _ _ _ ⟨Cond.after_iff.mpr rfl, Cond.after_iff.mpr (eq_i res_at (Term.int_eval (1)) rfl), trivial⟩ ⟨hq.1, hq.2.1, hq.2.2.1, (hq.2.2.2.sift fun y hy => Or.inr (N y hy)).mono (by decide) (by decide)⟩⟩
theorem main_1_1 : Claimed_1_1 := comes_1 fun _ _ _ _ _ _ h hF => ⟨h.1, hF⟩
theorem main_1_2 : Claimed_1_2 := comes_1 fun _ _ _ _ _ _ h hF => ⟨h.2.1, hF⟩
end Jvm.Pilot.@@N@@
namespace Jvm.Pilot.@@N@@
open Jvm Jvm.ClassFile Sem Op Lib Jvm.Free Jvm.Stand Jvm.Pilot.@@N@@.Jvm.D
/-! MADE BY PROGRAM (witnessworld.py) out of the Statement's table words and the real class files: 16 classes; the members and pool entries that the words name. The judged class is class 1, her method 1. -/
namespace start1
open Jvm.ClassFile
def u (s : String) : CpInfo := .utf8 (stringToUtf16 s)
/-- a pool by its gaps: so many unusable entries, then the entry; so many at the end -/
def gap : Nat → List CpInfo → List CpInfo
  | 0, r => r
  | n + 1, r => .unusable :: gap n r
def poolList (es : List (Nat × CpInfo)) (last : Nat) : List CpInfo := es.foldr (fun e r => gap e.1 (e.2 :: r)) (gap last [])
def pool (es : List (Nat × CpInfo)) (last : Nat) : Array CpInfo := ⟨poolList es last⟩
def fileOf (pool : Array CpInfo) (this : Nat) (attrs : Array Attribute := #[]) (ms : Array MethodInfo := #[]) (fl : Nat := 33) (sup : Nat := 0) (ifs : Array Nat := #[]) (fds : Array FieldInfo := #[]) : ClassFile where
  minorVersion := 0
  majorVersion := 65
  constantPool := pool
  accessFlags := fl
  thisClass := this
  superClass := sup
  interfaces := ifs
  fields := fds
  methods := ms
  attributes := attrs
def plain (name : String) (sup : Option ClassId) : Class where
  name := name
  kind := .ordinary
  loader := none
  accessFlags := 33
  super := sup
  interfaces := #[]
  cf := none
  fields := #[]
  methods := #[]
  instanceTypes := #[]
  staticTypes := #[]
  resolved := #[]
  callSites := []
  init := .initialized
  statics := none
  mirror := none

def pool0 : Array CpInfo := pool [(5, u "<init>"), (0, u "()V"), (1, .class_ 10), (1, u "java/lang/Object")] 113

def k0m0 : Method := { name := "<init>", desc := "()V", sig := { parameters := [], returnType := none }, accessFlags := 1, code := none }
/-- java/lang/Object -/
def k0 : Class := { plain "java/lang/Object" none with
  accessFlags := 33
  interfaces := #[]
  cf := some (fileOf pool0 8 #[] #[{ accessFlags := 1, nameIndex := 5, descriptorIndex := 6, attributes := #[] }] 33 0 #[] #[])
  fields := #[]
  methods := #[k0m0]
  instanceTypes := #[]
  staticTypes := #[]
  resolved := Array.replicate 124 none
  statics := none }

def pool1 : Array CpInfo := pool [(2, .class_ 4), (1, u "java/lang/Object"), (0, u "<init>"), (0, u "()V"), (0, .fieldref 8 9), (0, .class_ 10), (0, .nameAndType 11 12), (0, u "com/example/clinch/clinch/broker/TransactionState"), (0, u "OPEN"), (0, u "Lcom/example/clinch/clinch/broker/TransactionState;"), (0, .fieldref 8 14), (0, .nameAndType 15 12), (0, u "COMMITTED"), (0, .fieldref 8 17), (0, .nameAndType 18 12), (0, u "ROLLED_BACK"), (0, .fieldref 8 20), (0, .nameAndType 21 12), (0, u "PARKED"), (0, .methodref 8 23), (0, .nameAndType 24 25), (0, u "isFinal"), (0, u "()Z"), (0, .methodref 8 27), (0, .nameAndType 28 29), (0, u "canMoveTo"), (0, u "(Lcom/example/clinch/clinch/broker/TransactionState;)Z"), (0, .class_ 31), (0, u "com/example/clinch/clinch/broker/TransactionStateIsFinalPinLaw"), (2, u "law"), (0, u "(I)Z")] 3

def k1m0 : Method := { name := "<init>", desc := "()V", sig := { parameters := [], returnType := none }, accessFlags := 1, code := none }
def k1c1 : Code := { maxStack := 2, maxLocals := 6, code := code, exceptionTable := #[], attributes := #[] }
def k1m1 : Method := { name := "law", desc := "(I)Z", sig := { parameters := [.int], returnType := some .boolean }, accessFlags := 9, code := some k1c1 }
/-- com/example/clinch/clinch/broker/TransactionStateIsFinalPinLaw -/
def k1 : Class := { plain "com/example/clinch/clinch/broker/TransactionStateIsFinalPinLaw" (some 0) with
  accessFlags := 49
  interfaces := #[]
  cf := some (fileOf pool1 30 #[] #[{ accessFlags := 1, nameIndex := 5, descriptorIndex := 6, attributes := #[] }, { accessFlags := 9, nameIndex := 34, descriptorIndex := 35, attributes := #[] }] 49 2 #[] #[])
  fields := #[]
  methods := #[k1m0, k1m1]
  instanceTypes := #[]
  staticTypes := #[]
  resolved := Array.replicate 39 none
  statics := none }

def pool2 : Array CpInfo := pool [(1, .class_ 2), (0, u "java/lang/constant/Constable"), (0, .class_ 4), (0, u "java/lang/Object")] 6

/-- java/lang/constant/Constable -/
def k2 : Class := { plain "java/lang/constant/Constable" (some 0) with
  accessFlags := 1537
  interfaces := #[]
  cf := some (fileOf pool2 1 #[] #[] 1537 3 #[] #[])
  fields := #[]
  methods := #[]
  instanceTypes := #[]
  staticTypes := #[]
  resolved := Array.replicate 11 none
  statics := none }

def pool3 : Array CpInfo := pool [(1, .class_ 2), (0, u "java/lang/Comparable"), (0, .class_ 4), (0, u "java/lang/Object")] 7

/-- java/lang/Comparable -/
def k3 : Class := { plain "java/lang/Comparable" (some 0) with
  accessFlags := 1537
  interfaces := #[]
  cf := some (fileOf pool3 1 #[] #[] 1537 3 #[] #[])
  fields := #[]
  methods := #[]
  instanceTypes := #[]
  staticTypes := #[]
  resolved := Array.replicate 12 none
  statics := none }

def pool4 : Array CpInfo := pool [(1, .class_ 2), (0, u "java/io/Serializable"), (0, .class_ 4), (0, u "java/lang/Object")] 2

/-- java/io/Serializable -/
def k4 : Class := { plain "java/io/Serializable" (some 0) with
  accessFlags := 1537
  interfaces := #[]
  cf := some (fileOf pool4 1 #[] #[] 1537 3 #[] #[])
  fields := #[]
  methods := #[]
  instanceTypes := #[]
  staticTypes := #[]
  resolved := Array.replicate 7 none
  statics := none }

def pool5 : Array CpInfo := pool [(2, .class_ 4), (1, u "java/lang/Enum"), (0, u "name"), (0, u "Ljava/lang/String;"), (0, .fieldref 2 8), (0, .nameAndType 9 10), (0, u "ordinal"), (0, u "I"), (1, .class_ 14), (1, u "java/lang/Object"), (4, u "hash"), (86, .class_ 108), (1, u "java/lang/Enum$EnumDesc"), (2, .class_ 112), (0, u "java/lang/constant/Constable"), (0, .class_ 114), (0, u "java/lang/Comparable"), (0, .class_ 116), (0, u "java/io/Serializable"), (9, u "()I")] 77

def k5c0 : Code := { maxStack := 1, maxLocals := 1, code := jdk_37_method_2_code, exceptionTable := #[], attributes := #[] }
def k5m0 : Method := { name := "ordinal", desc := "()I", sig := { parameters := [], returnType := some .int }, accessFlags := 17, code := some k5c0 }
/-- java/lang/Enum -/
def k5 : Class := { plain "java/lang/Enum" (some 0) with
  accessFlags := 1057
  interfaces := #[2, 3, 4]
  cf := some (fileOf pool5 2 #[.nestMembers #[106]] #[{ accessFlags := 17, nameIndex := 9, descriptorIndex := 126, attributes := #[] }] 1057 12 #[111, 113, 115] #[{ accessFlags := 18, nameIndex := 5, descriptorIndex := 6, attributes := #[] }, { accessFlags := 18, nameIndex := 9, descriptorIndex := 10, attributes := #[] }, { accessFlags := 2, nameIndex := 19, descriptorIndex := 10, attributes := #[] }])
  fields := #[{ name := "name", type := (.object "java/lang/String"), accessFlags := 18, slot := 0, constantValue := 0 }, { name := "ordinal", type := .int, accessFlags := 18, slot := 1, constantValue := 0 }, { name := "hash", type := .int, accessFlags := 2, slot := 2, constantValue := 0 }]
  methods := #[k5m0]
  instanceTypes := #[(.object "java/lang/String"), .int, .int]
  staticTypes := #[]
  resolved := Array.replicate 204 none
  statics := none }

def pool6 : Array CpInfo := pool [(1, .class_ 2), (0, u "com/example/clinch/clinch/broker/TransactionState"), (0, .fieldref 1 4), (0, .nameAndType 5 6), (0, u "OPEN"), (0, u "Lcom/example/clinch/clinch/broker/TransactionState;"), (0, .fieldref 1 8), (0, .nameAndType 9 6), (0, u "COMMITTED"), (0, .fieldref 1 11), (0, .nameAndType 12 6), (0, u "ROLLED_BACK"), (2, u "PARKED"), (2, u "$VALUES"), (0, u "[Lcom/example/clinch/clinch/broker/TransactionState;"), (6, .class_ 28), (1, u "java/lang/Enum"), (6, .string 36), (0, u "next"), (0, .methodref 38 39), (0, .class_ 40), (0, .nameAndType 41 42), (0, u "java/util/Objects"), (0, u "requireNonNull"), (0, u "(Ljava/lang/Object;Ljava/lang/String;)Ljava/lang/Object;"), (0, .methodref 1 44), (0, .nameAndType 45 46), (0, u "ordinal"), (0, u "()I"), (5, .methodref 1 53), (0, .nameAndType 54 55), (0, u "isFinal"), (0, u "()Z"), (17, u "canMoveTo"), (0, u "(Lcom/example/clinch/clinch/broker/TransactionState;)Z")] 4

def k6c0 : Code := { maxStack := 2, maxLocals := 1, code := prog_17_method_4_code, exceptionTable := #[], attributes := #[] }
def k6m0 : Method := { name := "isFinal", desc := "()Z", sig := { parameters := [], returnType := some .boolean }, accessFlags := 1, code := some k6c0 }
def k6c1 : Code := { maxStack := 4, maxLocals := 3, code := prog_17_method_5_code, exceptionTable := #[], attributes := #[] }
def k6m1 : Method := { name := "canMoveTo", desc := "(Lcom/example/clinch/clinch/broker/TransactionState;)Z", sig := { parameters := [(.object "com/example/clinch/clinch/broker/TransactionState")], returnType := some .boolean }, accessFlags := 1, code := some k6c1 }
/-- com/example/clinch/clinch/broker/TransactionState -/
def k6 : Class := { plain "com/example/clinch/clinch/broker/TransactionState" (some 5) with
  accessFlags := 16433
  interfaces := #[]
  cf := some (fileOf pool6 1 #[] #[{ accessFlags := 1, nameIndex := 54, descriptorIndex := 55, attributes := #[] }, { accessFlags := 1, nameIndex := 73, descriptorIndex := 74, attributes := #[] }] 16433 26 #[] #[{ accessFlags := 16409, nameIndex := 5, descriptorIndex := 6, attributes := #[] }, { accessFlags := 16409, nameIndex := 9, descriptorIndex := 6, attributes := #[] }, { accessFlags := 16409, nameIndex := 12, descriptorIndex := 6, attributes := #[] }, { accessFlags := 16409, nameIndex := 15, descriptorIndex := 6, attributes := #[] }, { accessFlags := 4122, nameIndex := 18, descriptorIndex := 19, attributes := #[] }])
  fields := #[{ name := "OPEN", type := (.object "com/example/clinch/clinch/broker/TransactionState"), accessFlags := 16409, slot := 0, constantValue := 0 }, { name := "COMMITTED", type := (.object "com/example/clinch/clinch/broker/TransactionState"), accessFlags := 16409, slot := 1, constantValue := 0 }, { name := "ROLLED_BACK", type := (.object "com/example/clinch/clinch/broker/TransactionState"), accessFlags := 16409, slot := 2, constantValue := 0 }, { name := "PARKED", type := (.object "com/example/clinch/clinch/broker/TransactionState"), accessFlags := 16409, slot := 3, constantValue := 0 }, { name := "$VALUES", type := (.array (.object "com/example/clinch/clinch/broker/TransactionState")), accessFlags := 4122, slot := 4, constantValue := 0 }]
  methods := #[k6m0, k6m1]
  instanceTypes := #[(.object "java/lang/String"), .int, .int]
  staticTypes := #[(.object "com/example/clinch/clinch/broker/TransactionState"), (.object "com/example/clinch/clinch/broker/TransactionState"), (.object "com/example/clinch/clinch/broker/TransactionState"), (.object "com/example/clinch/clinch/broker/TransactionState"), (.array (.object "com/example/clinch/clinch/broker/TransactionState"))]
  resolved := Array.replicate 79 none
  statics := some 0 }

def pool7 : Array CpInfo := pool [(2, .class_ 4), (1, u "java/lang/CharSequence"), (42, .class_ 48), (0, u "java/lang/CharSequence$1CodePointIterator"), (10, .class_ 60), (0, u "java/lang/CharSequence$1CharIterator"), (5, .class_ 67), (0, u "java/lang/Object")] 63

/-- java/lang/CharSequence -/
def k7 : Class := { plain "java/lang/CharSequence" (some 0) with
  accessFlags := 1537
  interfaces := #[]
  cf := some (fileOf pool7 2 #[.nestMembers #[47, 59]] #[] 1537 66 #[] #[])
  fields := #[]
  methods := #[]
  instanceTypes := #[]
  staticTypes := #[]
  resolved := Array.replicate 131 none
  statics := none }

def pool8 : Array CpInfo := pool [(1, .class_ 2), (0, u "java/lang/constant/ConstantDesc"), (0, .class_ 4), (0, u "java/lang/Object")] 32

/-- java/lang/constant/ConstantDesc -/
def k8 : Class := { plain "java/lang/constant/ConstantDesc" (some 0) with
  accessFlags := 1537
  interfaces := #[]
  cf := some (fileOf pool8 1 #[] #[] 1537 3 #[] #[])
  fields := #[]
  methods := #[]
  instanceTypes := #[]
  staticTypes := #[]
  resolved := Array.replicate 37 none
  statics := none }

def pool9 : Array CpInfo := pool [(2, .class_ 4), (1, u "java/lang/Object"), (0, u "<init>"), (0, u "()V"), (3, .class_ 12), (1, u "java/lang/String"), (0, u "value"), (0, u "[B"), (2, u "coder"), (0, u "B"), (2, u "hash"), (0, u "I"), (2, u "hashIsZero"), (0, u "Z"), (13, u "COMPACT_STRINGS"), (534, .class_ 576), (0, u "java/lang/CharSequence"), (22, u "CASE_INSENSITIVE_ORDER"), (0, u "Ljava/util/Comparator;"), (500, u "serialPersistentFields"), (0, u "[Ljava/io/ObjectStreamField;"), (0, .class_ 1104), (0, u "java/lang/String$CaseInsensitiveComparator"), (1, .class_ 1107), (0, u "java/io/Serializable"), (0, .class_ 1109), (0, u "java/lang/Comparable"), (0, .class_ 1111), (0, u "java/lang/constant/Constable"), (0, .class_ 1113), (0, u "java/lang/constant/ConstantDesc"), (2, u "serialVersionUID"), (0, u "J"), (3, u "REPL"), (0, u "C"), (2, u "LATIN1"), (1, u "UTF16")] 323

def k9m0 : Method := { name := "<init>", desc := "()V", sig := { parameters := [], returnType := none }, accessFlags := 1, code := none }
/-- java/lang/String -/
def k9 : Class := { plain "java/lang/String" (some 0) with
  accessFlags := 49
  interfaces := #[4, 3, 7, 2, 8]
  cf := some (fileOf pool9 10 #[.nestMembers #[1103]] #[{ accessFlags := 1, nameIndex := 5, descriptorIndex := 6, attributes := #[] }] 49 2 #[1106, 1108, 575, 1110, 1112] #[{ accessFlags := 18, nameIndex := 13, descriptorIndex := 14, attributes := #[] }, { accessFlags := 18, nameIndex := 17, descriptorIndex := 18, attributes := #[] }, { accessFlags := 2, nameIndex := 21, descriptorIndex := 22, attributes := #[] }, { accessFlags := 2, nameIndex := 25, descriptorIndex := 26, attributes := #[] }, { accessFlags := 26, nameIndex := 1116, descriptorIndex := 1117, attributes := #[] }, { accessFlags := 24, nameIndex := 40, descriptorIndex := 26, attributes := #[] }, { accessFlags := 26, nameIndex := 1101, descriptorIndex := 1102, attributes := #[] }, { accessFlags := 26, nameIndex := 1121, descriptorIndex := 1122, attributes := #[] }, { accessFlags := 25, nameIndex := 599, descriptorIndex := 600, attributes := #[] }, { accessFlags := 24, nameIndex := 1125, descriptorIndex := 18, attributes := #[] }, { accessFlags := 24, nameIndex := 1127, descriptorIndex := 18, attributes := #[] }])
  fields := #[{ name := "value", type := (.array .byte), accessFlags := 18, slot := 0, constantValue := 0 }, { name := "coder", type := .byte, accessFlags := 18, slot := 1, constantValue := 0 }, { name := "hash", type := .int, accessFlags := 2, slot := 2, constantValue := 0 }, { name := "hashIsZero", type := .boolean, accessFlags := 2, slot := 3, constantValue := 0 }, { name := "serialVersionUID", type := .long, accessFlags := 26, slot := 0, constantValue := 0 }, { name := "COMPACT_STRINGS", type := .boolean, accessFlags := 24, slot := 1, constantValue := 0 }, { name := "serialPersistentFields", type := (.array (.object "java/io/ObjectStreamField")), accessFlags := 26, slot := 2, constantValue := 0 }, { name := "REPL", type := .char, accessFlags := 26, slot := 3, constantValue := 0 }, { name := "CASE_INSENSITIVE_ORDER", type := (.object "java/util/Comparator"), accessFlags := 25, slot := 4, constantValue := 0 }, { name := "LATIN1", type := .byte, accessFlags := 24, slot := 5, constantValue := 0 }, { name := "UTF16", type := .byte, accessFlags := 24, slot := 6, constantValue := 0 }]
  methods := #[k9m0]
  instanceTypes := #[(.array .byte), .byte, .int, .boolean]
  staticTypes := #[.long, .boolean, (.array (.object "java/io/ObjectStreamField")), .char, (.object "java/util/Comparator"), .byte, .byte]
  resolved := Array.replicate 1451 none
  statics := none }

def pool10 : Array CpInfo := pool [(2, .class_ 4), (1, u "java/lang/Object"), (0, u "<init>"), (0, u "()V"), (35, .class_ 44), (1, u "java/util/Objects"), (0, u "requireNonNull"), (48, u "(Ljava/lang/Object;Ljava/lang/String;)Ljava/lang/Object;")] 89

def k10m0 : Method := { name := "<init>", desc := "()V", sig := { parameters := [], returnType := none }, accessFlags := 2, code := none }
def k10c1 : Code := { maxStack := 3, maxLocals := 2, code := jdk_31_method_11_code, exceptionTable := #[], attributes := #[] }
def k10m1 : Method := { name := "requireNonNull", desc := "(Ljava/lang/Object;Ljava/lang/String;)Ljava/lang/Object;", sig := { parameters := [(.object "java/lang/Object"), (.object "java/lang/String")], returnType := some (.object "java/lang/Object") }, accessFlags := 9, code := some k10c1 }
/-- java/util/Objects -/
def k10 : Class := { plain "java/util/Objects" (some 0) with
  accessFlags := 49
  interfaces := #[]
  cf := some (fileOf pool10 42 #[] #[{ accessFlags := 2, nameIndex := 5, descriptorIndex := 6, attributes := #[] }, { accessFlags := 9, nameIndex := 45, descriptorIndex := 94, attributes := #[] }] 49 2 #[] #[])
  fields := #[]
  methods := #[k10m0, k10m1]
  instanceTypes := #[]
  staticTypes := #[]
  resolved := Array.replicate 184 none
  statics := none }

def pool11 : Array CpInfo := pool [(1, u "java/lang/Cloneable"), (0, .class_ 1), (0, u "java/lang/Object"), (0, .class_ 3)] 3

/-- java/lang/Cloneable -/
def k11 : Class := { plain "java/lang/Cloneable" (some 0) with
  accessFlags := 1537
  interfaces := #[]
  cf := some (fileOf pool11 2 #[] #[] 1537 4 #[] #[])
  fields := #[]
  methods := #[]
  instanceTypes := #[]
  staticTypes := #[]
  resolved := Array.replicate 8 none
  statics := none }

/-- the primitive byte -/
def k12 : Class := { plain "byte" none with kind := .primitive 'B', accessFlags := 0x411 }
/-- [B -/
def k13 : Class := { plain "[B" (some 0) with kind := .array 12 .byte, interfaces := #[11, 4], accessFlags := 1041 }

/-- the primitive int -/
def k14 : Class := { plain "int" none with kind := .primitive 'I', accessFlags := 0x411 }
/-- [I -/
def k15 : Class := { plain "[I" (some 0) with kind := .array 14 .int, interfaces := #[11, 4], accessFlags := 1041 }

def heap : Heap := #[{ cls := 6, slots := #[.ref 1, .ref 2, .ref 3, .ref 4, .null], vm := .statics 6 },
  { cls := 6, slots := #[.null, .int 0, .int 0], vm := .none },
  { cls := 6, slots := #[.null, .int 1, .int 0], vm := .none },
  { cls := 6, slots := #[.null, .int 2, .int 0], vm := .none },
  { cls := 6, slots := #[.null, .int 3, .int 0], vm := .none }]
def classes : Array Class := #[k0, k1, k2, k3, k4, k5, k6, k7, k8, k9, k10, k11, k12, k13, k14, k15]
def interned : List (Array UInt16 × Addr) := []
def slotsUsed : Nat := 17
def theMethod : MethodId := ⟨1, 1⟩
def args0 : Array Value := #[.int 5]
def aboutOver (below : List Frame) : State where
  vm := { classes := classes, interned := interned.toArray }
  heap := heap
  slotsUsed := slotsUsed
  threads := #[{ frames := .invoking theMethod args0 :: below }]
def below0 : List Frame := [.native { method := ⟨0, 0⟩, args := #[] }]
def about1 : State := aboutOver below0
def p0 : Program := .bare "" "" ""
def e0 : Env := launch0.env 0 0 0
theorem w_frames : about1.frames = Frame.invoking theMethod args0 :: below0 := rfl
set_option maxRecDepth 65536 in
theorem w_args : argsFit about1.vm theMethod args0 = true := by decide +kernel
set_option maxRecDepth 65536 in
theorem w_heap : heapFits about1 = true := by decide +kernel
set_option maxRecDepth 65536 in
theorem w_runnable : about1.curStatus? = some .runnable := by decide +kernel
set_option maxRecDepth 65536 in
theorem w_alone : about1.alone = true := by decide +kernel
set_option maxRecDepth 65536 in
theorem w_named : about1.methodNamed? x = some theMethod := by decide +kernel
set_option maxRecDepth 65536 in
theorem w_hears : about1.hears theMethod below0 = true := by decide +kernel
set_option maxRecDepth 65536 in
theorem w_ripe : about1.ripe theMethod args0 below0 = true := by decide +kernel
theorem w_running : about1.status = .running := rfl
set_option maxRecDepth 65536 in
theorem w_room : about1.hasRoom e0.platform room_1 = true :=
  launch0.hasRoom_least _ room_1 (by decide +kernel) (by decide +kernel) (by decide +kernel) (by decide +kernel) (by decide +kernel) (by decide +kernel)
theorem allAtoms_all (ts : List Jvm.Cond) (a : Array Jvm.Value) (st : Jvm.State) : (allAtoms ts).before a st = ts.all (fun c => c.before a st) := by
  induction ts with
  | nil => rfl
  | cons c t ih =>
    show (Jvm.Cond.and c (allAtoms t)).before a st = _
    rw [Jvm.Cond.before_and, ih, List.all_cons]
def words1 : List Jvm.Cond := Jvm.Cond.code x code maxLocals ret :: tables_1
/-- a 'code' word, met by the world's own term for the bytes: nothing is compared byte by byte -/
theorem code_word {y : MethodName} {bytes : ByteArray} {mx : Nat} {rt : Option FieldType} {a : Array Value} {s : State} {m : MethodId} {meth : Method} {c : Code} (h1 : s.methodNamed? y = some m) (h2 : s.vm.method? m = some meth) (h3 : meth.code = some c) (h4 : c.code = bytes)
    (h5 : (c.maxLocals == mx && c.exceptionTable.isEmpty && decide (c.maxStack ≤ mostOperands) && decide (meth.sig.returnType = rt) && !meth.locks && decide (parseMethodDescriptor y.desc = some meth.sig)) = true) : (Jvm.Cond.code y bytes mx rt).before a s = true := by
  simp only [Bool.and_eq_true, beq_iff_eq, Bool.not_eq_true', decide_eq_true_eq] at h5
  obtain ⟨⟨⟨⟨⟨g1, g2⟩, g3⟩, g4⟩, g5⟩, g6⟩ := h5
  simp [Cond.before, Cond.holds, Cond.value, h1, h2, h3, h4, g1, g2, g3, g4, g5, g6]
def isCode : Jvm.Cond → Bool
  | .code _ _ _ _ => true
  | _ => false
theorem all_split {L : List Jvm.Cond} {P : Jvm.Cond → Bool} (h1 : L.all (fun c => isCode c || P c) = true) (h2 : ∀ c ∈ L.filter isCode, P c = true) : L.all P = true := by
  refine List.all_eq_true.mpr fun c hc => ?_
  have h := List.all_eq_true.mp h1 c hc
  rcases Bool.eq_false_or_eq_true (isCode c) with hi | hi
  · exact h2 c (List.mem_filter.mpr ⟨hc, hi⟩)
  · simpa [hi] using h
set_option maxRecDepth 65536 in
theorem w_c0 : (Jvm.Cond.code x code maxLocals ret).before args0 about1 = true := code_word (m := ⟨1, 1⟩) (meth := k1m1) (c := k1c1) (by decide +kernel) rfl rfl rfl (by decide +kernel)
set_option maxRecDepth 65536 in
theorem w_c1 : (Jvm.Cond.code ({ cls := "com/example/clinch/clinch/broker/TransactionState", name := "isFinal", desc := "()Z" } : Jvm.MethodName) prog_17_method_4_code (1 : Nat) (Option.some Jvm.ClassFile.FieldType.boolean)).before args0 about1 = true := code_word (m := ⟨6, 0⟩) (meth := k6m0) (c := k6c0) (by decide +kernel) rfl rfl rfl (by decide +kernel)
set_option maxRecDepth 65536 in
theorem w_c2 : (Jvm.Cond.code ({ cls := "com/example/clinch/clinch/broker/TransactionState", name := "canMoveTo", desc := "(Lcom/example/clinch/clinch/broker/TransactionState;)Z" } : Jvm.MethodName) prog_17_method_5_code (3 : Nat) (Option.some Jvm.ClassFile.FieldType.boolean)).before args0 about1 = true := code_word (m := ⟨6, 1⟩) (meth := k6m1) (c := k6c1) (by decide +kernel) rfl rfl rfl (by decide +kernel)
set_option maxRecDepth 65536 in
theorem w_c3 : (Jvm.Cond.code ({ cls := "java/util/Objects", name := "requireNonNull", desc := "(Ljava/lang/Object;Ljava/lang/String;)Ljava/lang/Object;" } : Jvm.MethodName) jdk_31_method_11_code (2 : Nat) (Option.some (Jvm.ClassFile.FieldType.object "java/lang/Object"))).before args0 about1 = true := code_word (m := ⟨10, 1⟩) (meth := k10m1) (c := k10c1) (by decide +kernel) rfl rfl rfl (by decide +kernel)
set_option maxRecDepth 65536 in
theorem w_c4 : (Jvm.Cond.code ({ cls := "java/lang/Enum", name := "ordinal", desc := "()I" } : Jvm.MethodName) jdk_37_method_2_code (1 : Nat) (Option.some Jvm.ClassFile.FieldType.int)).before args0 about1 = true := code_word (m := ⟨5, 0⟩) (meth := k5m0) (c := k5c0) (by decide +kernel) rfl rfl rfl (by decide +kernel)
def codes1 : List Jvm.Cond := [Jvm.Cond.code x code maxLocals ret, Jvm.Cond.code ({ cls := "com/example/clinch/clinch/broker/TransactionState", name := "isFinal", desc := "()Z" } : Jvm.MethodName) prog_17_method_4_code (1 : Nat) (Option.some Jvm.ClassFile.FieldType.boolean), Jvm.Cond.code ({ cls := "com/example/clinch/clinch/broker/TransactionState", name := "canMoveTo", desc := "(Lcom/example/clinch/clinch/broker/TransactionState;)Z" } : Jvm.MethodName) prog_17_method_5_code (3 : Nat) (Option.some Jvm.ClassFile.FieldType.boolean), Jvm.Cond.code ({ cls := "java/util/Objects", name := "requireNonNull", desc := "(Ljava/lang/Object;Ljava/lang/String;)Ljava/lang/Object;" } : Jvm.MethodName) jdk_31_method_11_code (2 : Nat) (Option.some (Jvm.ClassFile.FieldType.object "java/lang/Object")), Jvm.Cond.code ({ cls := "java/lang/Enum", name := "ordinal", desc := "()I" } : Jvm.MethodName) jdk_37_method_2_code (1 : Nat) (Option.some Jvm.ClassFile.FieldType.int)]
set_option maxRecDepth 65536 in
theorem codes_eq : words1.filter isCode = codes1 := rfl
theorem w_codes : ∀ c ∈ words1.filter isCode, c.before args0 about1 = true := by
  rw [codes_eq]
  intro c hc
  simp only [codes1, List.mem_cons, List.not_mem_nil, or_false] at hc
  rcases hc with rfl | rfl | rfl | rfl | rfl
  · exact w_c0
  · exact w_c1
  · exact w_c2
  · exact w_c3
  · exact w_c4
set_option maxRecDepth 65536 in
theorem w_t1 : (words1.take 24).all (fun c => isCode c || c.before args0 about1) = true := by decide +kernel
set_option maxRecDepth 65536 in
theorem w_t2 : (words1.drop 24).all (fun c => isCode c || c.before args0 about1) = true := by decide +kernel
theorem w_tables : (allAtoms (Jvm.Cond.code x code maxLocals ret :: tables_1)).before args0 about1 = true := by
  rw [allAtoms_all]
  show words1.all (fun c => c.before args0 about1) = true
  refine all_split ?_ w_codes
  rw [← List.take_append_drop 24 words1, List.all_append, w_t1, w_t2]
  rfl
set_option maxRecDepth 65536 in
theorem w_case : (Jvm.Cond.and given_1 narrow_1).before args0 about1 = true := by decide +kernel
theorem w_applies : (headSpec (Jvm.Cond.code x code maxLocals ret :: tables_1) room_1).applies x e0.platform about1 = true :=
  (Spec.applies_iff w_frames).mpr ⟨w_running, w_runnable, w_alone, w_named, w_hears, w_ripe, w_room, w_tables⟩
theorem atStart : AtStart classFile x code maxLocals ret World_1 tables_1 room_1 Calls_1 rest_1 Pre_1 launch0 p0 e0 about1 theMethod args0 below0 :=
  ⟨lists_1, trivial, launch0.admits_env _ _ _, launch0.least_env, fairChoices_fair.cas, fairChoices_fair.clock, w_frames, w_args, w_heap, w_applies, trivial, trivial, w_case⟩
end start1
theorem witness_1 : WitnessClaimed_1 := ⟨start1.p0, start1.e0, start1.about1, start1.theMethod, start1.args0, start1.below0, start1.atStart⟩
end Jvm.Pilot.@@N@@
