import JvmDerived
import JvmDerived.Pilot.@@N@@Statement
import JvmDerived.Pilot.@@N@@Code
set_option linter.unusedVariables false
set_option linter.unusedSimpArgs false
@@BLOCK:NumsL.lean.txt@@
namespace Jvm.RoadKit
open Sem ClassFile Op Lib Jvm.Stand Jvm.Free Jvm.LawKit
section New
variable {p : Program} {l : Launch} {e : Env} {R : Room} {s : State} {m : MethodId} {args : Array Value} {below : List Frame} {meth : Method} {c : Code} {T : State} {locs : List Loc} {cells slots : Nat}
theorem retI (X : Stand p l e R s m args below meth c T locs cells slots) (hx : p.tables.exec = Jvm.exec) {pc : Nat} {Ls : Array Slot} {z : Int32} {rest : List Value} (hret : meth.sig.returnType = some .int) (hd : decode c.code pc = .ok (.ireturn, 1)) {fs : List Frame}
    (hl : ∀ (f : JFrame) (acts : List Action), f.method = m → f.locked = none → f.entered = [] → (doReturn e (T.setTop f) acts (some (.int z))).1 = T.setFrames fs) : Steps p.tables e below (T.setTop (mkF m pc Ls (.int z :: rest))) (T.setFrames fs) := by
  have hm' : T.vm.method? m = some meth := X.method'
  have hn : narrow .int (.int z) = .int z := rfl
  show Steps p.tables e below (T.setTop { method := m, pc := pc, locals := Ls, stack := _ :: rest, locked := none }) _
  jvm_step X.here [X.here.top, hx, hd, hm', hret, hn]
  first | (intro acts; rw [hl _ acts rfl rfl rfl]) | rw [hl _ _ rfl rfl rfl]
  exact Steps.refl _
end New
end Jvm.RoadKit
namespace Jvm.Pilot.@@N@@
open Jvm Jvm.ClassFile Sem Op Lib Jvm.Free Jvm.Stand Jvm.LawKit Jvm.RoadKit Bundle Jvm.Pilot.@@N@@.Jvm.D
theorem own_ext {h h' h'' : Heap} (A : Ext h h') (B : Ext h' h'') : Ext h h'' := ⟨Nat.le_trans A.1 B.1, fun a c q => B.2 a c (A.2 a c q)⟩
theorem own_fld {args : Array Value} {s : State} {t : Term} {C n d : String} {w : Addr} {k : Int32} (h : (Jvm.Cond.eq (.field t C n d) (.int k)).value args s none s [] = some true) (ev : t.eval args s none [] s = some (.ref w)) : Fld s s.heap w C n d (.int k) := by
  apply Fld.start
  have e := fld_at (C := C) (n := n) (dd := d) ev
  obtain ⟨x, y, e1, e2, k1, k2⟩ := cmp_v (Or.inl h)
  cases (show y = .int k from (Option.some.inj (e2.symm.trans rfl)))
  obtain ⟨z, rfl⟩ := k2
  have q := gotT (Cond.eq_ints e1 e2) h
  rw [← e, e1, q]
theorem own_fldR {args : Array Value} {s : State} {t u : Term} {C n d : String} {w b : Addr} (h : (Jvm.Cond.eq (.field t C n d) u).value args s none s [] = some true) (ev : t.eval args s none [] s = some (.ref w)) (eu : u.eval args s none [] s = some (.ref b)) : Fld s s.heap w C n d (.ref b) := by
  apply Fld.start
  have e := fld_at (C := C) (n := n) (dd := d) ev
  obtain ⟨x, y, e1, e2, k1, k2⟩ := cmp_v (Or.inl h)
  cases e2.symm.trans eu
  have q := gotT (eq_R e1 eu k2.2 rfl) h
  rw [← e, e1, q]
theorem own_ne {Z : State} {h : Heap} {a b : Addr} {C n d : String} {i j : Int32} (F : Fld Z h a C n d (.int i)) (G : Fld Z h b C n d (.int j)) (hn : ¬ (i = j)) : ¬ (a = b) := fun e => by
  subst e
  obtain ⟨c1, f1, k1, i1, g1, p1, p2, -, -, -, -, p7⟩ := F
  obtain ⟨c2, f2, k2, i2, g2, q1, q2, -, -, -, -, q7⟩ := G
  cases p1.symm.trans q1
  cases p2.symm.trans q2
  exact hn (Value.int.inj (Option.some.inj (p7.symm.trans q7)))
theorem own_inj {x y : Int32} (h : x.toInt = y.toInt) : x = y := Int32.toInt_inj.mp h
theorem own_rem (x : Int32) : ((x &&& (2147483647 : Int32)) % (5 : Int32)) = (0 : Int32) ∨ ((x &&& (2147483647 : Int32)) % (5 : Int32)) = (1 : Int32) ∨ ((x &&& (2147483647 : Int32)) % (5 : Int32)) = (2 : Int32) ∨ ((x &&& (2147483647 : Int32)) % (5 : Int32)) = (3 : Int32) ∨ ((x &&& (2147483647 : Int32)) % (5 : Int32)) = (4 : Int32) := by
  have e := Jvm.Kit.i32_mask x (2147483647 : Int32) (k := 31) (by decide) (by decide)
  have e2 := Jvm.Kit.i32_rem_nonneg (x := x &&& (2147483647 : Int32)) (y := (5 : Int32)) (by omega)
  have e3 : (5 : Int32).toInt = 5 := by decide
  rw [e3] at e2
  have h : ((x &&& (2147483647 : Int32)) % (5 : Int32)).toInt = 0 ∨ ((x &&& (2147483647 : Int32)) % (5 : Int32)).toInt = 1 ∨ ((x &&& (2147483647 : Int32)) % (5 : Int32)).toInt = 2 ∨ ((x &&& (2147483647 : Int32)) % (5 : Int32)).toInt = 3 ∨ ((x &&& (2147483647 : Int32)) % (5 : Int32)).toInt = 4 := by omega
  rcases h with h | h | h | h | h
  · exact Or.inl (own_inj (h.trans (by decide)))
  · exact Or.inr (Or.inl (own_inj (h.trans (by decide))))
  · exact Or.inr (Or.inr (Or.inl (own_inj (h.trans (by decide)))))
  · exact Or.inr (Or.inr (Or.inr (Or.inl (own_inj (h.trans (by decide))))))
  · exact Or.inr (Or.inr (Or.inr (Or.inr (own_inj (h.trans (by decide))))))
def World (Z : State) (h : Heap) (w_NORMAL : Addr) (w_SUSPENDED : Addr) (w_WARNING : Addr) (w_DELETED : Addr) (w_APPROACHING_DELETION : Addr) : Prop := Sta Z h "com/example/metered_billing/meteredbilling/arrears/Status" "NORMAL" "Lcom/example/metered_billing/meteredbilling/arrears/Status;" (.ref w_NORMAL) ∧ Exa Z h w_NORMAL "com/example/metered_billing/meteredbilling/arrears/Status" ∧ Sta Z h "com/example/metered_billing/meteredbilling/arrears/Status" "SUSPENDED" "Lcom/example/metered_billing/meteredbilling/arrears/Status;" (.ref w_SUSPENDED) ∧ Exa Z h w_SUSPENDED "com/example/metered_billing/meteredbilling/arrears/Status" ∧ Sta Z h "com/example/metered_billing/meteredbilling/arrears/Status" "WARNING" "Lcom/example/metered_billing/meteredbilling/arrears/Status;" (.ref w_WARNING) ∧ Exa Z h w_WARNING "com/example/metered_billing/meteredbilling/arrears/Status" ∧ Sta Z h "com/example/metered_billing/meteredbilling/arrears/Status" "DELETED" "Lcom/example/metered_billing/meteredbilling/arrears/Status;" (.ref w_DELETED) ∧ Exa Z h w_DELETED "com/example/metered_billing/meteredbilling/arrears/Status" ∧ Sta Z h "com/example/metered_billing/meteredbilling/arrears/Status" "APPROACHING_DELETION" "Lcom/example/metered_billing/meteredbilling/arrears/Status;" (.ref w_APPROACHING_DELETION) ∧ Exa Z h w_APPROACHING_DELETION "com/example/metered_billing/meteredbilling/arrears/Status" ∧ Fld Z h w_SUSPENDED "java/lang/Enum" "ordinal" "I" (.int (3 : Int32)) ∧ Fld Z h w_NORMAL "java/lang/Enum" "ordinal" "I" (.int (0 : Int32)) ∧ Fld Z h w_WARNING "java/lang/Enum" "ordinal" "I" (.int (1 : Int32)) ∧ Fld Z h w_DELETED "java/lang/Enum" "ordinal" "I" (.int (4 : Int32)) ∧ Fld Z h w_APPROACHING_DELETION "java/lang/Enum" "ordinal" "I" (.int (2 : Int32)) ∧ ¬ (w_NORMAL = w_SUSPENDED) ∧ ¬ (w_NORMAL = w_WARNING) ∧ ¬ (w_NORMAL = w_DELETED) ∧ ¬ (w_NORMAL = w_APPROACHING_DELETION) ∧ ¬ (w_SUSPENDED = w_WARNING) ∧ ¬ (w_SUSPENDED = w_DELETED) ∧ ¬ (w_SUSPENDED = w_APPROACHING_DELETION) ∧ ¬ (w_WARNING = w_DELETED) ∧ ¬ (w_WARNING = w_APPROACHING_DELETION) ∧ ¬ (w_DELETED = w_APPROACHING_DELETION) ∧ True
theorem World.ext {Z : State} {h h' : Heap} {w_NORMAL : Addr} {w_SUSPENDED : Addr} {w_WARNING : Addr} {w_DELETED : Addr} {w_APPROACHING_DELETION : Addr} (E : Ext h h') (W : World Z h w_NORMAL w_SUSPENDED w_WARNING w_DELETED w_APPROACHING_DELETION) : World Z h' w_NORMAL w_SUSPENDED w_WARNING w_DELETED w_APPROACHING_DELETION := by
  obtain ⟨S_w_NORMAL, E_w_NORMAL, S_w_SUSPENDED, E_w_SUSPENDED, S_w_WARNING, E_w_WARNING, S_w_DELETED, E_w_DELETED, S_w_APPROACHING_DELETION, E_w_APPROACHING_DELETION, F_ordinal_w_SUSPENDED, F_ordinal_w_NORMAL, F_ordinal_w_WARNING, F_ordinal_w_DELETED, F_ordinal_w_APPROACHING_DELETION, ne_w_NORMAL_w_SUSPENDED, ne_w_NORMAL_w_WARNING, ne_w_NORMAL_w_DELETED, ne_w_NORMAL_w_APPROACHING_DELETION, ne_w_SUSPENDED_w_WARNING, ne_w_SUSPENDED_w_DELETED, ne_w_SUSPENDED_w_APPROACHING_DELETION, ne_w_WARNING_w_DELETED, ne_w_WARNING_w_APPROACHING_DELETION, ne_w_DELETED_w_APPROACHING_DELETION, -⟩ := W
  exact ⟨S_w_NORMAL.ext E, E_w_NORMAL.ext E, S_w_SUSPENDED.ext E, E_w_SUSPENDED.ext E, S_w_WARNING.ext E, E_w_WARNING.ext E, S_w_DELETED.ext E, E_w_DELETED.ext E, S_w_APPROACHING_DELETION.ext E, E_w_APPROACHING_DELETION.ext E, F_ordinal_w_SUSPENDED.ext E, F_ordinal_w_NORMAL.ext E, F_ordinal_w_WARNING.ext E, F_ordinal_w_DELETED.ext E, F_ordinal_w_APPROACHING_DELETION.ext E, ne_w_NORMAL_w_SUSPENDED, ne_w_NORMAL_w_WARNING, ne_w_NORMAL_w_DELETED, ne_w_NORMAL_w_APPROACHING_DELETION, ne_w_SUSPENDED_w_WARNING, ne_w_SUSPENDED_w_DELETED, ne_w_SUSPENDED_w_APPROACHING_DELETION, ne_w_WARNING_w_DELETED, ne_w_WARNING_w_APPROACHING_DELETION, ne_w_DELETED_w_APPROACHING_DELETION, trivial⟩
theorem d1_0 : decode method_2_code 0 = .ok (.iload_n 0, 1) := by decide +kernel
theorem d1_1 : decode method_2_code 1 = .ok (.ifCond .ne 7, 3) := by decide +kernel
theorem d1_4 : decode method_2_code 4 = .ok (.getstatic 7, 3) := by decide +kernel
theorem d1_7 : decode method_2_code 7 = .ok (.areturn, 1) := by decide +kernel
theorem ef5 (m : MethodId) (x0 : Int32) : entryFrame m #[(.int x0)] 1 = mkF m 0 #[.val (.int x0)] [] := by first | (simp [entryFrame, mkF, argsToLocals, Value.category]; done) | rfl
theorem pn6 : plainName "com/example/metered_billing/meteredbilling/arrears/StatusCanCreatePinLaw" = true := by first | (simp [plainName, overriddenIn]; done) | decide +kernel
def Q1_0 (Z : State) (w_NORMAL : Addr) (w_SUSPENDED : Addr) (w_WARNING : Addr) (w_DELETED : Addr) (w_APPROACHING_DELETION : Addr) (h0 : Heap) (n0 : Nat) (v : Option Value) (h : Heap) (L : List Loc) : Prop := v = some (.ref w_NORMAL) ∧ Fr n0 L ∧ h = h0
set_option maxRecDepth 65536 in
set_option maxHeartbeats 40000000 in
theorem rm1_0 (l : Launch) (Z : State) (a0 : Array Value) (hw : ∀ d ∈ tables_1, d.before a0 Z = true) (ws : List Jvm.Cond) (w_NORMAL : Addr) (w_SUSPENDED : Addr) (w_WARNING : Addr) (w_DELETED : Addr) (w_APPROACHING_DELETION : Addr) (h0 : Heap) (n0 : Nat) (Z0 : n0 ≤ h0.size) (HW : World Z h0 w_NORMAL w_SUSPENDED w_WARNING w_DELETED w_APPROACHING_DELETION) :
    MetFree l (⟨"com/example/metered_billing/meteredbilling/arrears/StatusCanCreatePinLaw", "pick", "(I)Lcom/example/metered_billing/meteredbilling/arrears/Status;"⟩ : MethodName) (head1 (Jvm.Cond.code (⟨"com/example/metered_billing/meteredbilling/arrears/StatusCanCreatePinLaw", "pick", "(I)Lcom/example/metered_billing/meteredbilling/arrears/Status;"⟩ : MethodName) method_2_code 1 (some (.object "com/example/metered_billing/meteredbilling/arrears/Status")) :: ws) ({ frames := 0, cells := 0, slots := 0, locals := 0 } : Room)) (fun a U => a = #[(.int (0 : Int32))] ∧ Z.Warmed39 U.vm ∧ U.heap = h0) (fun _ _ _ _ _ => True) (fun _ U o U' => ∃ v L, o = .returned v ∧ Q1_0 Z w_NORMAL w_SUSPENDED w_WARNING w_DELETED w_APPROACHING_DELETION h0 n0 v U'.heap L ∧ FrameEnd U o U' L ({ frames := 0, cells := 0, slots := 0, locals := 0 } : Room).cells ({ frames := 0, cells := 0, slots := 0, locals := 0 } : Room).slots) := by
  refine MetFree.of_bodySF (plainFor_of_name pn6) hisR ?_
  intro p e s m args below meth c s₁ Bd hml0 hP hK
  obtain ⟨rfl, hZ, hh⟩ := hP
  have hx := Bd.exec
  have hby := Bd.bytes
  have hml : c.maxLocals = 1 := hml0
  have hown : s.vm.findClass "com/example/metered_billing/meteredbilling/arrears/StatusCanCreatePinLaw" = some m.cls := findClass_of_methodNamed Bd.named
  have X0 : Stand p l e ({ frames := 0, cells := 0, slots := 0, locals := 0 } : Room) s m #[(.int (0 : Int32))] below meth c s₁ [] 0 0 := Stand.of_body Bd
  have e0 : s₁.heap = h0 := by rw [← hh, Bd.state]; rfl
  have N0 := Fr.nil n0
  have pre0 : ∀ t, Steps p.tables e below (s₁.setTop (mkF m 0 #[.val (.int (0 : Int32))] [])) t → Steps p.tables e below (s₁.setTop (entryFrame m #[(.int (0 : Int32))] 1)) t := fun t k => castTop (ef5 m (0 : Int32)) k
  obtain ⟨S_w_NORMAL, E_w_NORMAL, S_w_SUSPENDED, E_w_SUSPENDED, S_w_WARNING, E_w_WARNING, S_w_DELETED, E_w_DELETED, S_w_APPROACHING_DELETION, E_w_APPROACHING_DELETION, F_ordinal_w_SUSPENDED, F_ordinal_w_NORMAL, F_ordinal_w_WARNING, F_ordinal_w_DELETED, F_ordinal_w_APPROACHING_DELETION, ne_w_NORMAL_w_SUSPENDED, ne_w_NORMAL_w_WARNING, ne_w_NORMAL_w_DELETED, ne_w_NORMAL_w_APPROACHING_DELETION, ne_w_SUSPENDED_w_WARNING, ne_w_SUSPENDED_w_DELETED, ne_w_SUSPENDED_w_APPROACHING_DELETION, ne_w_WARNING_w_DELETED, ne_w_WARNING_w_APPROACHING_DELETION, ne_w_DELETED_w_APPROACHING_DELETION, -⟩ := id HW
  obtain ⟨T1, X1, e1, st1⟩ := getS2 X0 hx hZ hown (host := "") (Or.inl (hw _ (List.mem_of_getElem? (i := 5) rfl))) Via.refl e0 S_w_NORMAL (g := (mkF m 4 #[.val (.int (0 : Int32))] [])) rfl (hb hby d1_4)
  obtain ⟨fs, hr, hrun, hended, hW, hsame⟩ := X1.leave (v := some (.ref w_NORMAL)) (fun h => by rw [Bd.returns] at h; cases h)
  refine ⟨_, _, pre0 _ ?_, hrun, hended, _, _, rfl, ?_, ⟨_, rfl⟩, hW, hsame.mono (by decide) (by decide)⟩
  · show Steps p.tables e below (s₁.setTop (mkF m 0 #[.val (.int (0 : Int32))] [])) _
    refine XS.iloadN X0.here hx rfl (hb hby d1_0) rfl ?_
    show Steps p.tables e below (s₁.setTop (mkF m 1 #[.val (.int (0 : Int32))] [(.int (0 : Int32))])) _
    refine XS.ifNo X0.here hx rfl (hb hby d1_1) rfl ((if0 _ _).trans (teq (by decide : (0 : Int32) = (0 : Int32))).2) ?_
    show Steps p.tables e below (s₁.setTop (mkF m 4 #[.val (.int (0 : Int32))] [])) _
    refine st1 _ ?_
    show Steps p.tables e below (T1.setTop (mkF m 7 #[.val (.int (0 : Int32))] [(.ref w_NORMAL)])) _
    jvm_step X1.here [X1.here.top, hx, (hb hby d1_7), X1.method', Bd.returns, Value.isRef, FieldType.isReference]
    first | (intro acts; rw [hr _ acts rfl rfl rfl]) | rw [hr _ _ rfl rfl rfl]
    exact Steps.refl _
  · exact ⟨rfl, N0, e1⟩
theorem pd7 : parseMethodDescriptor "(I)Lcom/example/metered_billing/meteredbilling/arrears/Status;" = some ⟨[.int], some (.object "com/example/metered_billing/meteredbilling/arrears/Status")⟩ := by decide +kernel
theorem d2_0 : decode prog_6_method_5_code 0 = .ok (.aload_n 0, 1) := by decide +kernel
theorem d2_1 : decode prog_6_method_5_code 1 = .ok (.getstatic 3, 3) := by decide +kernel
theorem d2_4 : decode prog_6_method_5_code 4 = .ok (.if_acmp .ne 7, 3) := by decide +kernel
theorem d2_7 : decode prog_6_method_5_code 7 = .ok (.iconst 1, 1) := by decide +kernel
theorem d2_8 : decode prog_6_method_5_code 8 = .ok (.goto 4, 3) := by decide +kernel
theorem d2_12 : decode prog_6_method_5_code 12 = .ok (.ireturn, 1) := by decide +kernel
theorem ef15 (m : MethodId) (x0 : Addr) : entryFrame m #[(.ref x0)] 1 = mkF m 0 #[.val (.ref x0)] [] := by first | (simp [entryFrame, mkF, argsToLocals, Value.category]; done) | rfl
theorem pn16 : plainName "com/example/metered_billing/meteredbilling/arrears/Status" = true := by first | (simp [plainName, overriddenIn]; done) | decide +kernel
def Q2_1 (Z : State) (w_NORMAL : Addr) (w_SUSPENDED : Addr) (w_WARNING : Addr) (w_DELETED : Addr) (w_APPROACHING_DELETION : Addr) (h0 : Heap) (n0 : Nat) (v : Option Value) (h : Heap) (L : List Loc) : Prop := v = some (.int (1 : Int32)) ∧ Fr n0 L ∧ h = h0
set_option maxRecDepth 65536 in
set_option maxHeartbeats 40000000 in
theorem rm2_1 (l : Launch) (Z : State) (a0 : Array Value) (hw : ∀ d ∈ tables_1, d.before a0 Z = true) (ws : List Jvm.Cond) (w_NORMAL : Addr) (w_SUSPENDED : Addr) (w_WARNING : Addr) (w_DELETED : Addr) (w_APPROACHING_DELETION : Addr) (h0 : Heap) (n0 : Nat) (Z0 : n0 ≤ h0.size) (HW : World Z h0 w_NORMAL w_SUSPENDED w_WARNING w_DELETED w_APPROACHING_DELETION) :
    MetFree l (⟨"com/example/metered_billing/meteredbilling/arrears/Status", "canCreate", "()Z"⟩ : MethodName) (head1 (Jvm.Cond.code (⟨"com/example/metered_billing/meteredbilling/arrears/Status", "canCreate", "()Z"⟩ : MethodName) prog_6_method_5_code 1 (some .boolean) :: ws) ({ frames := 0, cells := 0, slots := 0, locals := 0 } : Room)) (fun a U => a = #[(.ref w_NORMAL)] ∧ Z.Warmed39 U.vm ∧ U.heap = h0) (fun _ _ _ _ _ => True) (fun _ U o U' => ∃ v L, o = .returned v ∧ Q2_1 Z w_NORMAL w_SUSPENDED w_WARNING w_DELETED w_APPROACHING_DELETION h0 n0 v U'.heap L ∧ FrameEnd U o U' L ({ frames := 0, cells := 0, slots := 0, locals := 0 } : Room).cells ({ frames := 0, cells := 0, slots := 0, locals := 0 } : Room).slots) := by
  refine MetFree.of_bodySF (plainFor_of_name pn16) hisR ?_
  intro p e s m args below meth c s₁ Bd hml0 hP hK
  obtain ⟨rfl, hZ, hh⟩ := hP
  have hx := Bd.exec
  have hby := Bd.bytes
  have hml : c.maxLocals = 1 := hml0
  have hown : s.vm.findClass "com/example/metered_billing/meteredbilling/arrears/Status" = some m.cls := findClass_of_methodNamed Bd.named
  have X0 : Stand p l e ({ frames := 0, cells := 0, slots := 0, locals := 0 } : Room) s m #[(.ref w_NORMAL)] below meth c s₁ [] 0 0 := Stand.of_body Bd
  have e0 : s₁.heap = h0 := by rw [← hh, Bd.state]; rfl
  have N0 := Fr.nil n0
  have pre0 : ∀ t, Steps p.tables e below (s₁.setTop (mkF m 0 #[.val (.ref w_NORMAL)] [])) t → Steps p.tables e below (s₁.setTop (entryFrame m #[(.ref w_NORMAL)] 1)) t := fun t k => castTop (ef15 m w_NORMAL) k
  obtain ⟨S_w_NORMAL, E_w_NORMAL, S_w_SUSPENDED, E_w_SUSPENDED, S_w_WARNING, E_w_WARNING, S_w_DELETED, E_w_DELETED, S_w_APPROACHING_DELETION, E_w_APPROACHING_DELETION, F_ordinal_w_SUSPENDED, F_ordinal_w_NORMAL, F_ordinal_w_WARNING, F_ordinal_w_DELETED, F_ordinal_w_APPROACHING_DELETION, ne_w_NORMAL_w_SUSPENDED, ne_w_NORMAL_w_WARNING, ne_w_NORMAL_w_DELETED, ne_w_NORMAL_w_APPROACHING_DELETION, ne_w_SUSPENDED_w_WARNING, ne_w_SUSPENDED_w_DELETED, ne_w_SUSPENDED_w_APPROACHING_DELETION, ne_w_WARNING_w_DELETED, ne_w_WARNING_w_APPROACHING_DELETION, ne_w_DELETED_w_APPROACHING_DELETION, -⟩ := id HW
  obtain ⟨T1, X1, e1, st1⟩ := getS2 X0 hx hZ hown (host := "") (Or.inl (hw _ (List.mem_of_getElem? (i := 13) rfl))) Via.refl e0 S_w_NORMAL (g := (mkF m 1 #[.val (.ref w_NORMAL)] [(.ref w_NORMAL)])) rfl (hb hby d2_1)
  obtain ⟨fs, hr, hrun, hended, hW, hsame⟩ := X1.leave (v := some (.int (1 : Int32))) (fun h => by rw [Bd.returns] at h; cases h)
  refine ⟨_, _, pre0 _ ?_, hrun, hended, _, _, rfl, ?_, ⟨_, rfl⟩, hW, hsame.mono (by decide) (by decide)⟩
  · show Steps p.tables e below (s₁.setTop (mkF m 0 #[.val (.ref w_NORMAL)] [])) _
    refine XS.aloadN X0.here hx rfl (hb hby d2_0) rfl rfl ?_
    show Steps p.tables e below (s₁.setTop (mkF m 1 #[.val (.ref w_NORMAL)] [(.ref w_NORMAL)])) _
    refine st1 _ ?_
    show Steps p.tables e below (T1.setTop (mkF m 4 #[.val (.ref w_NORMAL)] [(.ref w_NORMAL), (.ref w_NORMAL)])) _
    refine Jvm.RoadKit.acmp (g := (mkF m 4 #[.val (.ref w_NORMAL)] [(.ref w_NORMAL), (.ref w_NORMAL)])) X1 hx rfl rfl rfl (pc0 := 4) (pc' := 7) (same := true) rfl (hb hby d2_4) rfl (decide_eq_true rfl) (by decide) (by decide) ?_
    show Steps p.tables e below (T1.setTop (mkF m 7 #[.val (.ref w_NORMAL)] [])) _
    refine XS.iconst X1.here hx rfl (hb hby d2_7) ?_
    show Steps p.tables e below (T1.setTop (mkF m 8 #[.val (.ref w_NORMAL)] [(.int (1 : Int32))])) _
    refine XS.goto X1.here hx rfl (pc0 := 8) (pc' := 12) rfl (hb hby d2_8) (by decide) (by decide) ?_
    show Steps p.tables e below (T1.setTop (mkF m 12 #[.val (.ref w_NORMAL)] [(.int (1 : Int32))])) _
    exact retN X1 hx (t := .boolean) Bd.returns (by simp) (hb hby d2_12) hr
  · exact ⟨rfl, N0, e1⟩
theorem pd17 : parseMethodDescriptor "()Z" = some ⟨[], some .boolean⟩ := by decide +kernel
theorem ef19 (m : MethodId) (x0 : Int32) : entryFrame m #[(.int x0)] maxLocals = mkF m 0 #[.val (.int x0), .unset, .unset, .unset] [] := by first | (simp [entryFrame, mkF, argsToLocals, Value.category, maxLocals]; done) | rfl
def Q0 (h0 : Heap) (n0 : Nat) (v : Option Value) (h : Heap) (L : List Loc) : Prop := v = some (.int (1 : Int32)) ∧ Fr n0 L
set_option maxRecDepth 65536 in
set_option maxHeartbeats 40000000 in
theorem rm0_c0 (l : Launch) (Z : State) (a0 : Array Value) (hw : ∀ d ∈ tables_1, d.before a0 Z = true) (ws : List Jvm.Cond) (w_NORMAL : Addr) (w_SUSPENDED : Addr) (w_WARNING : Addr) (w_DELETED : Addr) (w_APPROACHING_DELETION : Addr) (p1 : Int32) (h0 : Heap) (n0 : Nat) (Z0 : n0 ≤ h0.size) (HW : World Z h0 w_NORMAL w_SUSPENDED w_WARNING w_DELETED w_APPROACHING_DELETION) (hk : ((p1 &&& (2147483647 : Int32)) % (5 : Int32)) = (0 : Int32)) :
    MetFree l x (head1 (Jvm.Cond.code x code maxLocals ret :: ws) room_1) (fun a U => a = #[(.int p1)] ∧ Z.Warmed39 U.vm ∧ U.heap = h0) (fun _ _ _ _ _ => True) (fun _ U o U' => ∃ v L, o = .returned v ∧ Q0 h0 n0 v U'.heap L ∧ FrameEnd U o U' L room_1.cells room_1.slots) := by
  refine MetFree.of_bodySF (plainFor_of_name pn6) hisR ?_
  intro p e s m args below meth c s₁ Bd hml0 hP hK
  obtain ⟨rfl, hZ, hh⟩ := hP
  have hx := Bd.exec
  have hby := Bd.bytes
  have hml : c.maxLocals = 4 := hml0
  have hown : s.vm.findClass "com/example/metered_billing/meteredbilling/arrears/StatusCanCreatePinLaw" = some m.cls := findClass_of_methodNamed Bd.named
  have X0 : Stand p l e room_1 s m #[(.int p1)] below meth c s₁ [] 0 0 := Stand.of_body Bd
  have e0 : s₁.heap = h0 := by rw [← hh, Bd.state]; rfl
  have N0 := Fr.nil n0
  have pre0 : ∀ t, Steps p.tables e below (s₁.setTop (mkF m 0 #[.val (.int p1), .unset, .unset, .unset] [])) t → Steps p.tables e below (s₁.setTop (entryFrame m #[(.int p1)] maxLocals)) t := fun t k => castTop (ef19 m p1) k
  obtain ⟨S_w_NORMAL, E_w_NORMAL, S_w_SUSPENDED, E_w_SUSPENDED, S_w_WARNING, E_w_WARNING, S_w_DELETED, E_w_DELETED, S_w_APPROACHING_DELETION, E_w_APPROACHING_DELETION, F_ordinal_w_SUSPENDED, F_ordinal_w_NORMAL, F_ordinal_w_WARNING, F_ordinal_w_DELETED, F_ordinal_w_APPROACHING_DELETION, ne_w_NORMAL_w_SUSPENDED, ne_w_NORMAL_w_WARNING, ne_w_NORMAL_w_DELETED, ne_w_NORMAL_w_APPROACHING_DELETION, ne_w_SUSPENDED_w_WARNING, ne_w_SUSPENDED_w_DELETED, ne_w_SUSPENDED_w_APPROACHING_DELETION, ne_w_WARNING_w_DELETED, ne_w_WARNING_w_APPROACHING_DELETION, ne_w_DELETED_w_APPROACHING_DELETION, -⟩ := id HW
  obtain ⟨_, _, ⟨T1, L1, k1, n1⟩, -, X1, ⟨Lc1, hQ1, l1, y1, z1⟩, st1⟩ := Jvm.LawKit.callS X0 hx (y := (⟨"com/example/metered_billing/meteredbilling/arrears/StatusCanCreatePinLaw", "pick", "(I)Lcom/example/metered_billing/meteredbilling/arrears/Status;"⟩ : MethodName)) hown (mvT hZ (hw _ (List.mem_of_getElem? (i := 1) rfl))) (mvT hZ (hw _ (List.mem_of_getElem? (i := 2) rfl))) (mvT hZ (hw _ (List.mem_of_getElem? (i := 3) rfl))) (mvT hZ (hw _ (List.mem_of_getElem? (i := 4) rfl))) (by decide) (backOf (W := 0) (rm1_0 l Z a0 hw [] w_NORMAL w_SUSPENDED w_WARNING w_DELETED w_APPROACHING_DELETION h0 n0 Z0 HW) hZ (hw _ (List.mem_of_getElem? (i := 4) rfl)) (hw _ (List.mem_of_getElem? (i := 3) rfl)) (by decide) (by decide)) (g := (mkF m 8 #[.val (.int p1), .val (.int (0 : Int32)), .unset, .unset] [(.int (0 : Int32))])) rfl (by rw [hml]; rfl) (argsL := [(.int (0 : Int32))]) (rest := []) (lenOf pd7 rfl) rfl (by show 2 * 0 + _ ≤ _; exact Nat.le_of_eq rfl) (hb hby at_8) (fun _ _ => ⟨rfl, e0, (by decide : 0 + 0 ≤ _), (by decide : 0 + 0 ≤ _)⟩)
  dsimp only [Pt.U, Pt.locs, Pt.cells, Pt.slots] at X1 l1 y1 z1 st1 hQ1
  subst l1 y1 z1
  obtain ⟨rfl, N1q, e1⟩ := hQ1
  have N1 := Fr.app N0 N1q
  obtain ⟨cq2, kq2, q2a, q2b, q2c⟩ := isOf hZ e1 E_w_NORMAL
  obtain ⟨_, _, ⟨T2, L2, k2, n2⟩, -, X2, ⟨Lc2, hQ2, l2, y2, z2⟩, st2⟩ := X1.virtualBack hx (y := (⟨"com/example/metered_billing/meteredbilling/arrears/Status", "canCreate", "()Z"⟩ : MethodName)) (z := (⟨"com/example/metered_billing/meteredbilling/arrears/Status", "canCreate", "()Z"⟩ : MethodName)) hown (mvT hZ (hw _ (List.mem_of_getElem? (i := 8) rfl))) (mvT hZ (hw _ (List.mem_of_getElem? (i := 9) rfl))) (notFace_of_selects (args := #[]) (mvT hZ (hw _ (List.mem_of_getElem? (i := 11) rfl)))) (mvT hZ (hw _ (List.mem_of_getElem? (i := 11) rfl))) (mvT hZ (hw _ (List.mem_of_getElem? (i := 10) rfl))) (by decide) (backOf (W := 0) (rm2_1 l Z a0 hw [] w_NORMAL w_SUSPENDED w_WARNING w_DELETED w_APPROACHING_DELETION h0 n0 Z0 HW) hZ (hw _ (List.mem_of_getElem? (i := 12) rfl)) (hw _ (List.mem_of_getElem? (i := 6) rfl)) (by decide) (by decide)) q2a q2c (g := (mkF m 23 #[.val (.int p1), .val (.int (0 : Int32)), .val (.ref w_NORMAL), .val (.int (1 : Int32))] [(.ref w_NORMAL)])) rfl (by rw [hml]; rfl) (Steps.refl _) (argsL := []) (rest := []) (lenOf pd17 rfl) rfl (by show 2 * 0 + _ ≤ _; exact Nat.le_of_eq rfl) (hb hby at_23) (fun _ _ => ⟨rfl, e1, (by decide : 0 + 0 ≤ _), (by decide : 0 + 0 ≤ _)⟩)
  dsimp only [Pt.U, Pt.locs, Pt.cells, Pt.slots] at X2 l2 y2 z2 st2 hQ2
  subst l2 y2 z2
  obtain ⟨rfl, N2q, e2⟩ := hQ2
  have N2 := Fr.app N1 N2q
  obtain ⟨fs, hr, hrun, hended, hW, hsame⟩ := X2.leave (v := some (.int (1 : Int32))) (fun h => by rw [Bd.returns] at h; cases h)
  refine ⟨_, _, pre0 _ ?_, hrun, hended, _, _, rfl, ?_, ⟨_, rfl⟩, hW, hsame.mono (by decide) (by decide)⟩
  · show Steps p.tables e below (s₁.setTop (mkF m 0 #[.val (.int p1), .unset, .unset, .unset] [])) _
    refine XS.iloadN X0.here hx rfl (hb hby at_0) rfl ?_
    show Steps p.tables e below (s₁.setTop (mkF m 1 #[.val (.int p1), .unset, .unset, .unset] [(.int p1)])) _
    refine X0.ldcInt hx hown (mvT hZ (hw _ (List.mem_of_getElem? (i := 0) rfl))) (g := (mkF m 1 #[.val (.int p1), .unset, .unset, .unset] [(.int p1)])) rfl (hb hby at_1) _ ?_
    show Steps p.tables e below (s₁.setTop (mkF m 3 #[.val (.int p1), .unset, .unset, .unset] [(.int (2147483647 : Int32)), (.int p1)])) _
    refine XS.iand X0.here hx rfl (hb hby at_3) rfl ?_
    show Steps p.tables e below (s₁.setTop (mkF m 4 #[.val (.int p1), .unset, .unset, .unset] [(.int (p1 &&& (2147483647 : Int32)))])) _
    refine XS.iconst X0.here hx rfl (hb hby at_4) ?_
    show Steps p.tables e below (s₁.setTop (mkF m 5 #[.val (.int p1), .unset, .unset, .unset] [(.int (5 : Int32)), (.int (p1 &&& (2147483647 : Int32)))])) _
    refine iremM X0 hx rfl (hb hby at_5) rfl (by decide) ?_
    rw [hk]
    show Steps p.tables e below (s₁.setTop (mkF m 6 #[.val (.int p1), .unset, .unset, .unset] [(.int (0 : Int32))])) _
    refine XS.istoreN X0.here hx rfl (hb hby at_6) rfl (l' := #[.val (.int p1), .val (.int (0 : Int32)), .unset, .unset]) rfl ?_
    show Steps p.tables e below (s₁.setTop (mkF m 7 #[.val (.int p1), .val (.int (0 : Int32)), .unset, .unset] [])) _
    refine XS.iloadN X0.here hx rfl (hb hby at_7) rfl ?_
    show Steps p.tables e below (s₁.setTop (mkF m 8 #[.val (.int p1), .val (.int (0 : Int32)), .unset, .unset] [(.int (0 : Int32))])) _
    refine st1 _ ?_
    show Steps p.tables e below (T1.setTop (mkF m 11 #[.val (.int p1), .val (.int (0 : Int32)), .unset, .unset] [(.ref w_NORMAL)])) _
    refine XS.astoreN X1.here hx rfl (hb hby at_11) rfl rfl (l' := #[.val (.int p1), .val (.int (0 : Int32)), .val (.ref w_NORMAL), .unset]) rfl ?_
    show Steps p.tables e below (T1.setTop (mkF m 12 #[.val (.int p1), .val (.int (0 : Int32)), .val (.ref w_NORMAL), .unset] [])) _
    refine XS.iloadN X1.here hx rfl (hb hby at_12) rfl ?_
    show Steps p.tables e below (T1.setTop (mkF m 13 #[.val (.int p1), .val (.int (0 : Int32)), .val (.ref w_NORMAL), .unset] [(.int (0 : Int32))])) _
    refine XS.ifNo X1.here hx rfl (hb hby at_13) rfl ((if0 _ _).trans (teq (by decide : (0 : Int32) = (0 : Int32))).2) ?_
    show Steps p.tables e below (T1.setTop (mkF m 16 #[.val (.int p1), .val (.int (0 : Int32)), .val (.ref w_NORMAL), .unset] [])) _
    refine XS.iconst X1.here hx rfl (hb hby at_16) ?_
    show Steps p.tables e below (T1.setTop (mkF m 17 #[.val (.int p1), .val (.int (0 : Int32)), .val (.ref w_NORMAL), .unset] [(.int (1 : Int32))])) _
    refine XS.goto X1.here hx rfl (pc0 := 17) (pc' := 21) rfl (hb hby at_17) (by decide) (by decide) ?_
    show Steps p.tables e below (T1.setTop (mkF m 21 #[.val (.int p1), .val (.int (0 : Int32)), .val (.ref w_NORMAL), .unset] [(.int (1 : Int32))])) _
    refine XS.istoreN X1.here hx rfl (hb hby at_21) rfl (l' := #[.val (.int p1), .val (.int (0 : Int32)), .val (.ref w_NORMAL), .val (.int (1 : Int32))]) rfl ?_
    show Steps p.tables e below (T1.setTop (mkF m 22 #[.val (.int p1), .val (.int (0 : Int32)), .val (.ref w_NORMAL), .val (.int (1 : Int32))] [])) _
    refine XS.aloadN X1.here hx rfl (hb hby at_22) rfl rfl ?_
    show Steps p.tables e below (T1.setTop (mkF m 23 #[.val (.int p1), .val (.int (0 : Int32)), .val (.ref w_NORMAL), .val (.int (1 : Int32))] [(.ref w_NORMAL)])) _
    refine st2.trans ?_
    show Steps p.tables e below (T2.setTop (mkF m 26 #[.val (.int p1), .val (.int (0 : Int32)), .val (.ref w_NORMAL), .val (.int (1 : Int32))] [(.int (1 : Int32))])) _
    refine XS.iloadN X2.here hx rfl (hb hby at_26) rfl ?_
    show Steps p.tables e below (T2.setTop (mkF m 27 #[.val (.int p1), .val (.int (0 : Int32)), .val (.ref w_NORMAL), .val (.int (1 : Int32))] [(.int (1 : Int32)), (.int (1 : Int32))])) _
    refine XS.icmpNo X2.here hx rfl (hb hby at_27) rfl (teq (by decide : (1 : Int32) = (1 : Int32))).2 ?_
    show Steps p.tables e below (T2.setTop (mkF m 30 #[.val (.int p1), .val (.int (0 : Int32)), .val (.ref w_NORMAL), .val (.int (1 : Int32))] [])) _
    refine XS.iconst X2.here hx rfl (hb hby at_30) ?_
    show Steps p.tables e below (T2.setTop (mkF m 31 #[.val (.int p1), .val (.int (0 : Int32)), .val (.ref w_NORMAL), .val (.int (1 : Int32))] [(.int (1 : Int32))])) _
    refine XS.goto X2.here hx rfl (pc0 := 31) (pc' := 35) rfl (hb hby at_31) (by decide) (by decide) ?_
    show Steps p.tables e below (T2.setTop (mkF m 35 #[.val (.int p1), .val (.int (0 : Int32)), .val (.ref w_NORMAL), .val (.int (1 : Int32))] [(.int (1 : Int32))])) _
    exact retN X2 hx (t := .boolean) Bd.returns (by simp) (hb hby at_35) hr
  · exact ⟨rfl, N2⟩
theorem d1_8 : decode method_2_code 8 = .ok (.iload_n 0, 1) := by decide +kernel
theorem d1_9 : decode method_2_code 9 = .ok (.iconst 1, 1) := by decide +kernel
theorem d1_10 : decode method_2_code 10 = .ok (.if_icmp .ne 7, 3) := by decide +kernel
theorem d1_13 : decode method_2_code 13 = .ok (.getstatic 13, 3) := by decide +kernel
theorem d1_16 : decode method_2_code 16 = .ok (.areturn, 1) := by decide +kernel
def Q1_3 (Z : State) (w_NORMAL : Addr) (w_SUSPENDED : Addr) (w_WARNING : Addr) (w_DELETED : Addr) (w_APPROACHING_DELETION : Addr) (h0 : Heap) (n0 : Nat) (v : Option Value) (h : Heap) (L : List Loc) : Prop := v = some (.ref w_WARNING) ∧ Fr n0 L ∧ h = h0
set_option maxRecDepth 65536 in
set_option maxHeartbeats 40000000 in
theorem rm1_3 (l : Launch) (Z : State) (a0 : Array Value) (hw : ∀ d ∈ tables_1, d.before a0 Z = true) (ws : List Jvm.Cond) (w_NORMAL : Addr) (w_SUSPENDED : Addr) (w_WARNING : Addr) (w_DELETED : Addr) (w_APPROACHING_DELETION : Addr) (h0 : Heap) (n0 : Nat) (Z0 : n0 ≤ h0.size) (HW : World Z h0 w_NORMAL w_SUSPENDED w_WARNING w_DELETED w_APPROACHING_DELETION) :
    MetFree l (⟨"com/example/metered_billing/meteredbilling/arrears/StatusCanCreatePinLaw", "pick", "(I)Lcom/example/metered_billing/meteredbilling/arrears/Status;"⟩ : MethodName) (head1 (Jvm.Cond.code (⟨"com/example/metered_billing/meteredbilling/arrears/StatusCanCreatePinLaw", "pick", "(I)Lcom/example/metered_billing/meteredbilling/arrears/Status;"⟩ : MethodName) method_2_code 1 (some (.object "com/example/metered_billing/meteredbilling/arrears/Status")) :: ws) ({ frames := 0, cells := 0, slots := 0, locals := 0 } : Room)) (fun a U => a = #[(.int (1 : Int32))] ∧ Z.Warmed39 U.vm ∧ U.heap = h0) (fun _ _ _ _ _ => True) (fun _ U o U' => ∃ v L, o = .returned v ∧ Q1_3 Z w_NORMAL w_SUSPENDED w_WARNING w_DELETED w_APPROACHING_DELETION h0 n0 v U'.heap L ∧ FrameEnd U o U' L ({ frames := 0, cells := 0, slots := 0, locals := 0 } : Room).cells ({ frames := 0, cells := 0, slots := 0, locals := 0 } : Room).slots) := by
  refine MetFree.of_bodySF (plainFor_of_name pn6) hisR ?_
  intro p e s m args below meth c s₁ Bd hml0 hP hK
  obtain ⟨rfl, hZ, hh⟩ := hP
  have hx := Bd.exec
  have hby := Bd.bytes
  have hml : c.maxLocals = 1 := hml0
  have hown : s.vm.findClass "com/example/metered_billing/meteredbilling/arrears/StatusCanCreatePinLaw" = some m.cls := findClass_of_methodNamed Bd.named
  have X0 : Stand p l e ({ frames := 0, cells := 0, slots := 0, locals := 0 } : Room) s m #[(.int (1 : Int32))] below meth c s₁ [] 0 0 := Stand.of_body Bd
  have e0 : s₁.heap = h0 := by rw [← hh, Bd.state]; rfl
  have N0 := Fr.nil n0
  have pre0 : ∀ t, Steps p.tables e below (s₁.setTop (mkF m 0 #[.val (.int (1 : Int32))] [])) t → Steps p.tables e below (s₁.setTop (entryFrame m #[(.int (1 : Int32))] 1)) t := fun t k => castTop (ef5 m (1 : Int32)) k
  obtain ⟨S_w_NORMAL, E_w_NORMAL, S_w_SUSPENDED, E_w_SUSPENDED, S_w_WARNING, E_w_WARNING, S_w_DELETED, E_w_DELETED, S_w_APPROACHING_DELETION, E_w_APPROACHING_DELETION, F_ordinal_w_SUSPENDED, F_ordinal_w_NORMAL, F_ordinal_w_WARNING, F_ordinal_w_DELETED, F_ordinal_w_APPROACHING_DELETION, ne_w_NORMAL_w_SUSPENDED, ne_w_NORMAL_w_WARNING, ne_w_NORMAL_w_DELETED, ne_w_NORMAL_w_APPROACHING_DELETION, ne_w_SUSPENDED_w_WARNING, ne_w_SUSPENDED_w_DELETED, ne_w_SUSPENDED_w_APPROACHING_DELETION, ne_w_WARNING_w_DELETED, ne_w_WARNING_w_APPROACHING_DELETION, ne_w_DELETED_w_APPROACHING_DELETION, -⟩ := id HW
  obtain ⟨T1, X1, e1, st1⟩ := getS2 X0 hx hZ hown (host := "") (Or.inl (hw _ (List.mem_of_getElem? (i := 16) rfl))) Via.refl e0 S_w_WARNING (g := (mkF m 13 #[.val (.int (1 : Int32))] [])) rfl (hb hby d1_13)
  obtain ⟨fs, hr, hrun, hended, hW, hsame⟩ := X1.leave (v := some (.ref w_WARNING)) (fun h => by rw [Bd.returns] at h; cases h)
  refine ⟨_, _, pre0 _ ?_, hrun, hended, _, _, rfl, ?_, ⟨_, rfl⟩, hW, hsame.mono (by decide) (by decide)⟩
  · show Steps p.tables e below (s₁.setTop (mkF m 0 #[.val (.int (1 : Int32))] [])) _
    refine XS.iloadN X0.here hx rfl (hb hby d1_0) rfl ?_
    show Steps p.tables e below (s₁.setTop (mkF m 1 #[.val (.int (1 : Int32))] [(.int (1 : Int32))])) _
    refine XS.ifYes X0.here hx rfl (pc0 := 1) (pc' := 8) rfl (hb hby d1_1) rfl ((if0 _ _).trans (feq (by decide : ¬ ((1 : Int32) = (0 : Int32)))).2) (by decide) (by decide) ?_
    show Steps p.tables e below (s₁.setTop (mkF m 8 #[.val (.int (1 : Int32))] [])) _
    refine XS.iloadN X0.here hx rfl (hb hby d1_8) rfl ?_
    show Steps p.tables e below (s₁.setTop (mkF m 9 #[.val (.int (1 : Int32))] [(.int (1 : Int32))])) _
    refine XS.iconst X0.here hx rfl (hb hby d1_9) ?_
    show Steps p.tables e below (s₁.setTop (mkF m 10 #[.val (.int (1 : Int32))] [(.int (1 : Int32)), (.int (1 : Int32))])) _
    refine XS.icmpNo X0.here hx rfl (hb hby d1_10) rfl (teq (by decide : (1 : Int32) = (1 : Int32))).2 ?_
    show Steps p.tables e below (s₁.setTop (mkF m 13 #[.val (.int (1 : Int32))] [])) _
    refine st1 _ ?_
    show Steps p.tables e below (T1.setTop (mkF m 16 #[.val (.int (1 : Int32))] [(.ref w_WARNING)])) _
    jvm_step X1.here [X1.here.top, hx, (hb hby d1_16), X1.method', Bd.returns, Value.isRef, FieldType.isReference]
    first | (intro acts; rw [hr _ acts rfl rfl rfl]) | rw [hr _ _ rfl rfl rfl]
    exact Steps.refl _
  · exact ⟨rfl, N0, e1⟩
theorem d2_11 : decode prog_6_method_5_code 11 = .ok (.iconst 0, 1) := by decide +kernel
def Q2_4 (Z : State) (w_NORMAL : Addr) (w_SUSPENDED : Addr) (w_WARNING : Addr) (w_DELETED : Addr) (w_APPROACHING_DELETION : Addr) (h0 : Heap) (n0 : Nat) (v : Option Value) (h : Heap) (L : List Loc) : Prop := v = some (.int (0 : Int32)) ∧ Fr n0 L ∧ h = h0
set_option maxRecDepth 65536 in
set_option maxHeartbeats 40000000 in
theorem rm2_4 (l : Launch) (Z : State) (a0 : Array Value) (hw : ∀ d ∈ tables_1, d.before a0 Z = true) (ws : List Jvm.Cond) (w_NORMAL : Addr) (w_SUSPENDED : Addr) (w_WARNING : Addr) (w_DELETED : Addr) (w_APPROACHING_DELETION : Addr) (h0 : Heap) (n0 : Nat) (Z0 : n0 ≤ h0.size) (HW : World Z h0 w_NORMAL w_SUSPENDED w_WARNING w_DELETED w_APPROACHING_DELETION) :
    MetFree l (⟨"com/example/metered_billing/meteredbilling/arrears/Status", "canCreate", "()Z"⟩ : MethodName) (head1 (Jvm.Cond.code (⟨"com/example/metered_billing/meteredbilling/arrears/Status", "canCreate", "()Z"⟩ : MethodName) prog_6_method_5_code 1 (some .boolean) :: ws) ({ frames := 0, cells := 0, slots := 0, locals := 0 } : Room)) (fun a U => a = #[(.ref w_WARNING)] ∧ Z.Warmed39 U.vm ∧ U.heap = h0) (fun _ _ _ _ _ => True) (fun _ U o U' => ∃ v L, o = .returned v ∧ Q2_4 Z w_NORMAL w_SUSPENDED w_WARNING w_DELETED w_APPROACHING_DELETION h0 n0 v U'.heap L ∧ FrameEnd U o U' L ({ frames := 0, cells := 0, slots := 0, locals := 0 } : Room).cells ({ frames := 0, cells := 0, slots := 0, locals := 0 } : Room).slots) := by
  refine MetFree.of_bodySF (plainFor_of_name pn16) hisR ?_
  intro p e s m args below meth c s₁ Bd hml0 hP hK
  obtain ⟨rfl, hZ, hh⟩ := hP
  have hx := Bd.exec
  have hby := Bd.bytes
  have hml : c.maxLocals = 1 := hml0
  have hown : s.vm.findClass "com/example/metered_billing/meteredbilling/arrears/Status" = some m.cls := findClass_of_methodNamed Bd.named
  have X0 : Stand p l e ({ frames := 0, cells := 0, slots := 0, locals := 0 } : Room) s m #[(.ref w_WARNING)] below meth c s₁ [] 0 0 := Stand.of_body Bd
  have e0 : s₁.heap = h0 := by rw [← hh, Bd.state]; rfl
  have N0 := Fr.nil n0
  have pre0 : ∀ t, Steps p.tables e below (s₁.setTop (mkF m 0 #[.val (.ref w_WARNING)] [])) t → Steps p.tables e below (s₁.setTop (entryFrame m #[(.ref w_WARNING)] 1)) t := fun t k => castTop (ef15 m w_WARNING) k
  obtain ⟨S_w_NORMAL, E_w_NORMAL, S_w_SUSPENDED, E_w_SUSPENDED, S_w_WARNING, E_w_WARNING, S_w_DELETED, E_w_DELETED, S_w_APPROACHING_DELETION, E_w_APPROACHING_DELETION, F_ordinal_w_SUSPENDED, F_ordinal_w_NORMAL, F_ordinal_w_WARNING, F_ordinal_w_DELETED, F_ordinal_w_APPROACHING_DELETION, ne_w_NORMAL_w_SUSPENDED, ne_w_NORMAL_w_WARNING, ne_w_NORMAL_w_DELETED, ne_w_NORMAL_w_APPROACHING_DELETION, ne_w_SUSPENDED_w_WARNING, ne_w_SUSPENDED_w_DELETED, ne_w_SUSPENDED_w_APPROACHING_DELETION, ne_w_WARNING_w_DELETED, ne_w_WARNING_w_APPROACHING_DELETION, ne_w_DELETED_w_APPROACHING_DELETION, -⟩ := id HW
  obtain ⟨T1, X1, e1, st1⟩ := getS2 X0 hx hZ hown (host := "") (Or.inl (hw _ (List.mem_of_getElem? (i := 13) rfl))) Via.refl e0 S_w_NORMAL (g := (mkF m 1 #[.val (.ref w_WARNING)] [(.ref w_WARNING)])) rfl (hb hby d2_1)
  obtain ⟨fs, hr, hrun, hended, hW, hsame⟩ := X1.leave (v := some (.int (0 : Int32))) (fun h => by rw [Bd.returns] at h; cases h)
  refine ⟨_, _, pre0 _ ?_, hrun, hended, _, _, rfl, ?_, ⟨_, rfl⟩, hW, hsame.mono (by decide) (by decide)⟩
  · show Steps p.tables e below (s₁.setTop (mkF m 0 #[.val (.ref w_WARNING)] [])) _
    refine XS.aloadN X0.here hx rfl (hb hby d2_0) rfl rfl ?_
    show Steps p.tables e below (s₁.setTop (mkF m 1 #[.val (.ref w_WARNING)] [(.ref w_WARNING)])) _
    refine st1 _ ?_
    show Steps p.tables e below (T1.setTop (mkF m 4 #[.val (.ref w_WARNING)] [(.ref w_NORMAL), (.ref w_WARNING)])) _
    refine Jvm.RoadKit.acmp (g := (mkF m 4 #[.val (.ref w_WARNING)] [(.ref w_NORMAL), (.ref w_WARNING)])) X1 hx rfl rfl rfl (pc0 := 4) (pc' := 11) (same := false) rfl (hb hby d2_4) rfl (decide_eq_false fun q => ne_w_NORMAL_w_WARNING (Value.ref.inj q).symm) (by decide) (by decide) ?_
    show Steps p.tables e below (T1.setTop (mkF m 11 #[.val (.ref w_WARNING)] [])) _
    refine XS.iconst X1.here hx rfl (hb hby d2_11) ?_
    show Steps p.tables e below (T1.setTop (mkF m 12 #[.val (.ref w_WARNING)] [(.int (0 : Int32))])) _
    exact retN X1 hx (t := .boolean) Bd.returns (by simp) (hb hby d2_12) hr
  · exact ⟨rfl, N0, e1⟩
set_option maxRecDepth 65536 in
set_option maxHeartbeats 40000000 in
theorem rm0_c1 (l : Launch) (Z : State) (a0 : Array Value) (hw : ∀ d ∈ tables_1, d.before a0 Z = true) (ws : List Jvm.Cond) (w_NORMAL : Addr) (w_SUSPENDED : Addr) (w_WARNING : Addr) (w_DELETED : Addr) (w_APPROACHING_DELETION : Addr) (p1 : Int32) (h0 : Heap) (n0 : Nat) (Z0 : n0 ≤ h0.size) (HW : World Z h0 w_NORMAL w_SUSPENDED w_WARNING w_DELETED w_APPROACHING_DELETION) (hk : ((p1 &&& (2147483647 : Int32)) % (5 : Int32)) = (1 : Int32)) :
    MetFree l x (head1 (Jvm.Cond.code x code maxLocals ret :: ws) room_1) (fun a U => a = #[(.int p1)] ∧ Z.Warmed39 U.vm ∧ U.heap = h0) (fun _ _ _ _ _ => True) (fun _ U o U' => ∃ v L, o = .returned v ∧ Q0 h0 n0 v U'.heap L ∧ FrameEnd U o U' L room_1.cells room_1.slots) := by
  refine MetFree.of_bodySF (plainFor_of_name pn6) hisR ?_
  intro p e s m args below meth c s₁ Bd hml0 hP hK
  obtain ⟨rfl, hZ, hh⟩ := hP
  have hx := Bd.exec
  have hby := Bd.bytes
  have hml : c.maxLocals = 4 := hml0
  have hown : s.vm.findClass "com/example/metered_billing/meteredbilling/arrears/StatusCanCreatePinLaw" = some m.cls := findClass_of_methodNamed Bd.named
  have X0 : Stand p l e room_1 s m #[(.int p1)] below meth c s₁ [] 0 0 := Stand.of_body Bd
  have e0 : s₁.heap = h0 := by rw [← hh, Bd.state]; rfl
  have N0 := Fr.nil n0
  have pre0 : ∀ t, Steps p.tables e below (s₁.setTop (mkF m 0 #[.val (.int p1), .unset, .unset, .unset] [])) t → Steps p.tables e below (s₁.setTop (entryFrame m #[(.int p1)] maxLocals)) t := fun t k => castTop (ef19 m p1) k
  obtain ⟨S_w_NORMAL, E_w_NORMAL, S_w_SUSPENDED, E_w_SUSPENDED, S_w_WARNING, E_w_WARNING, S_w_DELETED, E_w_DELETED, S_w_APPROACHING_DELETION, E_w_APPROACHING_DELETION, F_ordinal_w_SUSPENDED, F_ordinal_w_NORMAL, F_ordinal_w_WARNING, F_ordinal_w_DELETED, F_ordinal_w_APPROACHING_DELETION, ne_w_NORMAL_w_SUSPENDED, ne_w_NORMAL_w_WARNING, ne_w_NORMAL_w_DELETED, ne_w_NORMAL_w_APPROACHING_DELETION, ne_w_SUSPENDED_w_WARNING, ne_w_SUSPENDED_w_DELETED, ne_w_SUSPENDED_w_APPROACHING_DELETION, ne_w_WARNING_w_DELETED, ne_w_WARNING_w_APPROACHING_DELETION, ne_w_DELETED_w_APPROACHING_DELETION, -⟩ := id HW
  obtain ⟨_, _, ⟨T1, L1, k1, n1⟩, -, X1, ⟨Lc1, hQ1, l1, y1, z1⟩, st1⟩ := Jvm.LawKit.callS X0 hx (y := (⟨"com/example/metered_billing/meteredbilling/arrears/StatusCanCreatePinLaw", "pick", "(I)Lcom/example/metered_billing/meteredbilling/arrears/Status;"⟩ : MethodName)) hown (mvT hZ (hw _ (List.mem_of_getElem? (i := 1) rfl))) (mvT hZ (hw _ (List.mem_of_getElem? (i := 2) rfl))) (mvT hZ (hw _ (List.mem_of_getElem? (i := 3) rfl))) (mvT hZ (hw _ (List.mem_of_getElem? (i := 4) rfl))) (by decide) (backOf (W := 0) (rm1_3 l Z a0 hw [] w_NORMAL w_SUSPENDED w_WARNING w_DELETED w_APPROACHING_DELETION h0 n0 Z0 HW) hZ (hw _ (List.mem_of_getElem? (i := 4) rfl)) (hw _ (List.mem_of_getElem? (i := 3) rfl)) (by decide) (by decide)) (g := (mkF m 8 #[.val (.int p1), .val (.int (1 : Int32)), .unset, .unset] [(.int (1 : Int32))])) rfl (by rw [hml]; rfl) (argsL := [(.int (1 : Int32))]) (rest := []) (lenOf pd7 rfl) rfl (by show 2 * 0 + _ ≤ _; exact Nat.le_of_eq rfl) (hb hby at_8) (fun _ _ => ⟨rfl, e0, (by decide : 0 + 0 ≤ _), (by decide : 0 + 0 ≤ _)⟩)
  dsimp only [Pt.U, Pt.locs, Pt.cells, Pt.slots] at X1 l1 y1 z1 st1 hQ1
  subst l1 y1 z1
  obtain ⟨rfl, N1q, e1⟩ := hQ1
  have N1 := Fr.app N0 N1q
  obtain ⟨cq2, kq2, q2a, q2b, q2c⟩ := isOf hZ e1 E_w_WARNING
  obtain ⟨_, _, ⟨T2, L2, k2, n2⟩, -, X2, ⟨Lc2, hQ2, l2, y2, z2⟩, st2⟩ := X1.virtualBack hx (y := (⟨"com/example/metered_billing/meteredbilling/arrears/Status", "canCreate", "()Z"⟩ : MethodName)) (z := (⟨"com/example/metered_billing/meteredbilling/arrears/Status", "canCreate", "()Z"⟩ : MethodName)) hown (mvT hZ (hw _ (List.mem_of_getElem? (i := 8) rfl))) (mvT hZ (hw _ (List.mem_of_getElem? (i := 9) rfl))) (notFace_of_selects (args := #[]) (mvT hZ (hw _ (List.mem_of_getElem? (i := 11) rfl)))) (mvT hZ (hw _ (List.mem_of_getElem? (i := 11) rfl))) (mvT hZ (hw _ (List.mem_of_getElem? (i := 10) rfl))) (by decide) (backOf (W := 0) (rm2_4 l Z a0 hw [] w_NORMAL w_SUSPENDED w_WARNING w_DELETED w_APPROACHING_DELETION h0 n0 Z0 HW) hZ (hw _ (List.mem_of_getElem? (i := 12) rfl)) (hw _ (List.mem_of_getElem? (i := 6) rfl)) (by decide) (by decide)) q2a q2c (g := (mkF m 23 #[.val (.int p1), .val (.int (1 : Int32)), .val (.ref w_WARNING), .val (.int (0 : Int32))] [(.ref w_WARNING)])) rfl (by rw [hml]; rfl) (Steps.refl _) (argsL := []) (rest := []) (lenOf pd17 rfl) rfl (by show 2 * 0 + _ ≤ _; exact Nat.le_of_eq rfl) (hb hby at_23) (fun _ _ => ⟨rfl, e1, (by decide : 0 + 0 ≤ _), (by decide : 0 + 0 ≤ _)⟩)
  dsimp only [Pt.U, Pt.locs, Pt.cells, Pt.slots] at X2 l2 y2 z2 st2 hQ2
  subst l2 y2 z2
  obtain ⟨rfl, N2q, e2⟩ := hQ2
  have N2 := Fr.app N1 N2q
  obtain ⟨fs, hr, hrun, hended, hW, hsame⟩ := X2.leave (v := some (.int (1 : Int32))) (fun h => by rw [Bd.returns] at h; cases h)
  refine ⟨_, _, pre0 _ ?_, hrun, hended, _, _, rfl, ?_, ⟨_, rfl⟩, hW, hsame.mono (by decide) (by decide)⟩
  · show Steps p.tables e below (s₁.setTop (mkF m 0 #[.val (.int p1), .unset, .unset, .unset] [])) _
    refine XS.iloadN X0.here hx rfl (hb hby at_0) rfl ?_
    show Steps p.tables e below (s₁.setTop (mkF m 1 #[.val (.int p1), .unset, .unset, .unset] [(.int p1)])) _
    refine X0.ldcInt hx hown (mvT hZ (hw _ (List.mem_of_getElem? (i := 0) rfl))) (g := (mkF m 1 #[.val (.int p1), .unset, .unset, .unset] [(.int p1)])) rfl (hb hby at_1) _ ?_
    show Steps p.tables e below (s₁.setTop (mkF m 3 #[.val (.int p1), .unset, .unset, .unset] [(.int (2147483647 : Int32)), (.int p1)])) _
    refine XS.iand X0.here hx rfl (hb hby at_3) rfl ?_
    show Steps p.tables e below (s₁.setTop (mkF m 4 #[.val (.int p1), .unset, .unset, .unset] [(.int (p1 &&& (2147483647 : Int32)))])) _
    refine XS.iconst X0.here hx rfl (hb hby at_4) ?_
    show Steps p.tables e below (s₁.setTop (mkF m 5 #[.val (.int p1), .unset, .unset, .unset] [(.int (5 : Int32)), (.int (p1 &&& (2147483647 : Int32)))])) _
    refine iremM X0 hx rfl (hb hby at_5) rfl (by decide) ?_
    rw [hk]
    show Steps p.tables e below (s₁.setTop (mkF m 6 #[.val (.int p1), .unset, .unset, .unset] [(.int (1 : Int32))])) _
    refine XS.istoreN X0.here hx rfl (hb hby at_6) rfl (l' := #[.val (.int p1), .val (.int (1 : Int32)), .unset, .unset]) rfl ?_
    show Steps p.tables e below (s₁.setTop (mkF m 7 #[.val (.int p1), .val (.int (1 : Int32)), .unset, .unset] [])) _
    refine XS.iloadN X0.here hx rfl (hb hby at_7) rfl ?_
    show Steps p.tables e below (s₁.setTop (mkF m 8 #[.val (.int p1), .val (.int (1 : Int32)), .unset, .unset] [(.int (1 : Int32))])) _
    refine st1 _ ?_
    show Steps p.tables e below (T1.setTop (mkF m 11 #[.val (.int p1), .val (.int (1 : Int32)), .unset, .unset] [(.ref w_WARNING)])) _
    refine XS.astoreN X1.here hx rfl (hb hby at_11) rfl rfl (l' := #[.val (.int p1), .val (.int (1 : Int32)), .val (.ref w_WARNING), .unset]) rfl ?_
    show Steps p.tables e below (T1.setTop (mkF m 12 #[.val (.int p1), .val (.int (1 : Int32)), .val (.ref w_WARNING), .unset] [])) _
    refine XS.iloadN X1.here hx rfl (hb hby at_12) rfl ?_
    show Steps p.tables e below (T1.setTop (mkF m 13 #[.val (.int p1), .val (.int (1 : Int32)), .val (.ref w_WARNING), .unset] [(.int (1 : Int32))])) _
    refine XS.ifYes X1.here hx rfl (pc0 := 13) (pc' := 20) rfl (hb hby at_13) rfl ((if0 _ _).trans (feq (by decide : ¬ ((1 : Int32) = (0 : Int32)))).2) (by decide) (by decide) ?_
    show Steps p.tables e below (T1.setTop (mkF m 20 #[.val (.int p1), .val (.int (1 : Int32)), .val (.ref w_WARNING), .unset] [])) _
    refine XS.iconst X1.here hx rfl (hb hby at_20) ?_
    show Steps p.tables e below (T1.setTop (mkF m 21 #[.val (.int p1), .val (.int (1 : Int32)), .val (.ref w_WARNING), .unset] [(.int (0 : Int32))])) _
    refine XS.istoreN X1.here hx rfl (hb hby at_21) rfl (l' := #[.val (.int p1), .val (.int (1 : Int32)), .val (.ref w_WARNING), .val (.int (0 : Int32))]) rfl ?_
    show Steps p.tables e below (T1.setTop (mkF m 22 #[.val (.int p1), .val (.int (1 : Int32)), .val (.ref w_WARNING), .val (.int (0 : Int32))] [])) _
    refine XS.aloadN X1.here hx rfl (hb hby at_22) rfl rfl ?_
    show Steps p.tables e below (T1.setTop (mkF m 23 #[.val (.int p1), .val (.int (1 : Int32)), .val (.ref w_WARNING), .val (.int (0 : Int32))] [(.ref w_WARNING)])) _
    refine st2.trans ?_
    show Steps p.tables e below (T2.setTop (mkF m 26 #[.val (.int p1), .val (.int (1 : Int32)), .val (.ref w_WARNING), .val (.int (0 : Int32))] [(.int (0 : Int32))])) _
    refine XS.iloadN X2.here hx rfl (hb hby at_26) rfl ?_
    show Steps p.tables e below (T2.setTop (mkF m 27 #[.val (.int p1), .val (.int (1 : Int32)), .val (.ref w_WARNING), .val (.int (0 : Int32))] [(.int (0 : Int32)), (.int (0 : Int32))])) _
    refine XS.icmpNo X2.here hx rfl (hb hby at_27) rfl (teq (by decide : (0 : Int32) = (0 : Int32))).2 ?_
    show Steps p.tables e below (T2.setTop (mkF m 30 #[.val (.int p1), .val (.int (1 : Int32)), .val (.ref w_WARNING), .val (.int (0 : Int32))] [])) _
    refine XS.iconst X2.here hx rfl (hb hby at_30) ?_
    show Steps p.tables e below (T2.setTop (mkF m 31 #[.val (.int p1), .val (.int (1 : Int32)), .val (.ref w_WARNING), .val (.int (0 : Int32))] [(.int (1 : Int32))])) _
    refine XS.goto X2.here hx rfl (pc0 := 31) (pc' := 35) rfl (hb hby at_31) (by decide) (by decide) ?_
    show Steps p.tables e below (T2.setTop (mkF m 35 #[.val (.int p1), .val (.int (1 : Int32)), .val (.ref w_WARNING), .val (.int (0 : Int32))] [(.int (1 : Int32))])) _
    exact retN X2 hx (t := .boolean) Bd.returns (by simp) (hb hby at_35) hr
  · exact ⟨rfl, N2⟩
theorem d1_17 : decode method_2_code 17 = .ok (.iload_n 0, 1) := by decide +kernel
theorem d1_18 : decode method_2_code 18 = .ok (.iconst 2, 1) := by decide +kernel
theorem d1_19 : decode method_2_code 19 = .ok (.if_icmp .ne 7, 3) := by decide +kernel
theorem d1_22 : decode method_2_code 22 = .ok (.getstatic 16, 3) := by decide +kernel
theorem d1_25 : decode method_2_code 25 = .ok (.areturn, 1) := by decide +kernel
def Q1_6 (Z : State) (w_NORMAL : Addr) (w_SUSPENDED : Addr) (w_WARNING : Addr) (w_DELETED : Addr) (w_APPROACHING_DELETION : Addr) (h0 : Heap) (n0 : Nat) (v : Option Value) (h : Heap) (L : List Loc) : Prop := v = some (.ref w_APPROACHING_DELETION) ∧ Fr n0 L ∧ h = h0
set_option maxRecDepth 65536 in
set_option maxHeartbeats 40000000 in
theorem rm1_6 (l : Launch) (Z : State) (a0 : Array Value) (hw : ∀ d ∈ tables_1, d.before a0 Z = true) (ws : List Jvm.Cond) (w_NORMAL : Addr) (w_SUSPENDED : Addr) (w_WARNING : Addr) (w_DELETED : Addr) (w_APPROACHING_DELETION : Addr) (h0 : Heap) (n0 : Nat) (Z0 : n0 ≤ h0.size) (HW : World Z h0 w_NORMAL w_SUSPENDED w_WARNING w_DELETED w_APPROACHING_DELETION) :
    MetFree l (⟨"com/example/metered_billing/meteredbilling/arrears/StatusCanCreatePinLaw", "pick", "(I)Lcom/example/metered_billing/meteredbilling/arrears/Status;"⟩ : MethodName) (head1 (Jvm.Cond.code (⟨"com/example/metered_billing/meteredbilling/arrears/StatusCanCreatePinLaw", "pick", "(I)Lcom/example/metered_billing/meteredbilling/arrears/Status;"⟩ : MethodName) method_2_code 1 (some (.object "com/example/metered_billing/meteredbilling/arrears/Status")) :: ws) ({ frames := 0, cells := 0, slots := 0, locals := 0 } : Room)) (fun a U => a = #[(.int (2 : Int32))] ∧ Z.Warmed39 U.vm ∧ U.heap = h0) (fun _ _ _ _ _ => True) (fun _ U o U' => ∃ v L, o = .returned v ∧ Q1_6 Z w_NORMAL w_SUSPENDED w_WARNING w_DELETED w_APPROACHING_DELETION h0 n0 v U'.heap L ∧ FrameEnd U o U' L ({ frames := 0, cells := 0, slots := 0, locals := 0 } : Room).cells ({ frames := 0, cells := 0, slots := 0, locals := 0 } : Room).slots) := by
  refine MetFree.of_bodySF (plainFor_of_name pn6) hisR ?_
  intro p e s m args below meth c s₁ Bd hml0 hP hK
  obtain ⟨rfl, hZ, hh⟩ := hP
  have hx := Bd.exec
  have hby := Bd.bytes
  have hml : c.maxLocals = 1 := hml0
  have hown : s.vm.findClass "com/example/metered_billing/meteredbilling/arrears/StatusCanCreatePinLaw" = some m.cls := findClass_of_methodNamed Bd.named
  have X0 : Stand p l e ({ frames := 0, cells := 0, slots := 0, locals := 0 } : Room) s m #[(.int (2 : Int32))] below meth c s₁ [] 0 0 := Stand.of_body Bd
  have e0 : s₁.heap = h0 := by rw [← hh, Bd.state]; rfl
  have N0 := Fr.nil n0
  have pre0 : ∀ t, Steps p.tables e below (s₁.setTop (mkF m 0 #[.val (.int (2 : Int32))] [])) t → Steps p.tables e below (s₁.setTop (entryFrame m #[(.int (2 : Int32))] 1)) t := fun t k => castTop (ef5 m (2 : Int32)) k
  obtain ⟨S_w_NORMAL, E_w_NORMAL, S_w_SUSPENDED, E_w_SUSPENDED, S_w_WARNING, E_w_WARNING, S_w_DELETED, E_w_DELETED, S_w_APPROACHING_DELETION, E_w_APPROACHING_DELETION, F_ordinal_w_SUSPENDED, F_ordinal_w_NORMAL, F_ordinal_w_WARNING, F_ordinal_w_DELETED, F_ordinal_w_APPROACHING_DELETION, ne_w_NORMAL_w_SUSPENDED, ne_w_NORMAL_w_WARNING, ne_w_NORMAL_w_DELETED, ne_w_NORMAL_w_APPROACHING_DELETION, ne_w_SUSPENDED_w_WARNING, ne_w_SUSPENDED_w_DELETED, ne_w_SUSPENDED_w_APPROACHING_DELETION, ne_w_WARNING_w_DELETED, ne_w_WARNING_w_APPROACHING_DELETION, ne_w_DELETED_w_APPROACHING_DELETION, -⟩ := id HW
  obtain ⟨T1, X1, e1, st1⟩ := getS2 X0 hx hZ hown (host := "") (Or.inl (hw _ (List.mem_of_getElem? (i := 20) rfl))) Via.refl e0 S_w_APPROACHING_DELETION (g := (mkF m 22 #[.val (.int (2 : Int32))] [])) rfl (hb hby d1_22)
  obtain ⟨fs, hr, hrun, hended, hW, hsame⟩ := X1.leave (v := some (.ref w_APPROACHING_DELETION)) (fun h => by rw [Bd.returns] at h; cases h)
  refine ⟨_, _, pre0 _ ?_, hrun, hended, _, _, rfl, ?_, ⟨_, rfl⟩, hW, hsame.mono (by decide) (by decide)⟩
  · show Steps p.tables e below (s₁.setTop (mkF m 0 #[.val (.int (2 : Int32))] [])) _
    refine XS.iloadN X0.here hx rfl (hb hby d1_0) rfl ?_
    show Steps p.tables e below (s₁.setTop (mkF m 1 #[.val (.int (2 : Int32))] [(.int (2 : Int32))])) _
    refine XS.ifYes X0.here hx rfl (pc0 := 1) (pc' := 8) rfl (hb hby d1_1) rfl ((if0 _ _).trans (feq (by decide : ¬ ((2 : Int32) = (0 : Int32)))).2) (by decide) (by decide) ?_
    show Steps p.tables e below (s₁.setTop (mkF m 8 #[.val (.int (2 : Int32))] [])) _
    refine XS.iloadN X0.here hx rfl (hb hby d1_8) rfl ?_
    show Steps p.tables e below (s₁.setTop (mkF m 9 #[.val (.int (2 : Int32))] [(.int (2 : Int32))])) _
    refine XS.iconst X0.here hx rfl (hb hby d1_9) ?_
    show Steps p.tables e below (s₁.setTop (mkF m 10 #[.val (.int (2 : Int32))] [(.int (1 : Int32)), (.int (2 : Int32))])) _
    refine XS.icmpYes X0.here hx rfl (pc0 := 10) (pc' := 17) rfl (hb hby d1_10) rfl (feq (by decide : ¬ ((2 : Int32) = (1 : Int32)))).2 (by decide) (by decide) ?_
    show Steps p.tables e below (s₁.setTop (mkF m 17 #[.val (.int (2 : Int32))] [])) _
    refine XS.iloadN X0.here hx rfl (hb hby d1_17) rfl ?_
    show Steps p.tables e below (s₁.setTop (mkF m 18 #[.val (.int (2 : Int32))] [(.int (2 : Int32))])) _
    refine XS.iconst X0.here hx rfl (hb hby d1_18) ?_
    show Steps p.tables e below (s₁.setTop (mkF m 19 #[.val (.int (2 : Int32))] [(.int (2 : Int32)), (.int (2 : Int32))])) _
    refine XS.icmpNo X0.here hx rfl (hb hby d1_19) rfl (teq (by decide : (2 : Int32) = (2 : Int32))).2 ?_
    show Steps p.tables e below (s₁.setTop (mkF m 22 #[.val (.int (2 : Int32))] [])) _
    refine st1 _ ?_
    show Steps p.tables e below (T1.setTop (mkF m 25 #[.val (.int (2 : Int32))] [(.ref w_APPROACHING_DELETION)])) _
    jvm_step X1.here [X1.here.top, hx, (hb hby d1_25), X1.method', Bd.returns, Value.isRef, FieldType.isReference]
    first | (intro acts; rw [hr _ acts rfl rfl rfl]) | rw [hr _ _ rfl rfl rfl]
    exact Steps.refl _
  · exact ⟨rfl, N0, e1⟩
def Q2_7 (Z : State) (w_NORMAL : Addr) (w_SUSPENDED : Addr) (w_WARNING : Addr) (w_DELETED : Addr) (w_APPROACHING_DELETION : Addr) (h0 : Heap) (n0 : Nat) (v : Option Value) (h : Heap) (L : List Loc) : Prop := v = some (.int (0 : Int32)) ∧ Fr n0 L ∧ h = h0
set_option maxRecDepth 65536 in
set_option maxHeartbeats 40000000 in
theorem rm2_7 (l : Launch) (Z : State) (a0 : Array Value) (hw : ∀ d ∈ tables_1, d.before a0 Z = true) (ws : List Jvm.Cond) (w_NORMAL : Addr) (w_SUSPENDED : Addr) (w_WARNING : Addr) (w_DELETED : Addr) (w_APPROACHING_DELETION : Addr) (h0 : Heap) (n0 : Nat) (Z0 : n0 ≤ h0.size) (HW : World Z h0 w_NORMAL w_SUSPENDED w_WARNING w_DELETED w_APPROACHING_DELETION) :
    MetFree l (⟨"com/example/metered_billing/meteredbilling/arrears/Status", "canCreate", "()Z"⟩ : MethodName) (head1 (Jvm.Cond.code (⟨"com/example/metered_billing/meteredbilling/arrears/Status", "canCreate", "()Z"⟩ : MethodName) prog_6_method_5_code 1 (some .boolean) :: ws) ({ frames := 0, cells := 0, slots := 0, locals := 0 } : Room)) (fun a U => a = #[(.ref w_APPROACHING_DELETION)] ∧ Z.Warmed39 U.vm ∧ U.heap = h0) (fun _ _ _ _ _ => True) (fun _ U o U' => ∃ v L, o = .returned v ∧ Q2_7 Z w_NORMAL w_SUSPENDED w_WARNING w_DELETED w_APPROACHING_DELETION h0 n0 v U'.heap L ∧ FrameEnd U o U' L ({ frames := 0, cells := 0, slots := 0, locals := 0 } : Room).cells ({ frames := 0, cells := 0, slots := 0, locals := 0 } : Room).slots) := by
  refine MetFree.of_bodySF (plainFor_of_name pn16) hisR ?_
  intro p e s m args below meth c s₁ Bd hml0 hP hK
  obtain ⟨rfl, hZ, hh⟩ := hP
  have hx := Bd.exec
  have hby := Bd.bytes
  have hml : c.maxLocals = 1 := hml0
  have hown : s.vm.findClass "com/example/metered_billing/meteredbilling/arrears/Status" = some m.cls := findClass_of_methodNamed Bd.named
  have X0 : Stand p l e ({ frames := 0, cells := 0, slots := 0, locals := 0 } : Room) s m #[(.ref w_APPROACHING_DELETION)] below meth c s₁ [] 0 0 := Stand.of_body Bd
  have e0 : s₁.heap = h0 := by rw [← hh, Bd.state]; rfl
  have N0 := Fr.nil n0
  have pre0 : ∀ t, Steps p.tables e below (s₁.setTop (mkF m 0 #[.val (.ref w_APPROACHING_DELETION)] [])) t → Steps p.tables e below (s₁.setTop (entryFrame m #[(.ref w_APPROACHING_DELETION)] 1)) t := fun t k => castTop (ef15 m w_APPROACHING_DELETION) k
  obtain ⟨S_w_NORMAL, E_w_NORMAL, S_w_SUSPENDED, E_w_SUSPENDED, S_w_WARNING, E_w_WARNING, S_w_DELETED, E_w_DELETED, S_w_APPROACHING_DELETION, E_w_APPROACHING_DELETION, F_ordinal_w_SUSPENDED, F_ordinal_w_NORMAL, F_ordinal_w_WARNING, F_ordinal_w_DELETED, F_ordinal_w_APPROACHING_DELETION, ne_w_NORMAL_w_SUSPENDED, ne_w_NORMAL_w_WARNING, ne_w_NORMAL_w_DELETED, ne_w_NORMAL_w_APPROACHING_DELETION, ne_w_SUSPENDED_w_WARNING, ne_w_SUSPENDED_w_DELETED, ne_w_SUSPENDED_w_APPROACHING_DELETION, ne_w_WARNING_w_DELETED, ne_w_WARNING_w_APPROACHING_DELETION, ne_w_DELETED_w_APPROACHING_DELETION, -⟩ := id HW
  obtain ⟨T1, X1, e1, st1⟩ := getS2 X0 hx hZ hown (host := "") (Or.inl (hw _ (List.mem_of_getElem? (i := 13) rfl))) Via.refl e0 S_w_NORMAL (g := (mkF m 1 #[.val (.ref w_APPROACHING_DELETION)] [(.ref w_APPROACHING_DELETION)])) rfl (hb hby d2_1)
  obtain ⟨fs, hr, hrun, hended, hW, hsame⟩ := X1.leave (v := some (.int (0 : Int32))) (fun h => by rw [Bd.returns] at h; cases h)
  refine ⟨_, _, pre0 _ ?_, hrun, hended, _, _, rfl, ?_, ⟨_, rfl⟩, hW, hsame.mono (by decide) (by decide)⟩
  · show Steps p.tables e below (s₁.setTop (mkF m 0 #[.val (.ref w_APPROACHING_DELETION)] [])) _
    refine XS.aloadN X0.here hx rfl (hb hby d2_0) rfl rfl ?_
    show Steps p.tables e below (s₁.setTop (mkF m 1 #[.val (.ref w_APPROACHING_DELETION)] [(.ref w_APPROACHING_DELETION)])) _
    refine st1 _ ?_
    show Steps p.tables e below (T1.setTop (mkF m 4 #[.val (.ref w_APPROACHING_DELETION)] [(.ref w_NORMAL), (.ref w_APPROACHING_DELETION)])) _
    refine Jvm.RoadKit.acmp (g := (mkF m 4 #[.val (.ref w_APPROACHING_DELETION)] [(.ref w_NORMAL), (.ref w_APPROACHING_DELETION)])) X1 hx rfl rfl rfl (pc0 := 4) (pc' := 11) (same := false) rfl (hb hby d2_4) rfl (decide_eq_false fun q => ne_w_NORMAL_w_APPROACHING_DELETION (Value.ref.inj q).symm) (by decide) (by decide) ?_
    show Steps p.tables e below (T1.setTop (mkF m 11 #[.val (.ref w_APPROACHING_DELETION)] [])) _
    refine XS.iconst X1.here hx rfl (hb hby d2_11) ?_
    show Steps p.tables e below (T1.setTop (mkF m 12 #[.val (.ref w_APPROACHING_DELETION)] [(.int (0 : Int32))])) _
    exact retN X1 hx (t := .boolean) Bd.returns (by simp) (hb hby d2_12) hr
  · exact ⟨rfl, N0, e1⟩
set_option maxRecDepth 65536 in
set_option maxHeartbeats 40000000 in
theorem rm0_c2 (l : Launch) (Z : State) (a0 : Array Value) (hw : ∀ d ∈ tables_1, d.before a0 Z = true) (ws : List Jvm.Cond) (w_NORMAL : Addr) (w_SUSPENDED : Addr) (w_WARNING : Addr) (w_DELETED : Addr) (w_APPROACHING_DELETION : Addr) (p1 : Int32) (h0 : Heap) (n0 : Nat) (Z0 : n0 ≤ h0.size) (HW : World Z h0 w_NORMAL w_SUSPENDED w_WARNING w_DELETED w_APPROACHING_DELETION) (hk : ((p1 &&& (2147483647 : Int32)) % (5 : Int32)) = (2 : Int32)) :
    MetFree l x (head1 (Jvm.Cond.code x code maxLocals ret :: ws) room_1) (fun a U => a = #[(.int p1)] ∧ Z.Warmed39 U.vm ∧ U.heap = h0) (fun _ _ _ _ _ => True) (fun _ U o U' => ∃ v L, o = .returned v ∧ Q0 h0 n0 v U'.heap L ∧ FrameEnd U o U' L room_1.cells room_1.slots) := by
  refine MetFree.of_bodySF (plainFor_of_name pn6) hisR ?_
  intro p e s m args below meth c s₁ Bd hml0 hP hK
  obtain ⟨rfl, hZ, hh⟩ := hP
  have hx := Bd.exec
  have hby := Bd.bytes
  have hml : c.maxLocals = 4 := hml0
  have hown : s.vm.findClass "com/example/metered_billing/meteredbilling/arrears/StatusCanCreatePinLaw" = some m.cls := findClass_of_methodNamed Bd.named
  have X0 : Stand p l e room_1 s m #[(.int p1)] below meth c s₁ [] 0 0 := Stand.of_body Bd
  have e0 : s₁.heap = h0 := by rw [← hh, Bd.state]; rfl
  have N0 := Fr.nil n0
  have pre0 : ∀ t, Steps p.tables e below (s₁.setTop (mkF m 0 #[.val (.int p1), .unset, .unset, .unset] [])) t → Steps p.tables e below (s₁.setTop (entryFrame m #[(.int p1)] maxLocals)) t := fun t k => castTop (ef19 m p1) k
  obtain ⟨S_w_NORMAL, E_w_NORMAL, S_w_SUSPENDED, E_w_SUSPENDED, S_w_WARNING, E_w_WARNING, S_w_DELETED, E_w_DELETED, S_w_APPROACHING_DELETION, E_w_APPROACHING_DELETION, F_ordinal_w_SUSPENDED, F_ordinal_w_NORMAL, F_ordinal_w_WARNING, F_ordinal_w_DELETED, F_ordinal_w_APPROACHING_DELETION, ne_w_NORMAL_w_SUSPENDED, ne_w_NORMAL_w_WARNING, ne_w_NORMAL_w_DELETED, ne_w_NORMAL_w_APPROACHING_DELETION, ne_w_SUSPENDED_w_WARNING, ne_w_SUSPENDED_w_DELETED, ne_w_SUSPENDED_w_APPROACHING_DELETION, ne_w_WARNING_w_DELETED, ne_w_WARNING_w_APPROACHING_DELETION, ne_w_DELETED_w_APPROACHING_DELETION, -⟩ := id HW
  obtain ⟨_, _, ⟨T1, L1, k1, n1⟩, -, X1, ⟨Lc1, hQ1, l1, y1, z1⟩, st1⟩ := Jvm.LawKit.callS X0 hx (y := (⟨"com/example/metered_billing/meteredbilling/arrears/StatusCanCreatePinLaw", "pick", "(I)Lcom/example/metered_billing/meteredbilling/arrears/Status;"⟩ : MethodName)) hown (mvT hZ (hw _ (List.mem_of_getElem? (i := 1) rfl))) (mvT hZ (hw _ (List.mem_of_getElem? (i := 2) rfl))) (mvT hZ (hw _ (List.mem_of_getElem? (i := 3) rfl))) (mvT hZ (hw _ (List.mem_of_getElem? (i := 4) rfl))) (by decide) (backOf (W := 0) (rm1_6 l Z a0 hw [] w_NORMAL w_SUSPENDED w_WARNING w_DELETED w_APPROACHING_DELETION h0 n0 Z0 HW) hZ (hw _ (List.mem_of_getElem? (i := 4) rfl)) (hw _ (List.mem_of_getElem? (i := 3) rfl)) (by decide) (by decide)) (g := (mkF m 8 #[.val (.int p1), .val (.int (2 : Int32)), .unset, .unset] [(.int (2 : Int32))])) rfl (by rw [hml]; rfl) (argsL := [(.int (2 : Int32))]) (rest := []) (lenOf pd7 rfl) rfl (by show 2 * 0 + _ ≤ _; exact Nat.le_of_eq rfl) (hb hby at_8) (fun _ _ => ⟨rfl, e0, (by decide : 0 + 0 ≤ _), (by decide : 0 + 0 ≤ _)⟩)
  dsimp only [Pt.U, Pt.locs, Pt.cells, Pt.slots] at X1 l1 y1 z1 st1 hQ1
  subst l1 y1 z1
  obtain ⟨rfl, N1q, e1⟩ := hQ1
  have N1 := Fr.app N0 N1q
  obtain ⟨cq2, kq2, q2a, q2b, q2c⟩ := isOf hZ e1 E_w_APPROACHING_DELETION
  obtain ⟨_, _, ⟨T2, L2, k2, n2⟩, -, X2, ⟨Lc2, hQ2, l2, y2, z2⟩, st2⟩ := X1.virtualBack hx (y := (⟨"com/example/metered_billing/meteredbilling/arrears/Status", "canCreate", "()Z"⟩ : MethodName)) (z := (⟨"com/example/metered_billing/meteredbilling/arrears/Status", "canCreate", "()Z"⟩ : MethodName)) hown (mvT hZ (hw _ (List.mem_of_getElem? (i := 8) rfl))) (mvT hZ (hw _ (List.mem_of_getElem? (i := 9) rfl))) (notFace_of_selects (args := #[]) (mvT hZ (hw _ (List.mem_of_getElem? (i := 11) rfl)))) (mvT hZ (hw _ (List.mem_of_getElem? (i := 11) rfl))) (mvT hZ (hw _ (List.mem_of_getElem? (i := 10) rfl))) (by decide) (backOf (W := 0) (rm2_7 l Z a0 hw [] w_NORMAL w_SUSPENDED w_WARNING w_DELETED w_APPROACHING_DELETION h0 n0 Z0 HW) hZ (hw _ (List.mem_of_getElem? (i := 12) rfl)) (hw _ (List.mem_of_getElem? (i := 6) rfl)) (by decide) (by decide)) q2a q2c (g := (mkF m 23 #[.val (.int p1), .val (.int (2 : Int32)), .val (.ref w_APPROACHING_DELETION), .val (.int (0 : Int32))] [(.ref w_APPROACHING_DELETION)])) rfl (by rw [hml]; rfl) (Steps.refl _) (argsL := []) (rest := []) (lenOf pd17 rfl) rfl (by show 2 * 0 + _ ≤ _; exact Nat.le_of_eq rfl) (hb hby at_23) (fun _ _ => ⟨rfl, e1, (by decide : 0 + 0 ≤ _), (by decide : 0 + 0 ≤ _)⟩)
  dsimp only [Pt.U, Pt.locs, Pt.cells, Pt.slots] at X2 l2 y2 z2 st2 hQ2
  subst l2 y2 z2
  obtain ⟨rfl, N2q, e2⟩ := hQ2
  have N2 := Fr.app N1 N2q
  obtain ⟨fs, hr, hrun, hended, hW, hsame⟩ := X2.leave (v := some (.int (1 : Int32))) (fun h => by rw [Bd.returns] at h; cases h)
  refine ⟨_, _, pre0 _ ?_, hrun, hended, _, _, rfl, ?_, ⟨_, rfl⟩, hW, hsame.mono (by decide) (by decide)⟩
  · show Steps p.tables e below (s₁.setTop (mkF m 0 #[.val (.int p1), .unset, .unset, .unset] [])) _
    refine XS.iloadN X0.here hx rfl (hb hby at_0) rfl ?_
    show Steps p.tables e below (s₁.setTop (mkF m 1 #[.val (.int p1), .unset, .unset, .unset] [(.int p1)])) _
    refine X0.ldcInt hx hown (mvT hZ (hw _ (List.mem_of_getElem? (i := 0) rfl))) (g := (mkF m 1 #[.val (.int p1), .unset, .unset, .unset] [(.int p1)])) rfl (hb hby at_1) _ ?_
    show Steps p.tables e below (s₁.setTop (mkF m 3 #[.val (.int p1), .unset, .unset, .unset] [(.int (2147483647 : Int32)), (.int p1)])) _
    refine XS.iand X0.here hx rfl (hb hby at_3) rfl ?_
    show Steps p.tables e below (s₁.setTop (mkF m 4 #[.val (.int p1), .unset, .unset, .unset] [(.int (p1 &&& (2147483647 : Int32)))])) _
    refine XS.iconst X0.here hx rfl (hb hby at_4) ?_
    show Steps p.tables e below (s₁.setTop (mkF m 5 #[.val (.int p1), .unset, .unset, .unset] [(.int (5 : Int32)), (.int (p1 &&& (2147483647 : Int32)))])) _
    refine iremM X0 hx rfl (hb hby at_5) rfl (by decide) ?_
    rw [hk]
    show Steps p.tables e below (s₁.setTop (mkF m 6 #[.val (.int p1), .unset, .unset, .unset] [(.int (2 : Int32))])) _
    refine XS.istoreN X0.here hx rfl (hb hby at_6) rfl (l' := #[.val (.int p1), .val (.int (2 : Int32)), .unset, .unset]) rfl ?_
    show Steps p.tables e below (s₁.setTop (mkF m 7 #[.val (.int p1), .val (.int (2 : Int32)), .unset, .unset] [])) _
    refine XS.iloadN X0.here hx rfl (hb hby at_7) rfl ?_
    show Steps p.tables e below (s₁.setTop (mkF m 8 #[.val (.int p1), .val (.int (2 : Int32)), .unset, .unset] [(.int (2 : Int32))])) _
    refine st1 _ ?_
    show Steps p.tables e below (T1.setTop (mkF m 11 #[.val (.int p1), .val (.int (2 : Int32)), .unset, .unset] [(.ref w_APPROACHING_DELETION)])) _
    refine XS.astoreN X1.here hx rfl (hb hby at_11) rfl rfl (l' := #[.val (.int p1), .val (.int (2 : Int32)), .val (.ref w_APPROACHING_DELETION), .unset]) rfl ?_
    show Steps p.tables e below (T1.setTop (mkF m 12 #[.val (.int p1), .val (.int (2 : Int32)), .val (.ref w_APPROACHING_DELETION), .unset] [])) _
    refine XS.iloadN X1.here hx rfl (hb hby at_12) rfl ?_
    show Steps p.tables e below (T1.setTop (mkF m 13 #[.val (.int p1), .val (.int (2 : Int32)), .val (.ref w_APPROACHING_DELETION), .unset] [(.int (2 : Int32))])) _
    refine XS.ifYes X1.here hx rfl (pc0 := 13) (pc' := 20) rfl (hb hby at_13) rfl ((if0 _ _).trans (feq (by decide : ¬ ((2 : Int32) = (0 : Int32)))).2) (by decide) (by decide) ?_
    show Steps p.tables e below (T1.setTop (mkF m 20 #[.val (.int p1), .val (.int (2 : Int32)), .val (.ref w_APPROACHING_DELETION), .unset] [])) _
    refine XS.iconst X1.here hx rfl (hb hby at_20) ?_
    show Steps p.tables e below (T1.setTop (mkF m 21 #[.val (.int p1), .val (.int (2 : Int32)), .val (.ref w_APPROACHING_DELETION), .unset] [(.int (0 : Int32))])) _
    refine XS.istoreN X1.here hx rfl (hb hby at_21) rfl (l' := #[.val (.int p1), .val (.int (2 : Int32)), .val (.ref w_APPROACHING_DELETION), .val (.int (0 : Int32))]) rfl ?_
    show Steps p.tables e below (T1.setTop (mkF m 22 #[.val (.int p1), .val (.int (2 : Int32)), .val (.ref w_APPROACHING_DELETION), .val (.int (0 : Int32))] [])) _
    refine XS.aloadN X1.here hx rfl (hb hby at_22) rfl rfl ?_
    show Steps p.tables e below (T1.setTop (mkF m 23 #[.val (.int p1), .val (.int (2 : Int32)), .val (.ref w_APPROACHING_DELETION), .val (.int (0 : Int32))] [(.ref w_APPROACHING_DELETION)])) _
    refine st2.trans ?_
    show Steps p.tables e below (T2.setTop (mkF m 26 #[.val (.int p1), .val (.int (2 : Int32)), .val (.ref w_APPROACHING_DELETION), .val (.int (0 : Int32))] [(.int (0 : Int32))])) _
    refine XS.iloadN X2.here hx rfl (hb hby at_26) rfl ?_
    show Steps p.tables e below (T2.setTop (mkF m 27 #[.val (.int p1), .val (.int (2 : Int32)), .val (.ref w_APPROACHING_DELETION), .val (.int (0 : Int32))] [(.int (0 : Int32)), (.int (0 : Int32))])) _
    refine XS.icmpNo X2.here hx rfl (hb hby at_27) rfl (teq (by decide : (0 : Int32) = (0 : Int32))).2 ?_
    show Steps p.tables e below (T2.setTop (mkF m 30 #[.val (.int p1), .val (.int (2 : Int32)), .val (.ref w_APPROACHING_DELETION), .val (.int (0 : Int32))] [])) _
    refine XS.iconst X2.here hx rfl (hb hby at_30) ?_
    show Steps p.tables e below (T2.setTop (mkF m 31 #[.val (.int p1), .val (.int (2 : Int32)), .val (.ref w_APPROACHING_DELETION), .val (.int (0 : Int32))] [(.int (1 : Int32))])) _
    refine XS.goto X2.here hx rfl (pc0 := 31) (pc' := 35) rfl (hb hby at_31) (by decide) (by decide) ?_
    show Steps p.tables e below (T2.setTop (mkF m 35 #[.val (.int p1), .val (.int (2 : Int32)), .val (.ref w_APPROACHING_DELETION), .val (.int (0 : Int32))] [(.int (1 : Int32))])) _
    exact retN X2 hx (t := .boolean) Bd.returns (by simp) (hb hby at_35) hr
  · exact ⟨rfl, N2⟩
theorem d1_26 : decode method_2_code 26 = .ok (.iload_n 0, 1) := by decide +kernel
theorem d1_27 : decode method_2_code 27 = .ok (.iconst 3, 1) := by decide +kernel
theorem d1_28 : decode method_2_code 28 = .ok (.if_icmp .ne 7, 3) := by decide +kernel
theorem d1_31 : decode method_2_code 31 = .ok (.getstatic 19, 3) := by decide +kernel
theorem d1_34 : decode method_2_code 34 = .ok (.areturn, 1) := by decide +kernel
def Q1_9 (Z : State) (w_NORMAL : Addr) (w_SUSPENDED : Addr) (w_WARNING : Addr) (w_DELETED : Addr) (w_APPROACHING_DELETION : Addr) (h0 : Heap) (n0 : Nat) (v : Option Value) (h : Heap) (L : List Loc) : Prop := v = some (.ref w_SUSPENDED) ∧ Fr n0 L ∧ h = h0
set_option maxRecDepth 65536 in
set_option maxHeartbeats 40000000 in
theorem rm1_9 (l : Launch) (Z : State) (a0 : Array Value) (hw : ∀ d ∈ tables_1, d.before a0 Z = true) (ws : List Jvm.Cond) (w_NORMAL : Addr) (w_SUSPENDED : Addr) (w_WARNING : Addr) (w_DELETED : Addr) (w_APPROACHING_DELETION : Addr) (h0 : Heap) (n0 : Nat) (Z0 : n0 ≤ h0.size) (HW : World Z h0 w_NORMAL w_SUSPENDED w_WARNING w_DELETED w_APPROACHING_DELETION) :
    MetFree l (⟨"com/example/metered_billing/meteredbilling/arrears/StatusCanCreatePinLaw", "pick", "(I)Lcom/example/metered_billing/meteredbilling/arrears/Status;"⟩ : MethodName) (head1 (Jvm.Cond.code (⟨"com/example/metered_billing/meteredbilling/arrears/StatusCanCreatePinLaw", "pick", "(I)Lcom/example/metered_billing/meteredbilling/arrears/Status;"⟩ : MethodName) method_2_code 1 (some (.object "com/example/metered_billing/meteredbilling/arrears/Status")) :: ws) ({ frames := 0, cells := 0, slots := 0, locals := 0 } : Room)) (fun a U => a = #[(.int (3 : Int32))] ∧ Z.Warmed39 U.vm ∧ U.heap = h0) (fun _ _ _ _ _ => True) (fun _ U o U' => ∃ v L, o = .returned v ∧ Q1_9 Z w_NORMAL w_SUSPENDED w_WARNING w_DELETED w_APPROACHING_DELETION h0 n0 v U'.heap L ∧ FrameEnd U o U' L ({ frames := 0, cells := 0, slots := 0, locals := 0 } : Room).cells ({ frames := 0, cells := 0, slots := 0, locals := 0 } : Room).slots) := by
  refine MetFree.of_bodySF (plainFor_of_name pn6) hisR ?_
  intro p e s m args below meth c s₁ Bd hml0 hP hK
  obtain ⟨rfl, hZ, hh⟩ := hP
  have hx := Bd.exec
  have hby := Bd.bytes
  have hml : c.maxLocals = 1 := hml0
  have hown : s.vm.findClass "com/example/metered_billing/meteredbilling/arrears/StatusCanCreatePinLaw" = some m.cls := findClass_of_methodNamed Bd.named
  have X0 : Stand p l e ({ frames := 0, cells := 0, slots := 0, locals := 0 } : Room) s m #[(.int (3 : Int32))] below meth c s₁ [] 0 0 := Stand.of_body Bd
  have e0 : s₁.heap = h0 := by rw [← hh, Bd.state]; rfl
  have N0 := Fr.nil n0
  have pre0 : ∀ t, Steps p.tables e below (s₁.setTop (mkF m 0 #[.val (.int (3 : Int32))] [])) t → Steps p.tables e below (s₁.setTop (entryFrame m #[(.int (3 : Int32))] 1)) t := fun t k => castTop (ef5 m (3 : Int32)) k
  obtain ⟨S_w_NORMAL, E_w_NORMAL, S_w_SUSPENDED, E_w_SUSPENDED, S_w_WARNING, E_w_WARNING, S_w_DELETED, E_w_DELETED, S_w_APPROACHING_DELETION, E_w_APPROACHING_DELETION, F_ordinal_w_SUSPENDED, F_ordinal_w_NORMAL, F_ordinal_w_WARNING, F_ordinal_w_DELETED, F_ordinal_w_APPROACHING_DELETION, ne_w_NORMAL_w_SUSPENDED, ne_w_NORMAL_w_WARNING, ne_w_NORMAL_w_DELETED, ne_w_NORMAL_w_APPROACHING_DELETION, ne_w_SUSPENDED_w_WARNING, ne_w_SUSPENDED_w_DELETED, ne_w_SUSPENDED_w_APPROACHING_DELETION, ne_w_WARNING_w_DELETED, ne_w_WARNING_w_APPROACHING_DELETION, ne_w_DELETED_w_APPROACHING_DELETION, -⟩ := id HW
  obtain ⟨T1, X1, e1, st1⟩ := getS2 X0 hx hZ hown (host := "") (Or.inl (hw _ (List.mem_of_getElem? (i := 14) rfl))) Via.refl e0 S_w_SUSPENDED (g := (mkF m 31 #[.val (.int (3 : Int32))] [])) rfl (hb hby d1_31)
  obtain ⟨fs, hr, hrun, hended, hW, hsame⟩ := X1.leave (v := some (.ref w_SUSPENDED)) (fun h => by rw [Bd.returns] at h; cases h)
  refine ⟨_, _, pre0 _ ?_, hrun, hended, _, _, rfl, ?_, ⟨_, rfl⟩, hW, hsame.mono (by decide) (by decide)⟩
  · show Steps p.tables e below (s₁.setTop (mkF m 0 #[.val (.int (3 : Int32))] [])) _
    refine XS.iloadN X0.here hx rfl (hb hby d1_0) rfl ?_
    show Steps p.tables e below (s₁.setTop (mkF m 1 #[.val (.int (3 : Int32))] [(.int (3 : Int32))])) _
    refine XS.ifYes X0.here hx rfl (pc0 := 1) (pc' := 8) rfl (hb hby d1_1) rfl ((if0 _ _).trans (feq (by decide : ¬ ((3 : Int32) = (0 : Int32)))).2) (by decide) (by decide) ?_
    show Steps p.tables e below (s₁.setTop (mkF m 8 #[.val (.int (3 : Int32))] [])) _
    refine XS.iloadN X0.here hx rfl (hb hby d1_8) rfl ?_
    show Steps p.tables e below (s₁.setTop (mkF m 9 #[.val (.int (3 : Int32))] [(.int (3 : Int32))])) _
    refine XS.iconst X0.here hx rfl (hb hby d1_9) ?_
    show Steps p.tables e below (s₁.setTop (mkF m 10 #[.val (.int (3 : Int32))] [(.int (1 : Int32)), (.int (3 : Int32))])) _
    refine XS.icmpYes X0.here hx rfl (pc0 := 10) (pc' := 17) rfl (hb hby d1_10) rfl (feq (by decide : ¬ ((3 : Int32) = (1 : Int32)))).2 (by decide) (by decide) ?_
    show Steps p.tables e below (s₁.setTop (mkF m 17 #[.val (.int (3 : Int32))] [])) _
    refine XS.iloadN X0.here hx rfl (hb hby d1_17) rfl ?_
    show Steps p.tables e below (s₁.setTop (mkF m 18 #[.val (.int (3 : Int32))] [(.int (3 : Int32))])) _
    refine XS.iconst X0.here hx rfl (hb hby d1_18) ?_
    show Steps p.tables e below (s₁.setTop (mkF m 19 #[.val (.int (3 : Int32))] [(.int (2 : Int32)), (.int (3 : Int32))])) _
    refine XS.icmpYes X0.here hx rfl (pc0 := 19) (pc' := 26) rfl (hb hby d1_19) rfl (feq (by decide : ¬ ((3 : Int32) = (2 : Int32)))).2 (by decide) (by decide) ?_
    show Steps p.tables e below (s₁.setTop (mkF m 26 #[.val (.int (3 : Int32))] [])) _
    refine XS.iloadN X0.here hx rfl (hb hby d1_26) rfl ?_
    show Steps p.tables e below (s₁.setTop (mkF m 27 #[.val (.int (3 : Int32))] [(.int (3 : Int32))])) _
    refine XS.iconst X0.here hx rfl (hb hby d1_27) ?_
    show Steps p.tables e below (s₁.setTop (mkF m 28 #[.val (.int (3 : Int32))] [(.int (3 : Int32)), (.int (3 : Int32))])) _
    refine XS.icmpNo X0.here hx rfl (hb hby d1_28) rfl (teq (by decide : (3 : Int32) = (3 : Int32))).2 ?_
    show Steps p.tables e below (s₁.setTop (mkF m 31 #[.val (.int (3 : Int32))] [])) _
    refine st1 _ ?_
    show Steps p.tables e below (T1.setTop (mkF m 34 #[.val (.int (3 : Int32))] [(.ref w_SUSPENDED)])) _
    jvm_step X1.here [X1.here.top, hx, (hb hby d1_34), X1.method', Bd.returns, Value.isRef, FieldType.isReference]
    first | (intro acts; rw [hr _ acts rfl rfl rfl]) | rw [hr _ _ rfl rfl rfl]
    exact Steps.refl _
  · exact ⟨rfl, N0, e1⟩
def Q2_10 (Z : State) (w_NORMAL : Addr) (w_SUSPENDED : Addr) (w_WARNING : Addr) (w_DELETED : Addr) (w_APPROACHING_DELETION : Addr) (h0 : Heap) (n0 : Nat) (v : Option Value) (h : Heap) (L : List Loc) : Prop := v = some (.int (0 : Int32)) ∧ Fr n0 L ∧ h = h0
set_option maxRecDepth 65536 in
set_option maxHeartbeats 40000000 in
theorem rm2_10 (l : Launch) (Z : State) (a0 : Array Value) (hw : ∀ d ∈ tables_1, d.before a0 Z = true) (ws : List Jvm.Cond) (w_NORMAL : Addr) (w_SUSPENDED : Addr) (w_WARNING : Addr) (w_DELETED : Addr) (w_APPROACHING_DELETION : Addr) (h0 : Heap) (n0 : Nat) (Z0 : n0 ≤ h0.size) (HW : World Z h0 w_NORMAL w_SUSPENDED w_WARNING w_DELETED w_APPROACHING_DELETION) :
    MetFree l (⟨"com/example/metered_billing/meteredbilling/arrears/Status", "canCreate", "()Z"⟩ : MethodName) (head1 (Jvm.Cond.code (⟨"com/example/metered_billing/meteredbilling/arrears/Status", "canCreate", "()Z"⟩ : MethodName) prog_6_method_5_code 1 (some .boolean) :: ws) ({ frames := 0, cells := 0, slots := 0, locals := 0 } : Room)) (fun a U => a = #[(.ref w_SUSPENDED)] ∧ Z.Warmed39 U.vm ∧ U.heap = h0) (fun _ _ _ _ _ => True) (fun _ U o U' => ∃ v L, o = .returned v ∧ Q2_10 Z w_NORMAL w_SUSPENDED w_WARNING w_DELETED w_APPROACHING_DELETION h0 n0 v U'.heap L ∧ FrameEnd U o U' L ({ frames := 0, cells := 0, slots := 0, locals := 0 } : Room).cells ({ frames := 0, cells := 0, slots := 0, locals := 0 } : Room).slots) := by
  refine MetFree.of_bodySF (plainFor_of_name pn16) hisR ?_
  intro p e s m args below meth c s₁ Bd hml0 hP hK
  obtain ⟨rfl, hZ, hh⟩ := hP
  have hx := Bd.exec
  have hby := Bd.bytes
  have hml : c.maxLocals = 1 := hml0
  have hown : s.vm.findClass "com/example/metered_billing/meteredbilling/arrears/Status" = some m.cls := findClass_of_methodNamed Bd.named
  have X0 : Stand p l e ({ frames := 0, cells := 0, slots := 0, locals := 0 } : Room) s m #[(.ref w_SUSPENDED)] below meth c s₁ [] 0 0 := Stand.of_body Bd
  have e0 : s₁.heap = h0 := by rw [← hh, Bd.state]; rfl
  have N0 := Fr.nil n0
  have pre0 : ∀ t, Steps p.tables e below (s₁.setTop (mkF m 0 #[.val (.ref w_SUSPENDED)] [])) t → Steps p.tables e below (s₁.setTop (entryFrame m #[(.ref w_SUSPENDED)] 1)) t := fun t k => castTop (ef15 m w_SUSPENDED) k
  obtain ⟨S_w_NORMAL, E_w_NORMAL, S_w_SUSPENDED, E_w_SUSPENDED, S_w_WARNING, E_w_WARNING, S_w_DELETED, E_w_DELETED, S_w_APPROACHING_DELETION, E_w_APPROACHING_DELETION, F_ordinal_w_SUSPENDED, F_ordinal_w_NORMAL, F_ordinal_w_WARNING, F_ordinal_w_DELETED, F_ordinal_w_APPROACHING_DELETION, ne_w_NORMAL_w_SUSPENDED, ne_w_NORMAL_w_WARNING, ne_w_NORMAL_w_DELETED, ne_w_NORMAL_w_APPROACHING_DELETION, ne_w_SUSPENDED_w_WARNING, ne_w_SUSPENDED_w_DELETED, ne_w_SUSPENDED_w_APPROACHING_DELETION, ne_w_WARNING_w_DELETED, ne_w_WARNING_w_APPROACHING_DELETION, ne_w_DELETED_w_APPROACHING_DELETION, -⟩ := id HW
  obtain ⟨T1, X1, e1, st1⟩ := getS2 X0 hx hZ hown (host := "") (Or.inl (hw _ (List.mem_of_getElem? (i := 13) rfl))) Via.refl e0 S_w_NORMAL (g := (mkF m 1 #[.val (.ref w_SUSPENDED)] [(.ref w_SUSPENDED)])) rfl (hb hby d2_1)
  obtain ⟨fs, hr, hrun, hended, hW, hsame⟩ := X1.leave (v := some (.int (0 : Int32))) (fun h => by rw [Bd.returns] at h; cases h)
  refine ⟨_, _, pre0 _ ?_, hrun, hended, _, _, rfl, ?_, ⟨_, rfl⟩, hW, hsame.mono (by decide) (by decide)⟩
  · show Steps p.tables e below (s₁.setTop (mkF m 0 #[.val (.ref w_SUSPENDED)] [])) _
    refine XS.aloadN X0.here hx rfl (hb hby d2_0) rfl rfl ?_
    show Steps p.tables e below (s₁.setTop (mkF m 1 #[.val (.ref w_SUSPENDED)] [(.ref w_SUSPENDED)])) _
    refine st1 _ ?_
    show Steps p.tables e below (T1.setTop (mkF m 4 #[.val (.ref w_SUSPENDED)] [(.ref w_NORMAL), (.ref w_SUSPENDED)])) _
    refine Jvm.RoadKit.acmp (g := (mkF m 4 #[.val (.ref w_SUSPENDED)] [(.ref w_NORMAL), (.ref w_SUSPENDED)])) X1 hx rfl rfl rfl (pc0 := 4) (pc' := 11) (same := false) rfl (hb hby d2_4) rfl (decide_eq_false fun q => ne_w_NORMAL_w_SUSPENDED (Value.ref.inj q).symm) (by decide) (by decide) ?_
    show Steps p.tables e below (T1.setTop (mkF m 11 #[.val (.ref w_SUSPENDED)] [])) _
    refine XS.iconst X1.here hx rfl (hb hby d2_11) ?_
    show Steps p.tables e below (T1.setTop (mkF m 12 #[.val (.ref w_SUSPENDED)] [(.int (0 : Int32))])) _
    exact retN X1 hx (t := .boolean) Bd.returns (by simp) (hb hby d2_12) hr
  · exact ⟨rfl, N0, e1⟩
set_option maxRecDepth 65536 in
set_option maxHeartbeats 40000000 in
theorem rm0_c3 (l : Launch) (Z : State) (a0 : Array Value) (hw : ∀ d ∈ tables_1, d.before a0 Z = true) (ws : List Jvm.Cond) (w_NORMAL : Addr) (w_SUSPENDED : Addr) (w_WARNING : Addr) (w_DELETED : Addr) (w_APPROACHING_DELETION : Addr) (p1 : Int32) (h0 : Heap) (n0 : Nat) (Z0 : n0 ≤ h0.size) (HW : World Z h0 w_NORMAL w_SUSPENDED w_WARNING w_DELETED w_APPROACHING_DELETION) (hk : ((p1 &&& (2147483647 : Int32)) % (5 : Int32)) = (3 : Int32)) :
    MetFree l x (head1 (Jvm.Cond.code x code maxLocals ret :: ws) room_1) (fun a U => a = #[(.int p1)] ∧ Z.Warmed39 U.vm ∧ U.heap = h0) (fun _ _ _ _ _ => True) (fun _ U o U' => ∃ v L, o = .returned v ∧ Q0 h0 n0 v U'.heap L ∧ FrameEnd U o U' L room_1.cells room_1.slots) := by
  refine MetFree.of_bodySF (plainFor_of_name pn6) hisR ?_
  intro p e s m args below meth c s₁ Bd hml0 hP hK
  obtain ⟨rfl, hZ, hh⟩ := hP
  have hx := Bd.exec
  have hby := Bd.bytes
  have hml : c.maxLocals = 4 := hml0
  have hown : s.vm.findClass "com/example/metered_billing/meteredbilling/arrears/StatusCanCreatePinLaw" = some m.cls := findClass_of_methodNamed Bd.named
  have X0 : Stand p l e room_1 s m #[(.int p1)] below meth c s₁ [] 0 0 := Stand.of_body Bd
  have e0 : s₁.heap = h0 := by rw [← hh, Bd.state]; rfl
  have N0 := Fr.nil n0
  have pre0 : ∀ t, Steps p.tables e below (s₁.setTop (mkF m 0 #[.val (.int p1), .unset, .unset, .unset] [])) t → Steps p.tables e below (s₁.setTop (entryFrame m #[(.int p1)] maxLocals)) t := fun t k => castTop (ef19 m p1) k
  obtain ⟨S_w_NORMAL, E_w_NORMAL, S_w_SUSPENDED, E_w_SUSPENDED, S_w_WARNING, E_w_WARNING, S_w_DELETED, E_w_DELETED, S_w_APPROACHING_DELETION, E_w_APPROACHING_DELETION, F_ordinal_w_SUSPENDED, F_ordinal_w_NORMAL, F_ordinal_w_WARNING, F_ordinal_w_DELETED, F_ordinal_w_APPROACHING_DELETION, ne_w_NORMAL_w_SUSPENDED, ne_w_NORMAL_w_WARNING, ne_w_NORMAL_w_DELETED, ne_w_NORMAL_w_APPROACHING_DELETION, ne_w_SUSPENDED_w_WARNING, ne_w_SUSPENDED_w_DELETED, ne_w_SUSPENDED_w_APPROACHING_DELETION, ne_w_WARNING_w_DELETED, ne_w_WARNING_w_APPROACHING_DELETION, ne_w_DELETED_w_APPROACHING_DELETION, -⟩ := id HW
  obtain ⟨_, _, ⟨T1, L1, k1, n1⟩, -, X1, ⟨Lc1, hQ1, l1, y1, z1⟩, st1⟩ := Jvm.LawKit.callS X0 hx (y := (⟨"com/example/metered_billing/meteredbilling/arrears/StatusCanCreatePinLaw", "pick", "(I)Lcom/example/metered_billing/meteredbilling/arrears/Status;"⟩ : MethodName)) hown (mvT hZ (hw _ (List.mem_of_getElem? (i := 1) rfl))) (mvT hZ (hw _ (List.mem_of_getElem? (i := 2) rfl))) (mvT hZ (hw _ (List.mem_of_getElem? (i := 3) rfl))) (mvT hZ (hw _ (List.mem_of_getElem? (i := 4) rfl))) (by decide) (backOf (W := 0) (rm1_9 l Z a0 hw [] w_NORMAL w_SUSPENDED w_WARNING w_DELETED w_APPROACHING_DELETION h0 n0 Z0 HW) hZ (hw _ (List.mem_of_getElem? (i := 4) rfl)) (hw _ (List.mem_of_getElem? (i := 3) rfl)) (by decide) (by decide)) (g := (mkF m 8 #[.val (.int p1), .val (.int (3 : Int32)), .unset, .unset] [(.int (3 : Int32))])) rfl (by rw [hml]; rfl) (argsL := [(.int (3 : Int32))]) (rest := []) (lenOf pd7 rfl) rfl (by show 2 * 0 + _ ≤ _; exact Nat.le_of_eq rfl) (hb hby at_8) (fun _ _ => ⟨rfl, e0, (by decide : 0 + 0 ≤ _), (by decide : 0 + 0 ≤ _)⟩)
  dsimp only [Pt.U, Pt.locs, Pt.cells, Pt.slots] at X1 l1 y1 z1 st1 hQ1
  subst l1 y1 z1
  obtain ⟨rfl, N1q, e1⟩ := hQ1
  have N1 := Fr.app N0 N1q
  obtain ⟨cq2, kq2, q2a, q2b, q2c⟩ := isOf hZ e1 E_w_SUSPENDED
  obtain ⟨_, _, ⟨T2, L2, k2, n2⟩, -, X2, ⟨Lc2, hQ2, l2, y2, z2⟩, st2⟩ := X1.virtualBack hx (y := (⟨"com/example/metered_billing/meteredbilling/arrears/Status", "canCreate", "()Z"⟩ : MethodName)) (z := (⟨"com/example/metered_billing/meteredbilling/arrears/Status", "canCreate", "()Z"⟩ : MethodName)) hown (mvT hZ (hw _ (List.mem_of_getElem? (i := 8) rfl))) (mvT hZ (hw _ (List.mem_of_getElem? (i := 9) rfl))) (notFace_of_selects (args := #[]) (mvT hZ (hw _ (List.mem_of_getElem? (i := 11) rfl)))) (mvT hZ (hw _ (List.mem_of_getElem? (i := 11) rfl))) (mvT hZ (hw _ (List.mem_of_getElem? (i := 10) rfl))) (by decide) (backOf (W := 0) (rm2_10 l Z a0 hw [] w_NORMAL w_SUSPENDED w_WARNING w_DELETED w_APPROACHING_DELETION h0 n0 Z0 HW) hZ (hw _ (List.mem_of_getElem? (i := 12) rfl)) (hw _ (List.mem_of_getElem? (i := 6) rfl)) (by decide) (by decide)) q2a q2c (g := (mkF m 23 #[.val (.int p1), .val (.int (3 : Int32)), .val (.ref w_SUSPENDED), .val (.int (0 : Int32))] [(.ref w_SUSPENDED)])) rfl (by rw [hml]; rfl) (Steps.refl _) (argsL := []) (rest := []) (lenOf pd17 rfl) rfl (by show 2 * 0 + _ ≤ _; exact Nat.le_of_eq rfl) (hb hby at_23) (fun _ _ => ⟨rfl, e1, (by decide : 0 + 0 ≤ _), (by decide : 0 + 0 ≤ _)⟩)
  dsimp only [Pt.U, Pt.locs, Pt.cells, Pt.slots] at X2 l2 y2 z2 st2 hQ2
  subst l2 y2 z2
  obtain ⟨rfl, N2q, e2⟩ := hQ2
  have N2 := Fr.app N1 N2q
  obtain ⟨fs, hr, hrun, hended, hW, hsame⟩ := X2.leave (v := some (.int (1 : Int32))) (fun h => by rw [Bd.returns] at h; cases h)
  refine ⟨_, _, pre0 _ ?_, hrun, hended, _, _, rfl, ?_, ⟨_, rfl⟩, hW, hsame.mono (by decide) (by decide)⟩
  · show Steps p.tables e below (s₁.setTop (mkF m 0 #[.val (.int p1), .unset, .unset, .unset] [])) _
    refine XS.iloadN X0.here hx rfl (hb hby at_0) rfl ?_
    show Steps p.tables e below (s₁.setTop (mkF m 1 #[.val (.int p1), .unset, .unset, .unset] [(.int p1)])) _
    refine X0.ldcInt hx hown (mvT hZ (hw _ (List.mem_of_getElem? (i := 0) rfl))) (g := (mkF m 1 #[.val (.int p1), .unset, .unset, .unset] [(.int p1)])) rfl (hb hby at_1) _ ?_
    show Steps p.tables e below (s₁.setTop (mkF m 3 #[.val (.int p1), .unset, .unset, .unset] [(.int (2147483647 : Int32)), (.int p1)])) _
    refine XS.iand X0.here hx rfl (hb hby at_3) rfl ?_
    show Steps p.tables e below (s₁.setTop (mkF m 4 #[.val (.int p1), .unset, .unset, .unset] [(.int (p1 &&& (2147483647 : Int32)))])) _
    refine XS.iconst X0.here hx rfl (hb hby at_4) ?_
    show Steps p.tables e below (s₁.setTop (mkF m 5 #[.val (.int p1), .unset, .unset, .unset] [(.int (5 : Int32)), (.int (p1 &&& (2147483647 : Int32)))])) _
    refine iremM X0 hx rfl (hb hby at_5) rfl (by decide) ?_
    rw [hk]
    show Steps p.tables e below (s₁.setTop (mkF m 6 #[.val (.int p1), .unset, .unset, .unset] [(.int (3 : Int32))])) _
    refine XS.istoreN X0.here hx rfl (hb hby at_6) rfl (l' := #[.val (.int p1), .val (.int (3 : Int32)), .unset, .unset]) rfl ?_
    show Steps p.tables e below (s₁.setTop (mkF m 7 #[.val (.int p1), .val (.int (3 : Int32)), .unset, .unset] [])) _
    refine XS.iloadN X0.here hx rfl (hb hby at_7) rfl ?_
    show Steps p.tables e below (s₁.setTop (mkF m 8 #[.val (.int p1), .val (.int (3 : Int32)), .unset, .unset] [(.int (3 : Int32))])) _
    refine st1 _ ?_
    show Steps p.tables e below (T1.setTop (mkF m 11 #[.val (.int p1), .val (.int (3 : Int32)), .unset, .unset] [(.ref w_SUSPENDED)])) _
    refine XS.astoreN X1.here hx rfl (hb hby at_11) rfl rfl (l' := #[.val (.int p1), .val (.int (3 : Int32)), .val (.ref w_SUSPENDED), .unset]) rfl ?_
    show Steps p.tables e below (T1.setTop (mkF m 12 #[.val (.int p1), .val (.int (3 : Int32)), .val (.ref w_SUSPENDED), .unset] [])) _
    refine XS.iloadN X1.here hx rfl (hb hby at_12) rfl ?_
    show Steps p.tables e below (T1.setTop (mkF m 13 #[.val (.int p1), .val (.int (3 : Int32)), .val (.ref w_SUSPENDED), .unset] [(.int (3 : Int32))])) _
    refine XS.ifYes X1.here hx rfl (pc0 := 13) (pc' := 20) rfl (hb hby at_13) rfl ((if0 _ _).trans (feq (by decide : ¬ ((3 : Int32) = (0 : Int32)))).2) (by decide) (by decide) ?_
    show Steps p.tables e below (T1.setTop (mkF m 20 #[.val (.int p1), .val (.int (3 : Int32)), .val (.ref w_SUSPENDED), .unset] [])) _
    refine XS.iconst X1.here hx rfl (hb hby at_20) ?_
    show Steps p.tables e below (T1.setTop (mkF m 21 #[.val (.int p1), .val (.int (3 : Int32)), .val (.ref w_SUSPENDED), .unset] [(.int (0 : Int32))])) _
    refine XS.istoreN X1.here hx rfl (hb hby at_21) rfl (l' := #[.val (.int p1), .val (.int (3 : Int32)), .val (.ref w_SUSPENDED), .val (.int (0 : Int32))]) rfl ?_
    show Steps p.tables e below (T1.setTop (mkF m 22 #[.val (.int p1), .val (.int (3 : Int32)), .val (.ref w_SUSPENDED), .val (.int (0 : Int32))] [])) _
    refine XS.aloadN X1.here hx rfl (hb hby at_22) rfl rfl ?_
    show Steps p.tables e below (T1.setTop (mkF m 23 #[.val (.int p1), .val (.int (3 : Int32)), .val (.ref w_SUSPENDED), .val (.int (0 : Int32))] [(.ref w_SUSPENDED)])) _
    refine st2.trans ?_
    show Steps p.tables e below (T2.setTop (mkF m 26 #[.val (.int p1), .val (.int (3 : Int32)), .val (.ref w_SUSPENDED), .val (.int (0 : Int32))] [(.int (0 : Int32))])) _
    refine XS.iloadN X2.here hx rfl (hb hby at_26) rfl ?_
    show Steps p.tables e below (T2.setTop (mkF m 27 #[.val (.int p1), .val (.int (3 : Int32)), .val (.ref w_SUSPENDED), .val (.int (0 : Int32))] [(.int (0 : Int32)), (.int (0 : Int32))])) _
    refine XS.icmpNo X2.here hx rfl (hb hby at_27) rfl (teq (by decide : (0 : Int32) = (0 : Int32))).2 ?_
    show Steps p.tables e below (T2.setTop (mkF m 30 #[.val (.int p1), .val (.int (3 : Int32)), .val (.ref w_SUSPENDED), .val (.int (0 : Int32))] [])) _
    refine XS.iconst X2.here hx rfl (hb hby at_30) ?_
    show Steps p.tables e below (T2.setTop (mkF m 31 #[.val (.int p1), .val (.int (3 : Int32)), .val (.ref w_SUSPENDED), .val (.int (0 : Int32))] [(.int (1 : Int32))])) _
    refine XS.goto X2.here hx rfl (pc0 := 31) (pc' := 35) rfl (hb hby at_31) (by decide) (by decide) ?_
    show Steps p.tables e below (T2.setTop (mkF m 35 #[.val (.int p1), .val (.int (3 : Int32)), .val (.ref w_SUSPENDED), .val (.int (0 : Int32))] [(.int (1 : Int32))])) _
    exact retN X2 hx (t := .boolean) Bd.returns (by simp) (hb hby at_35) hr
  · exact ⟨rfl, N2⟩
theorem d1_35 : decode method_2_code 35 = .ok (.getstatic 22, 3) := by decide +kernel
theorem d1_38 : decode method_2_code 38 = .ok (.areturn, 1) := by decide +kernel
def Q1_12 (Z : State) (w_NORMAL : Addr) (w_SUSPENDED : Addr) (w_WARNING : Addr) (w_DELETED : Addr) (w_APPROACHING_DELETION : Addr) (h0 : Heap) (n0 : Nat) (v : Option Value) (h : Heap) (L : List Loc) : Prop := v = some (.ref w_DELETED) ∧ Fr n0 L ∧ h = h0
set_option maxRecDepth 65536 in
set_option maxHeartbeats 40000000 in
theorem rm1_12 (l : Launch) (Z : State) (a0 : Array Value) (hw : ∀ d ∈ tables_1, d.before a0 Z = true) (ws : List Jvm.Cond) (w_NORMAL : Addr) (w_SUSPENDED : Addr) (w_WARNING : Addr) (w_DELETED : Addr) (w_APPROACHING_DELETION : Addr) (h0 : Heap) (n0 : Nat) (Z0 : n0 ≤ h0.size) (HW : World Z h0 w_NORMAL w_SUSPENDED w_WARNING w_DELETED w_APPROACHING_DELETION) :
    MetFree l (⟨"com/example/metered_billing/meteredbilling/arrears/StatusCanCreatePinLaw", "pick", "(I)Lcom/example/metered_billing/meteredbilling/arrears/Status;"⟩ : MethodName) (head1 (Jvm.Cond.code (⟨"com/example/metered_billing/meteredbilling/arrears/StatusCanCreatePinLaw", "pick", "(I)Lcom/example/metered_billing/meteredbilling/arrears/Status;"⟩ : MethodName) method_2_code 1 (some (.object "com/example/metered_billing/meteredbilling/arrears/Status")) :: ws) ({ frames := 0, cells := 0, slots := 0, locals := 0 } : Room)) (fun a U => a = #[(.int (4 : Int32))] ∧ Z.Warmed39 U.vm ∧ U.heap = h0) (fun _ _ _ _ _ => True) (fun _ U o U' => ∃ v L, o = .returned v ∧ Q1_12 Z w_NORMAL w_SUSPENDED w_WARNING w_DELETED w_APPROACHING_DELETION h0 n0 v U'.heap L ∧ FrameEnd U o U' L ({ frames := 0, cells := 0, slots := 0, locals := 0 } : Room).cells ({ frames := 0, cells := 0, slots := 0, locals := 0 } : Room).slots) := by
  refine MetFree.of_bodySF (plainFor_of_name pn6) hisR ?_
  intro p e s m args below meth c s₁ Bd hml0 hP hK
  obtain ⟨rfl, hZ, hh⟩ := hP
  have hx := Bd.exec
  have hby := Bd.bytes
  have hml : c.maxLocals = 1 := hml0
  have hown : s.vm.findClass "com/example/metered_billing/meteredbilling/arrears/StatusCanCreatePinLaw" = some m.cls := findClass_of_methodNamed Bd.named
  have X0 : Stand p l e ({ frames := 0, cells := 0, slots := 0, locals := 0 } : Room) s m #[(.int (4 : Int32))] below meth c s₁ [] 0 0 := Stand.of_body Bd
  have e0 : s₁.heap = h0 := by rw [← hh, Bd.state]; rfl
  have N0 := Fr.nil n0
  have pre0 : ∀ t, Steps p.tables e below (s₁.setTop (mkF m 0 #[.val (.int (4 : Int32))] [])) t → Steps p.tables e below (s₁.setTop (entryFrame m #[(.int (4 : Int32))] 1)) t := fun t k => castTop (ef5 m (4 : Int32)) k
  obtain ⟨S_w_NORMAL, E_w_NORMAL, S_w_SUSPENDED, E_w_SUSPENDED, S_w_WARNING, E_w_WARNING, S_w_DELETED, E_w_DELETED, S_w_APPROACHING_DELETION, E_w_APPROACHING_DELETION, F_ordinal_w_SUSPENDED, F_ordinal_w_NORMAL, F_ordinal_w_WARNING, F_ordinal_w_DELETED, F_ordinal_w_APPROACHING_DELETION, ne_w_NORMAL_w_SUSPENDED, ne_w_NORMAL_w_WARNING, ne_w_NORMAL_w_DELETED, ne_w_NORMAL_w_APPROACHING_DELETION, ne_w_SUSPENDED_w_WARNING, ne_w_SUSPENDED_w_DELETED, ne_w_SUSPENDED_w_APPROACHING_DELETION, ne_w_WARNING_w_DELETED, ne_w_WARNING_w_APPROACHING_DELETION, ne_w_DELETED_w_APPROACHING_DELETION, -⟩ := id HW
  obtain ⟨T1, X1, e1, st1⟩ := getS2 X0 hx hZ hown (host := "") (Or.inl (hw _ (List.mem_of_getElem? (i := 18) rfl))) Via.refl e0 S_w_DELETED (g := (mkF m 35 #[.val (.int (4 : Int32))] [])) rfl (hb hby d1_35)
  obtain ⟨fs, hr, hrun, hended, hW, hsame⟩ := X1.leave (v := some (.ref w_DELETED)) (fun h => by rw [Bd.returns] at h; cases h)
  refine ⟨_, _, pre0 _ ?_, hrun, hended, _, _, rfl, ?_, ⟨_, rfl⟩, hW, hsame.mono (by decide) (by decide)⟩
  · show Steps p.tables e below (s₁.setTop (mkF m 0 #[.val (.int (4 : Int32))] [])) _
    refine XS.iloadN X0.here hx rfl (hb hby d1_0) rfl ?_
    show Steps p.tables e below (s₁.setTop (mkF m 1 #[.val (.int (4 : Int32))] [(.int (4 : Int32))])) _
    refine XS.ifYes X0.here hx rfl (pc0 := 1) (pc' := 8) rfl (hb hby d1_1) rfl ((if0 _ _).trans (feq (by decide : ¬ ((4 : Int32) = (0 : Int32)))).2) (by decide) (by decide) ?_
    show Steps p.tables e below (s₁.setTop (mkF m 8 #[.val (.int (4 : Int32))] [])) _
    refine XS.iloadN X0.here hx rfl (hb hby d1_8) rfl ?_
    show Steps p.tables e below (s₁.setTop (mkF m 9 #[.val (.int (4 : Int32))] [(.int (4 : Int32))])) _
    refine XS.iconst X0.here hx rfl (hb hby d1_9) ?_
    show Steps p.tables e below (s₁.setTop (mkF m 10 #[.val (.int (4 : Int32))] [(.int (1 : Int32)), (.int (4 : Int32))])) _
    refine XS.icmpYes X0.here hx rfl (pc0 := 10) (pc' := 17) rfl (hb hby d1_10) rfl (feq (by decide : ¬ ((4 : Int32) = (1 : Int32)))).2 (by decide) (by decide) ?_
    show Steps p.tables e below (s₁.setTop (mkF m 17 #[.val (.int (4 : Int32))] [])) _
    refine XS.iloadN X0.here hx rfl (hb hby d1_17) rfl ?_
    show Steps p.tables e below (s₁.setTop (mkF m 18 #[.val (.int (4 : Int32))] [(.int (4 : Int32))])) _
    refine XS.iconst X0.here hx rfl (hb hby d1_18) ?_
    show Steps p.tables e below (s₁.setTop (mkF m 19 #[.val (.int (4 : Int32))] [(.int (2 : Int32)), (.int (4 : Int32))])) _
    refine XS.icmpYes X0.here hx rfl (pc0 := 19) (pc' := 26) rfl (hb hby d1_19) rfl (feq (by decide : ¬ ((4 : Int32) = (2 : Int32)))).2 (by decide) (by decide) ?_
    show Steps p.tables e below (s₁.setTop (mkF m 26 #[.val (.int (4 : Int32))] [])) _
    refine XS.iloadN X0.here hx rfl (hb hby d1_26) rfl ?_
    show Steps p.tables e below (s₁.setTop (mkF m 27 #[.val (.int (4 : Int32))] [(.int (4 : Int32))])) _
    refine XS.iconst X0.here hx rfl (hb hby d1_27) ?_
    show Steps p.tables e below (s₁.setTop (mkF m 28 #[.val (.int (4 : Int32))] [(.int (3 : Int32)), (.int (4 : Int32))])) _
    refine XS.icmpYes X0.here hx rfl (pc0 := 28) (pc' := 35) rfl (hb hby d1_28) rfl (feq (by decide : ¬ ((4 : Int32) = (3 : Int32)))).2 (by decide) (by decide) ?_
    show Steps p.tables e below (s₁.setTop (mkF m 35 #[.val (.int (4 : Int32))] [])) _
    refine st1 _ ?_
    show Steps p.tables e below (T1.setTop (mkF m 38 #[.val (.int (4 : Int32))] [(.ref w_DELETED)])) _
    jvm_step X1.here [X1.here.top, hx, (hb hby d1_38), X1.method', Bd.returns, Value.isRef, FieldType.isReference]
    first | (intro acts; rw [hr _ acts rfl rfl rfl]) | rw [hr _ _ rfl rfl rfl]
    exact Steps.refl _
  · exact ⟨rfl, N0, e1⟩
def Q2_13 (Z : State) (w_NORMAL : Addr) (w_SUSPENDED : Addr) (w_WARNING : Addr) (w_DELETED : Addr) (w_APPROACHING_DELETION : Addr) (h0 : Heap) (n0 : Nat) (v : Option Value) (h : Heap) (L : List Loc) : Prop := v = some (.int (0 : Int32)) ∧ Fr n0 L ∧ h = h0
set_option maxRecDepth 65536 in
set_option maxHeartbeats 40000000 in
theorem rm2_13 (l : Launch) (Z : State) (a0 : Array Value) (hw : ∀ d ∈ tables_1, d.before a0 Z = true) (ws : List Jvm.Cond) (w_NORMAL : Addr) (w_SUSPENDED : Addr) (w_WARNING : Addr) (w_DELETED : Addr) (w_APPROACHING_DELETION : Addr) (h0 : Heap) (n0 : Nat) (Z0 : n0 ≤ h0.size) (HW : World Z h0 w_NORMAL w_SUSPENDED w_WARNING w_DELETED w_APPROACHING_DELETION) :
    MetFree l (⟨"com/example/metered_billing/meteredbilling/arrears/Status", "canCreate", "()Z"⟩ : MethodName) (head1 (Jvm.Cond.code (⟨"com/example/metered_billing/meteredbilling/arrears/Status", "canCreate", "()Z"⟩ : MethodName) prog_6_method_5_code 1 (some .boolean) :: ws) ({ frames := 0, cells := 0, slots := 0, locals := 0 } : Room)) (fun a U => a = #[(.ref w_DELETED)] ∧ Z.Warmed39 U.vm ∧ U.heap = h0) (fun _ _ _ _ _ => True) (fun _ U o U' => ∃ v L, o = .returned v ∧ Q2_13 Z w_NORMAL w_SUSPENDED w_WARNING w_DELETED w_APPROACHING_DELETION h0 n0 v U'.heap L ∧ FrameEnd U o U' L ({ frames := 0, cells := 0, slots := 0, locals := 0 } : Room).cells ({ frames := 0, cells := 0, slots := 0, locals := 0 } : Room).slots) := by
  refine MetFree.of_bodySF (plainFor_of_name pn16) hisR ?_
  intro p e s m args below meth c s₁ Bd hml0 hP hK
  obtain ⟨rfl, hZ, hh⟩ := hP
  have hx := Bd.exec
  have hby := Bd.bytes
  have hml : c.maxLocals = 1 := hml0
  have hown : s.vm.findClass "com/example/metered_billing/meteredbilling/arrears/Status" = some m.cls := findClass_of_methodNamed Bd.named
  have X0 : Stand p l e ({ frames := 0, cells := 0, slots := 0, locals := 0 } : Room) s m #[(.ref w_DELETED)] below meth c s₁ [] 0 0 := Stand.of_body Bd
  have e0 : s₁.heap = h0 := by rw [← hh, Bd.state]; rfl
  have N0 := Fr.nil n0
  have pre0 : ∀ t, Steps p.tables e below (s₁.setTop (mkF m 0 #[.val (.ref w_DELETED)] [])) t → Steps p.tables e below (s₁.setTop (entryFrame m #[(.ref w_DELETED)] 1)) t := fun t k => castTop (ef15 m w_DELETED) k
  obtain ⟨S_w_NORMAL, E_w_NORMAL, S_w_SUSPENDED, E_w_SUSPENDED, S_w_WARNING, E_w_WARNING, S_w_DELETED, E_w_DELETED, S_w_APPROACHING_DELETION, E_w_APPROACHING_DELETION, F_ordinal_w_SUSPENDED, F_ordinal_w_NORMAL, F_ordinal_w_WARNING, F_ordinal_w_DELETED, F_ordinal_w_APPROACHING_DELETION, ne_w_NORMAL_w_SUSPENDED, ne_w_NORMAL_w_WARNING, ne_w_NORMAL_w_DELETED, ne_w_NORMAL_w_APPROACHING_DELETION, ne_w_SUSPENDED_w_WARNING, ne_w_SUSPENDED_w_DELETED, ne_w_SUSPENDED_w_APPROACHING_DELETION, ne_w_WARNING_w_DELETED, ne_w_WARNING_w_APPROACHING_DELETION, ne_w_DELETED_w_APPROACHING_DELETION, -⟩ := id HW
  obtain ⟨T1, X1, e1, st1⟩ := getS2 X0 hx hZ hown (host := "") (Or.inl (hw _ (List.mem_of_getElem? (i := 13) rfl))) Via.refl e0 S_w_NORMAL (g := (mkF m 1 #[.val (.ref w_DELETED)] [(.ref w_DELETED)])) rfl (hb hby d2_1)
  obtain ⟨fs, hr, hrun, hended, hW, hsame⟩ := X1.leave (v := some (.int (0 : Int32))) (fun h => by rw [Bd.returns] at h; cases h)
  refine ⟨_, _, pre0 _ ?_, hrun, hended, _, _, rfl, ?_, ⟨_, rfl⟩, hW, hsame.mono (by decide) (by decide)⟩
  · show Steps p.tables e below (s₁.setTop (mkF m 0 #[.val (.ref w_DELETED)] [])) _
    refine XS.aloadN X0.here hx rfl (hb hby d2_0) rfl rfl ?_
    show Steps p.tables e below (s₁.setTop (mkF m 1 #[.val (.ref w_DELETED)] [(.ref w_DELETED)])) _
    refine st1 _ ?_
    show Steps p.tables e below (T1.setTop (mkF m 4 #[.val (.ref w_DELETED)] [(.ref w_NORMAL), (.ref w_DELETED)])) _
    refine Jvm.RoadKit.acmp (g := (mkF m 4 #[.val (.ref w_DELETED)] [(.ref w_NORMAL), (.ref w_DELETED)])) X1 hx rfl rfl rfl (pc0 := 4) (pc' := 11) (same := false) rfl (hb hby d2_4) rfl (decide_eq_false fun q => ne_w_NORMAL_w_DELETED (Value.ref.inj q).symm) (by decide) (by decide) ?_
    show Steps p.tables e below (T1.setTop (mkF m 11 #[.val (.ref w_DELETED)] [])) _
    refine XS.iconst X1.here hx rfl (hb hby d2_11) ?_
    show Steps p.tables e below (T1.setTop (mkF m 12 #[.val (.ref w_DELETED)] [(.int (0 : Int32))])) _
    exact retN X1 hx (t := .boolean) Bd.returns (by simp) (hb hby d2_12) hr
  · exact ⟨rfl, N0, e1⟩
set_option maxRecDepth 65536 in
set_option maxHeartbeats 40000000 in
theorem rm0_c4 (l : Launch) (Z : State) (a0 : Array Value) (hw : ∀ d ∈ tables_1, d.before a0 Z = true) (ws : List Jvm.Cond) (w_NORMAL : Addr) (w_SUSPENDED : Addr) (w_WARNING : Addr) (w_DELETED : Addr) (w_APPROACHING_DELETION : Addr) (p1 : Int32) (h0 : Heap) (n0 : Nat) (Z0 : n0 ≤ h0.size) (HW : World Z h0 w_NORMAL w_SUSPENDED w_WARNING w_DELETED w_APPROACHING_DELETION) (hk : ((p1 &&& (2147483647 : Int32)) % (5 : Int32)) = (4 : Int32)) :
    MetFree l x (head1 (Jvm.Cond.code x code maxLocals ret :: ws) room_1) (fun a U => a = #[(.int p1)] ∧ Z.Warmed39 U.vm ∧ U.heap = h0) (fun _ _ _ _ _ => True) (fun _ U o U' => ∃ v L, o = .returned v ∧ Q0 h0 n0 v U'.heap L ∧ FrameEnd U o U' L room_1.cells room_1.slots) := by
  refine MetFree.of_bodySF (plainFor_of_name pn6) hisR ?_
  intro p e s m args below meth c s₁ Bd hml0 hP hK
  obtain ⟨rfl, hZ, hh⟩ := hP
  have hx := Bd.exec
  have hby := Bd.bytes
  have hml : c.maxLocals = 4 := hml0
  have hown : s.vm.findClass "com/example/metered_billing/meteredbilling/arrears/StatusCanCreatePinLaw" = some m.cls := findClass_of_methodNamed Bd.named
  have X0 : Stand p l e room_1 s m #[(.int p1)] below meth c s₁ [] 0 0 := Stand.of_body Bd
  have e0 : s₁.heap = h0 := by rw [← hh, Bd.state]; rfl
  have N0 := Fr.nil n0
  have pre0 : ∀ t, Steps p.tables e below (s₁.setTop (mkF m 0 #[.val (.int p1), .unset, .unset, .unset] [])) t → Steps p.tables e below (s₁.setTop (entryFrame m #[(.int p1)] maxLocals)) t := fun t k => castTop (ef19 m p1) k
  obtain ⟨S_w_NORMAL, E_w_NORMAL, S_w_SUSPENDED, E_w_SUSPENDED, S_w_WARNING, E_w_WARNING, S_w_DELETED, E_w_DELETED, S_w_APPROACHING_DELETION, E_w_APPROACHING_DELETION, F_ordinal_w_SUSPENDED, F_ordinal_w_NORMAL, F_ordinal_w_WARNING, F_ordinal_w_DELETED, F_ordinal_w_APPROACHING_DELETION, ne_w_NORMAL_w_SUSPENDED, ne_w_NORMAL_w_WARNING, ne_w_NORMAL_w_DELETED, ne_w_NORMAL_w_APPROACHING_DELETION, ne_w_SUSPENDED_w_WARNING, ne_w_SUSPENDED_w_DELETED, ne_w_SUSPENDED_w_APPROACHING_DELETION, ne_w_WARNING_w_DELETED, ne_w_WARNING_w_APPROACHING_DELETION, ne_w_DELETED_w_APPROACHING_DELETION, -⟩ := id HW
  obtain ⟨_, _, ⟨T1, L1, k1, n1⟩, -, X1, ⟨Lc1, hQ1, l1, y1, z1⟩, st1⟩ := Jvm.LawKit.callS X0 hx (y := (⟨"com/example/metered_billing/meteredbilling/arrears/StatusCanCreatePinLaw", "pick", "(I)Lcom/example/metered_billing/meteredbilling/arrears/Status;"⟩ : MethodName)) hown (mvT hZ (hw _ (List.mem_of_getElem? (i := 1) rfl))) (mvT hZ (hw _ (List.mem_of_getElem? (i := 2) rfl))) (mvT hZ (hw _ (List.mem_of_getElem? (i := 3) rfl))) (mvT hZ (hw _ (List.mem_of_getElem? (i := 4) rfl))) (by decide) (backOf (W := 0) (rm1_12 l Z a0 hw [] w_NORMAL w_SUSPENDED w_WARNING w_DELETED w_APPROACHING_DELETION h0 n0 Z0 HW) hZ (hw _ (List.mem_of_getElem? (i := 4) rfl)) (hw _ (List.mem_of_getElem? (i := 3) rfl)) (by decide) (by decide)) (g := (mkF m 8 #[.val (.int p1), .val (.int (4 : Int32)), .unset, .unset] [(.int (4 : Int32))])) rfl (by rw [hml]; rfl) (argsL := [(.int (4 : Int32))]) (rest := []) (lenOf pd7 rfl) rfl (by show 2 * 0 + _ ≤ _; exact Nat.le_of_eq rfl) (hb hby at_8) (fun _ _ => ⟨rfl, e0, (by decide : 0 + 0 ≤ _), (by decide : 0 + 0 ≤ _)⟩)
  dsimp only [Pt.U, Pt.locs, Pt.cells, Pt.slots] at X1 l1 y1 z1 st1 hQ1
  subst l1 y1 z1
  obtain ⟨rfl, N1q, e1⟩ := hQ1
  have N1 := Fr.app N0 N1q
  obtain ⟨cq2, kq2, q2a, q2b, q2c⟩ := isOf hZ e1 E_w_DELETED
  obtain ⟨_, _, ⟨T2, L2, k2, n2⟩, -, X2, ⟨Lc2, hQ2, l2, y2, z2⟩, st2⟩ := X1.virtualBack hx (y := (⟨"com/example/metered_billing/meteredbilling/arrears/Status", "canCreate", "()Z"⟩ : MethodName)) (z := (⟨"com/example/metered_billing/meteredbilling/arrears/Status", "canCreate", "()Z"⟩ : MethodName)) hown (mvT hZ (hw _ (List.mem_of_getElem? (i := 8) rfl))) (mvT hZ (hw _ (List.mem_of_getElem? (i := 9) rfl))) (notFace_of_selects (args := #[]) (mvT hZ (hw _ (List.mem_of_getElem? (i := 11) rfl)))) (mvT hZ (hw _ (List.mem_of_getElem? (i := 11) rfl))) (mvT hZ (hw _ (List.mem_of_getElem? (i := 10) rfl))) (by decide) (backOf (W := 0) (rm2_13 l Z a0 hw [] w_NORMAL w_SUSPENDED w_WARNING w_DELETED w_APPROACHING_DELETION h0 n0 Z0 HW) hZ (hw _ (List.mem_of_getElem? (i := 12) rfl)) (hw _ (List.mem_of_getElem? (i := 6) rfl)) (by decide) (by decide)) q2a q2c (g := (mkF m 23 #[.val (.int p1), .val (.int (4 : Int32)), .val (.ref w_DELETED), .val (.int (0 : Int32))] [(.ref w_DELETED)])) rfl (by rw [hml]; rfl) (Steps.refl _) (argsL := []) (rest := []) (lenOf pd17 rfl) rfl (by show 2 * 0 + _ ≤ _; exact Nat.le_of_eq rfl) (hb hby at_23) (fun _ _ => ⟨rfl, e1, (by decide : 0 + 0 ≤ _), (by decide : 0 + 0 ≤ _)⟩)
  dsimp only [Pt.U, Pt.locs, Pt.cells, Pt.slots] at X2 l2 y2 z2 st2 hQ2
  subst l2 y2 z2
  obtain ⟨rfl, N2q, e2⟩ := hQ2
  have N2 := Fr.app N1 N2q
  obtain ⟨fs, hr, hrun, hended, hW, hsame⟩ := X2.leave (v := some (.int (1 : Int32))) (fun h => by rw [Bd.returns] at h; cases h)
  refine ⟨_, _, pre0 _ ?_, hrun, hended, _, _, rfl, ?_, ⟨_, rfl⟩, hW, hsame.mono (by decide) (by decide)⟩
  · show Steps p.tables e below (s₁.setTop (mkF m 0 #[.val (.int p1), .unset, .unset, .unset] [])) _
    refine XS.iloadN X0.here hx rfl (hb hby at_0) rfl ?_
    show Steps p.tables e below (s₁.setTop (mkF m 1 #[.val (.int p1), .unset, .unset, .unset] [(.int p1)])) _
    refine X0.ldcInt hx hown (mvT hZ (hw _ (List.mem_of_getElem? (i := 0) rfl))) (g := (mkF m 1 #[.val (.int p1), .unset, .unset, .unset] [(.int p1)])) rfl (hb hby at_1) _ ?_
    show Steps p.tables e below (s₁.setTop (mkF m 3 #[.val (.int p1), .unset, .unset, .unset] [(.int (2147483647 : Int32)), (.int p1)])) _
    refine XS.iand X0.here hx rfl (hb hby at_3) rfl ?_
    show Steps p.tables e below (s₁.setTop (mkF m 4 #[.val (.int p1), .unset, .unset, .unset] [(.int (p1 &&& (2147483647 : Int32)))])) _
    refine XS.iconst X0.here hx rfl (hb hby at_4) ?_
    show Steps p.tables e below (s₁.setTop (mkF m 5 #[.val (.int p1), .unset, .unset, .unset] [(.int (5 : Int32)), (.int (p1 &&& (2147483647 : Int32)))])) _
    refine iremM X0 hx rfl (hb hby at_5) rfl (by decide) ?_
    rw [hk]
    show Steps p.tables e below (s₁.setTop (mkF m 6 #[.val (.int p1), .unset, .unset, .unset] [(.int (4 : Int32))])) _
    refine XS.istoreN X0.here hx rfl (hb hby at_6) rfl (l' := #[.val (.int p1), .val (.int (4 : Int32)), .unset, .unset]) rfl ?_
    show Steps p.tables e below (s₁.setTop (mkF m 7 #[.val (.int p1), .val (.int (4 : Int32)), .unset, .unset] [])) _
    refine XS.iloadN X0.here hx rfl (hb hby at_7) rfl ?_
    show Steps p.tables e below (s₁.setTop (mkF m 8 #[.val (.int p1), .val (.int (4 : Int32)), .unset, .unset] [(.int (4 : Int32))])) _
    refine st1 _ ?_
    show Steps p.tables e below (T1.setTop (mkF m 11 #[.val (.int p1), .val (.int (4 : Int32)), .unset, .unset] [(.ref w_DELETED)])) _
    refine XS.astoreN X1.here hx rfl (hb hby at_11) rfl rfl (l' := #[.val (.int p1), .val (.int (4 : Int32)), .val (.ref w_DELETED), .unset]) rfl ?_
    show Steps p.tables e below (T1.setTop (mkF m 12 #[.val (.int p1), .val (.int (4 : Int32)), .val (.ref w_DELETED), .unset] [])) _
    refine XS.iloadN X1.here hx rfl (hb hby at_12) rfl ?_
    show Steps p.tables e below (T1.setTop (mkF m 13 #[.val (.int p1), .val (.int (4 : Int32)), .val (.ref w_DELETED), .unset] [(.int (4 : Int32))])) _
    refine XS.ifYes X1.here hx rfl (pc0 := 13) (pc' := 20) rfl (hb hby at_13) rfl ((if0 _ _).trans (feq (by decide : ¬ ((4 : Int32) = (0 : Int32)))).2) (by decide) (by decide) ?_
    show Steps p.tables e below (T1.setTop (mkF m 20 #[.val (.int p1), .val (.int (4 : Int32)), .val (.ref w_DELETED), .unset] [])) _
    refine XS.iconst X1.here hx rfl (hb hby at_20) ?_
    show Steps p.tables e below (T1.setTop (mkF m 21 #[.val (.int p1), .val (.int (4 : Int32)), .val (.ref w_DELETED), .unset] [(.int (0 : Int32))])) _
    refine XS.istoreN X1.here hx rfl (hb hby at_21) rfl (l' := #[.val (.int p1), .val (.int (4 : Int32)), .val (.ref w_DELETED), .val (.int (0 : Int32))]) rfl ?_
    show Steps p.tables e below (T1.setTop (mkF m 22 #[.val (.int p1), .val (.int (4 : Int32)), .val (.ref w_DELETED), .val (.int (0 : Int32))] [])) _
    refine XS.aloadN X1.here hx rfl (hb hby at_22) rfl rfl ?_
    show Steps p.tables e below (T1.setTop (mkF m 23 #[.val (.int p1), .val (.int (4 : Int32)), .val (.ref w_DELETED), .val (.int (0 : Int32))] [(.ref w_DELETED)])) _
    refine st2.trans ?_
    show Steps p.tables e below (T2.setTop (mkF m 26 #[.val (.int p1), .val (.int (4 : Int32)), .val (.ref w_DELETED), .val (.int (0 : Int32))] [(.int (0 : Int32))])) _
    refine XS.iloadN X2.here hx rfl (hb hby at_26) rfl ?_
    show Steps p.tables e below (T2.setTop (mkF m 27 #[.val (.int p1), .val (.int (4 : Int32)), .val (.ref w_DELETED), .val (.int (0 : Int32))] [(.int (0 : Int32)), (.int (0 : Int32))])) _
    refine XS.icmpNo X2.here hx rfl (hb hby at_27) rfl (teq (by decide : (0 : Int32) = (0 : Int32))).2 ?_
    show Steps p.tables e below (T2.setTop (mkF m 30 #[.val (.int p1), .val (.int (4 : Int32)), .val (.ref w_DELETED), .val (.int (0 : Int32))] [])) _
    refine XS.iconst X2.here hx rfl (hb hby at_30) ?_
    show Steps p.tables e below (T2.setTop (mkF m 31 #[.val (.int p1), .val (.int (4 : Int32)), .val (.ref w_DELETED), .val (.int (0 : Int32))] [(.int (1 : Int32))])) _
    refine XS.goto X2.here hx rfl (pc0 := 31) (pc' := 35) rfl (hb hby at_31) (by decide) (by decide) ?_
    show Steps p.tables e below (T2.setTop (mkF m 35 #[.val (.int p1), .val (.int (4 : Int32)), .val (.ref w_DELETED), .val (.int (0 : Int32))] [(.int (1 : Int32))])) _
    exact retN X2 hx (t := .boolean) Bd.returns (by simp) (hb hby at_35) hr
  · exact ⟨rfl, N2⟩
theorem rm0_all (l : Launch) (Z : State) (a0 : Array Value) (hw : ∀ d ∈ tables_1, d.before a0 Z = true) (ws : List Jvm.Cond) (w_NORMAL : Addr) (w_SUSPENDED : Addr) (w_WARNING : Addr) (w_DELETED : Addr) (w_APPROACHING_DELETION : Addr) (p1 : Int32) (h0 : Heap) (n0 : Nat) (Z0 : n0 ≤ h0.size) (HW : World Z h0 w_NORMAL w_SUSPENDED w_WARNING w_DELETED w_APPROACHING_DELETION) :
    MetFree l x (head1 (Jvm.Cond.code x code maxLocals ret :: ws) room_1) (fun a U => a = #[(.int p1)] ∧ Z.Warmed39 U.vm ∧ U.heap = h0) (fun _ _ _ _ _ => True) (fun _ U o U' => ∃ v L, o = .returned v ∧ Q0 h0 n0 v U'.heap L ∧ FrameEnd U o U' L room_1.cells room_1.slots) := by
  rcases own_rem p1 with hk | hk | hk | hk | hk
  · skip
    exact rm0_c0 l Z a0 hw ws w_NORMAL w_SUSPENDED w_WARNING w_DELETED w_APPROACHING_DELETION p1 h0 n0 Z0 HW hk
  · skip
    exact rm0_c1 l Z a0 hw ws w_NORMAL w_SUSPENDED w_WARNING w_DELETED w_APPROACHING_DELETION p1 h0 n0 Z0 HW hk
  · skip
    exact rm0_c2 l Z a0 hw ws w_NORMAL w_SUSPENDED w_WARNING w_DELETED w_APPROACHING_DELETION p1 h0 n0 Z0 HW hk
  · skip
    exact rm0_c3 l Z a0 hw ws w_NORMAL w_SUSPENDED w_WARNING w_DELETED w_APPROACHING_DELETION p1 h0 n0 Z0 HW hk
  · skip
    exact rm0_c4 l Z a0 hw ws w_NORMAL w_SUSPENDED w_WARNING w_DELETED w_APPROACHING_DELETION p1 h0 n0 Z0 HW hk
set_option maxRecDepth 65536 in
set_option maxHeartbeats 40000000 in
theorem comes_1 {Post : Tables → Env → Array Value → State → Outcome → State → Prop} (hpost : ∀ tb e args s v u, (limb_1_1.after args s (.returned v) u = true ∧ limb_1_2.after args s (.returned v) u = true ∧ True) → FrameEnd s (.returned v) u (Jvm.fieldLocs frame_1_writes args s ++ Jvm.arrayLocs frame_1_arrays args s ++ Jvm.staticLocs frame_1_statics s) 0 0 → Post tb e args s (.returned v) u) :
    ArmFor flags0 classFile x code maxLocals ret World_1 tables_1 room_1 Calls_1 rest_1 Pre_1 Post := by
  intro l hfl _ _ p e ha hc hk s m args below hf hA hF happ hP
  obtain ⟨hcalls, hrest, hpre⟩ := hP
  obtain ⟨-, -, -, hnamed, -, -, -, hat⟩ := (Spec.applies_iff hf).mp happ
  obtain ⟨hg, hn⟩ := and_e (Cond.before_iff.mp (show (Jvm.Cond.and given_1 narrow_1).before args s = true from hpre))
  obtain ⟨hg1a, hg1b⟩ := and_e hg
  obtain ⟨w0, rfl⟩ : ∃ w0 : Value, args = #[w0] := by
    have hs : args.size = 1 := by simpa [Cond.value, given_1] using hg1a
    obtain ⟨L⟩ := args
    match L, hs with
    | [w0], _ => exact ⟨w0, rfl⟩
  have hw := fun d (hd : d ∈ tables_1) => atoms_spec (ws := Jvm.Cond.code x code maxLocals ret :: tables_1) hat d (List.mem_cons_of_mem _ hd)
  have hfit : Fit s := fun {y c} hc i hi => by
    obtain ⟨ha, rfl⟩ := Array.getElem?_eq_some_iff.mp hc
    have q := List.all_eq_true.mp ((Array.all_eq_true_iff_forall_mem.mp hF) _ (Array.getElem_mem ha)) i (List.mem_range.mpr hi)
    simpa [Array.getElem?_eq_getElem hi] using q
  obtain ⟨i0, ei0⟩ := is_v hg1b
  obtain rfl : w0 = (.int i0) := Option.some.inj ei0
  obtain ⟨hn1a, hn1b⟩ := and_e hn
  obtain ⟨hn2a, hn2b⟩ := and_e hn1b
  obtain ⟨hn3a, hn3b⟩ := and_e hn2b
  obtain ⟨hn4a, hn4b⟩ := and_e hn3b
  obtain ⟨hn5a, hn5b⟩ := and_e hn4b
  obtain ⟨hn6a, hn6b⟩ := and_e hn5b
  obtain ⟨hn7a, hn7b⟩ := and_e hn6b
  obtain ⟨hn8a, hn8b⟩ := and_e hn7b
  obtain ⟨hn9a, hn9b⟩ := and_e hn8b
  obtain ⟨w_NORMAL, ev_w_NORMAL⟩ := exa_v hn1a
  have S_w_NORMAL := Sta.start ev_w_NORMAL (Or.inr ⟨(hw _ (List.mem_of_getElem? (i := 6) rfl)), (hw _ (List.mem_of_getElem? (i := 7) rfl))⟩)
  have E_w_NORMAL := Exa.start ev_w_NORMAL hn1a
  obtain ⟨w_SUSPENDED, ev_w_SUSPENDED⟩ := exa_v hn2a
  have S_w_SUSPENDED := Sta.start ev_w_SUSPENDED (Or.inr ⟨(hw _ (List.mem_of_getElem? (i := 6) rfl)), (hw _ (List.mem_of_getElem? (i := 15) rfl))⟩)
  have E_w_SUSPENDED := Exa.start ev_w_SUSPENDED hn2a
  obtain ⟨w_WARNING, ev_w_WARNING⟩ := exa_v hn5a
  have S_w_WARNING := Sta.start ev_w_WARNING (Or.inr ⟨(hw _ (List.mem_of_getElem? (i := 6) rfl)), (hw _ (List.mem_of_getElem? (i := 17) rfl))⟩)
  have E_w_WARNING := Exa.start ev_w_WARNING hn5a
  obtain ⟨w_DELETED, ev_w_DELETED⟩ := exa_v hn7a
  have S_w_DELETED := Sta.start ev_w_DELETED (Or.inr ⟨(hw _ (List.mem_of_getElem? (i := 6) rfl)), (hw _ (List.mem_of_getElem? (i := 19) rfl))⟩)
  have E_w_DELETED := Exa.start ev_w_DELETED hn7a
  obtain ⟨w_APPROACHING_DELETION, ev_w_APPROACHING_DELETION⟩ := exa_v hn9a
  have S_w_APPROACHING_DELETION := Sta.start ev_w_APPROACHING_DELETION (Or.inr ⟨(hw _ (List.mem_of_getElem? (i := 6) rfl)), (hw _ (List.mem_of_getElem? (i := 21) rfl))⟩)
  have E_w_APPROACHING_DELETION := Exa.start ev_w_APPROACHING_DELETION hn9a
  have F_ordinal_w_SUSPENDED := own_fld (k := (3 : Int32)) hn3a ev_w_SUSPENDED
  have F_ordinal_w_NORMAL := own_fld (k := (0 : Int32)) hn4a ev_w_NORMAL
  have F_ordinal_w_WARNING := own_fld (k := (1 : Int32)) hn6a ev_w_WARNING
  have F_ordinal_w_DELETED := own_fld (k := (4 : Int32)) hn8a ev_w_DELETED
  have F_ordinal_w_APPROACHING_DELETION := own_fld (k := (2 : Int32)) hn9b ev_w_APPROACHING_DELETION
  have ne_w_NORMAL_w_SUSPENDED : ¬ (w_NORMAL = w_SUSPENDED) := own_ne F_ordinal_w_NORMAL F_ordinal_w_SUSPENDED (by decide)
  have ne_w_NORMAL_w_WARNING : ¬ (w_NORMAL = w_WARNING) := own_ne F_ordinal_w_NORMAL F_ordinal_w_WARNING (by decide)
  have ne_w_NORMAL_w_DELETED : ¬ (w_NORMAL = w_DELETED) := own_ne F_ordinal_w_NORMAL F_ordinal_w_DELETED (by decide)
  have ne_w_NORMAL_w_APPROACHING_DELETION : ¬ (w_NORMAL = w_APPROACHING_DELETION) := own_ne F_ordinal_w_NORMAL F_ordinal_w_APPROACHING_DELETION (by decide)
  have ne_w_SUSPENDED_w_WARNING : ¬ (w_SUSPENDED = w_WARNING) := own_ne F_ordinal_w_SUSPENDED F_ordinal_w_WARNING (by decide)
  have ne_w_SUSPENDED_w_DELETED : ¬ (w_SUSPENDED = w_DELETED) := own_ne F_ordinal_w_SUSPENDED F_ordinal_w_DELETED (by decide)
  have ne_w_SUSPENDED_w_APPROACHING_DELETION : ¬ (w_SUSPENDED = w_APPROACHING_DELETION) := own_ne F_ordinal_w_SUSPENDED F_ordinal_w_APPROACHING_DELETION (by decide)
  have ne_w_WARNING_w_DELETED : ¬ (w_WARNING = w_DELETED) := own_ne F_ordinal_w_WARNING F_ordinal_w_DELETED (by decide)
  have ne_w_WARNING_w_APPROACHING_DELETION : ¬ (w_WARNING = w_APPROACHING_DELETION) := own_ne F_ordinal_w_WARNING F_ordinal_w_APPROACHING_DELETION (by decide)
  have ne_w_DELETED_w_APPROACHING_DELETION : ¬ (w_DELETED = w_APPROACHING_DELETION) := own_ne F_ordinal_w_DELETED F_ordinal_w_APPROACHING_DELETION (by decide)
  have HW : World s s.heap w_NORMAL w_SUSPENDED w_WARNING w_DELETED w_APPROACHING_DELETION := ⟨S_w_NORMAL, E_w_NORMAL, S_w_SUSPENDED, E_w_SUSPENDED, S_w_WARNING, E_w_WARNING, S_w_DELETED, E_w_DELETED, S_w_APPROACHING_DELETION, E_w_APPROACHING_DELETION, F_ordinal_w_SUSPENDED, F_ordinal_w_NORMAL, F_ordinal_w_WARNING, F_ordinal_w_DELETED, F_ordinal_w_APPROACHING_DELETION, ne_w_NORMAL_w_SUSPENDED, ne_w_NORMAL_w_WARNING, ne_w_NORMAL_w_DELETED, ne_w_NORMAL_w_APPROACHING_DELETION, ne_w_SUSPENDED_w_WARNING, ne_w_SUSPENDED_w_DELETED, ne_w_SUSPENDED_w_APPROACHING_DELETION, ne_w_WARNING_w_DELETED, ne_w_WARNING_w_APPROACHING_DELETION, ne_w_DELETED_w_APPROACHING_DELETION, trivial⟩
  obtain ⟨n, o, h1, h2, h3, _, L, rfl, ⟨rfl, N⟩, hq⟩ := rm0_all l s _ hw tables_1 w_NORMAL w_SUSPENDED w_WARNING w_DELETED w_APPROACHING_DELETION i0 s.heap s.heap.size (Nat.le_refl _) HW p e ha hc hk s m _ below hf ((Spec.applies_iff_loose hf).mp happ).1 ⟨rfl, State.Warmed39.refl s, rfl⟩ trivial
  exact ⟨n, _, h1, h2, h3, hpost _ _ _ _ _ _ ⟨Cond.after_iff.mpr rfl, Cond.after_iff.mpr (eq_i res_at (Term.int_eval (1)) rfl), trivial⟩ ⟨hq.1, hq.2.1, (hq.2.2.sift fun y hy => Or.inr (N y hy)).mono (by decide) (by decide)⟩⟩
theorem main_1_1 : Claimed_1_1 := comes_1 fun _ _ _ _ _ _ h hF => ⟨h.1, hF⟩
theorem main_1_2 : Claimed_1_2 := comes_1 fun _ _ _ _ _ _ h hF => ⟨h.2.1, hF⟩
end Jvm.Pilot.@@N@@
namespace Jvm.Pilot.@@N@@
open Jvm Jvm.ClassFile Sem Op Lib Jvm.Free Jvm.Stand Jvm.Pilot.@@N@@.Jvm.D
/-! MADE BY PROGRAM (witnessworld.py) out of the Statement's table words and the real class files: 10 classes; the members and pool entries that the words name. The judged class is class 1, her method 2. -/
namespace start1
open Jvm.ClassFile
def u (s : String) : CpInfo := .utf8 (stringToUtf16 s)
/-- a pool by its gaps: so many unusable entries, then the entry; so many at the end -/
def gap : Nat → List CpInfo → List CpInfo
  | 0, r => r
  | n + 1, r => .unusable :: gap n r
def poolList (es : List (Nat × CpInfo)) (last : Nat) : List CpInfo := es.foldr (fun e r => gap e.1 (e.2 :: r)) (gap last [])
def pool (es : List (Nat × CpInfo)) (last : Nat) : Array CpInfo := ⟨poolList es last⟩
def fileOf (pool : Array CpInfo) (this : Nat) (attrs : Array Attribute := #[]) (ms : Array MethodInfo := #[]) (fl : Nat := 33) (sup : Nat := 0) (ifs : Array Nat := #[]) (fds : Array FieldInfo := #[]) : ClassFile where
  minorVersion := 0
  majorVersion := 65
  constantPool := pool
  accessFlags := fl
  thisClass := this
  superClass := sup
  interfaces := ifs
  fields := fds
  methods := ms
  attributes := attrs
def plain (name : String) (sup : Option ClassId) : Class where
  name := name
  kind := .ordinary
  loader := none
  accessFlags := 33
  super := sup
  interfaces := #[]
  cf := none
  fields := #[]
  methods := #[]
  instanceTypes := #[]
  staticTypes := #[]
  resolved := #[]
  callSites := []
  init := .initialized
  statics := none
  mirror := none

def pool0 : Array CpInfo := pool [(5, u "<init>"), (0, u "()V"), (1, .class_ 10), (1, u "java/lang/Object")] 113

def k0m0 : Method := { name := "<init>", desc := "()V", sig := { parameters := [], returnType := none }, accessFlags := 1, code := none }
/-- java/lang/Object -/
def k0 : Class := { plain "java/lang/Object" none with
  accessFlags := 33
  interfaces := #[]
  cf := some (fileOf pool0 8 #[] #[{ accessFlags := 1, nameIndex := 5, descriptorIndex := 6, attributes := #[] }] 33 0 #[] #[])
  fields := #[]
  methods := #[k0m0]
  instanceTypes := #[]
  staticTypes := #[]
  resolved := Array.replicate 124 none
  statics := none }

def pool1 : Array CpInfo := pool [(2, .class_ 4), (1, u "java/lang/Object"), (0, u "<init>"), (0, u "()V"), (0, .fieldref 8 9), (0, .class_ 10), (0, .nameAndType 11 12), (0, u "com/example/metered_billing/meteredbilling/arrears/Status"), (0, u "NORMAL"), (0, u "Lcom/example/metered_billing/meteredbilling/arrears/Status;"), (0, .fieldref 8 14), (0, .nameAndType 15 12), (0, u "WARNING"), (0, .fieldref 8 17), (0, .nameAndType 18 12), (0, u "APPROACHING_DELETION"), (0, .fieldref 8 20), (0, .nameAndType 21 12), (0, u "SUSPENDED"), (0, .fieldref 8 23), (0, .nameAndType 24 12), (0, u "DELETED"), (0, .integer 2147483647), (0, .methodref 27 28), (0, .class_ 29), (0, .nameAndType 30 31), (0, u "com/example/metered_billing/meteredbilling/arrears/StatusCanCreatePinLaw"), (0, u "pick"), (0, u "(I)Lcom/example/metered_billing/meteredbilling/arrears/Status;"), (0, .methodref 8 33), (0, .nameAndType 34 35), (0, u "canCreate"), (0, u "()Z"), (3, u "law"), (0, u "(I)Z")] 2

def k1m0 : Method := { name := "<init>", desc := "()V", sig := { parameters := [], returnType := none }, accessFlags := 2, code := none }
def k1c1 : Code := { maxStack := 2, maxLocals := 1, code := method_2_code, exceptionTable := #[], attributes := #[] }
def k1m1 : Method := { name := "pick", desc := "(I)Lcom/example/metered_billing/meteredbilling/arrears/Status;", sig := { parameters := [.int], returnType := some (.object "com/example/metered_billing/meteredbilling/arrears/Status") }, accessFlags := 10, code := some k1c1 }
def k1c2 : Code := { maxStack := 2, maxLocals := 4, code := code, exceptionTable := #[], attributes := #[] }
def k1m2 : Method := { name := "law", desc := "(I)Z", sig := { parameters := [.int], returnType := some .boolean }, accessFlags := 9, code := some k1c2 }
/-- com/example/metered_billing/meteredbilling/arrears/StatusCanCreatePinLaw -/
def k1 : Class := { plain "com/example/metered_billing/meteredbilling/arrears/StatusCanCreatePinLaw" (some 0) with
  accessFlags := 49
  interfaces := #[]
  cf := some (fileOf pool1 27 #[] #[{ accessFlags := 2, nameIndex := 5, descriptorIndex := 6, attributes := #[] }, { accessFlags := 10, nameIndex := 30, descriptorIndex := 31, attributes := #[] }, { accessFlags := 9, nameIndex := 39, descriptorIndex := 40, attributes := #[] }] 49 2 #[] #[])
  fields := #[]
  methods := #[k1m0, k1m1, k1m2]
  instanceTypes := #[]
  staticTypes := #[]
  resolved := Array.replicate 43 none
  statics := none }

def pool2 : Array CpInfo := pool [(1, .class_ 2), (0, u "java/lang/constant/Constable"), (0, .class_ 4), (0, u "java/lang/Object")] 6

/-- java/lang/constant/Constable -/
def k2 : Class := { plain "java/lang/constant/Constable" (some 0) with
  accessFlags := 1537
  interfaces := #[]
  cf := some (fileOf pool2 1 #[] #[] 1537 3 #[] #[])
  fields := #[]
  methods := #[]
  instanceTypes := #[]
  staticTypes := #[]
  resolved := Array.replicate 11 none
  statics := none }

def pool3 : Array CpInfo := pool [(1, .class_ 2), (0, u "java/lang/Comparable"), (0, .class_ 4), (0, u "java/lang/Object")] 7

/-- java/lang/Comparable -/
def k3 : Class := { plain "java/lang/Comparable" (some 0) with
  accessFlags := 1537
  interfaces := #[]
  cf := some (fileOf pool3 1 #[] #[] 1537 3 #[] #[])
  fields := #[]
  methods := #[]
  instanceTypes := #[]
  staticTypes := #[]
  resolved := Array.replicate 12 none
  statics := none }

def pool4 : Array CpInfo := pool [(1, .class_ 2), (0, u "java/io/Serializable"), (0, .class_ 4), (0, u "java/lang/Object")] 2

/-- java/io/Serializable -/
def k4 : Class := { plain "java/io/Serializable" (some 0) with
  accessFlags := 1537
  interfaces := #[]
  cf := some (fileOf pool4 1 #[] #[] 1537 3 #[] #[])
  fields := #[]
  methods := #[]
  instanceTypes := #[]
  staticTypes := #[]
  resolved := Array.replicate 7 none
  statics := none }

def pool5 : Array CpInfo := pool [(2, .class_ 4), (1, u "java/lang/Enum"), (0, u "name"), (0, u "Ljava/lang/String;"), (2, u "ordinal"), (0, u "I"), (1, .class_ 14), (1, u "java/lang/Object"), (4, u "hash"), (86, .class_ 108), (1, u "java/lang/Enum$EnumDesc"), (2, .class_ 112), (0, u "java/lang/constant/Constable"), (0, .class_ 114), (0, u "java/lang/Comparable"), (0, .class_ 116), (0, u "java/io/Serializable")] 87

/-- java/lang/Enum -/
def k5 : Class := { plain "java/lang/Enum" (some 0) with
  accessFlags := 1057
  interfaces := #[2, 3, 4]
  cf := some (fileOf pool5 2 #[.nestMembers #[106]] #[] 1057 12 #[111, 113, 115] #[{ accessFlags := 18, nameIndex := 5, descriptorIndex := 6, attributes := #[] }, { accessFlags := 18, nameIndex := 9, descriptorIndex := 10, attributes := #[] }, { accessFlags := 2, nameIndex := 19, descriptorIndex := 10, attributes := #[] }])
  fields := #[{ name := "name", type := (.object "java/lang/String"), accessFlags := 18, slot := 0, constantValue := 0 }, { name := "ordinal", type := .int, accessFlags := 18, slot := 1, constantValue := 0 }, { name := "hash", type := .int, accessFlags := 2, slot := 2, constantValue := 0 }]
  methods := #[]
  instanceTypes := #[(.object "java/lang/String"), .int, .int]
  staticTypes := #[]
  resolved := Array.replicate 204 none
  statics := none }

def pool6 : Array CpInfo := pool [(1, .class_ 2), (0, u "com/example/metered_billing/meteredbilling/arrears/Status"), (0, .fieldref 1 4), (0, .nameAndType 5 6), (0, u "NORMAL"), (0, u "Lcom/example/metered_billing/meteredbilling/arrears/Status;"), (2, u "WARNING"), (2, u "APPROACHING_DELETION"), (2, u "SUSPENDED"), (2, u "DELETED"), (2, u "$VALUES"), (0, u "[Lcom/example/metered_billing/meteredbilling/arrears/Status;"), (6, .class_ 31), (1, u "java/lang/Enum"), (8, u "id"), (0, u "Ljava/lang/String;"), (46, u "canCreate"), (0, u "()Z")] 22

def k6c0 : Code := { maxStack := 2, maxLocals := 1, code := prog_6_method_5_code, exceptionTable := #[], attributes := #[] }
def k6m0 : Method := { name := "canCreate", desc := "()Z", sig := { parameters := [], returnType := some .boolean }, accessFlags := 1, code := some k6c0 }
/-- com/example/metered_billing/meteredbilling/arrears/Status -/
def k6 : Class := { plain "com/example/metered_billing/meteredbilling/arrears/Status" (some 5) with
  accessFlags := 16433
  interfaces := #[]
  cf := some (fileOf pool6 1 #[] #[{ accessFlags := 1, nameIndex := 88, descriptorIndex := 89, attributes := #[] }] 16433 29 #[] #[{ accessFlags := 16409, nameIndex := 5, descriptorIndex := 6, attributes := #[] }, { accessFlags := 16409, nameIndex := 9, descriptorIndex := 6, attributes := #[] }, { accessFlags := 16409, nameIndex := 12, descriptorIndex := 6, attributes := #[] }, { accessFlags := 16409, nameIndex := 15, descriptorIndex := 6, attributes := #[] }, { accessFlags := 16409, nameIndex := 18, descriptorIndex := 6, attributes := #[] }, { accessFlags := 18, nameIndex := 40, descriptorIndex := 41, attributes := #[] }, { accessFlags := 4122, nameIndex := 21, descriptorIndex := 22, attributes := #[] }])
  fields := #[{ name := "NORMAL", type := (.object "com/example/metered_billing/meteredbilling/arrears/Status"), accessFlags := 16409, slot := 0, constantValue := 0 }, { name := "WARNING", type := (.object "com/example/metered_billing/meteredbilling/arrears/Status"), accessFlags := 16409, slot := 1, constantValue := 0 }, { name := "APPROACHING_DELETION", type := (.object "com/example/metered_billing/meteredbilling/arrears/Status"), accessFlags := 16409, slot := 2, constantValue := 0 }, { name := "SUSPENDED", type := (.object "com/example/metered_billing/meteredbilling/arrears/Status"), accessFlags := 16409, slot := 3, constantValue := 0 }, { name := "DELETED", type := (.object "com/example/metered_billing/meteredbilling/arrears/Status"), accessFlags := 16409, slot := 4, constantValue := 0 }, { name := "id", type := (.object "java/lang/String"), accessFlags := 18, slot := 3, constantValue := 0 }, { name := "$VALUES", type := (.array (.object "com/example/metered_billing/meteredbilling/arrears/Status")), accessFlags := 4122, slot := 5, constantValue := 0 }]
  methods := #[k6m0]
  instanceTypes := #[(.object "java/lang/String"), .int, .int, (.object "java/lang/String")]
  staticTypes := #[(.object "com/example/metered_billing/meteredbilling/arrears/Status"), (.object "com/example/metered_billing/meteredbilling/arrears/Status"), (.object "com/example/metered_billing/meteredbilling/arrears/Status"), (.object "com/example/metered_billing/meteredbilling/arrears/Status"), (.object "com/example/metered_billing/meteredbilling/arrears/Status"), (.array (.object "com/example/metered_billing/meteredbilling/arrears/Status"))]
  resolved := Array.replicate 112 none
  statics := some 0 }

def pool7 : Array CpInfo := pool [(1, u "java/lang/Cloneable"), (0, .class_ 1), (0, u "java/lang/Object"), (0, .class_ 3)] 3

/-- java/lang/Cloneable -/
def k7 : Class := { plain "java/lang/Cloneable" (some 0) with
  accessFlags := 1537
  interfaces := #[]
  cf := some (fileOf pool7 2 #[] #[] 1537 4 #[] #[])
  fields := #[]
  methods := #[]
  instanceTypes := #[]
  staticTypes := #[]
  resolved := Array.replicate 8 none
  statics := none }

/-- the primitive byte -/
def k8 : Class := { plain "byte" none with kind := .primitive 'B', accessFlags := 0x411 }
/-- [B -/
def k9 : Class := { plain "[B" (some 0) with kind := .array 8 .byte, interfaces := #[7, 4], accessFlags := 1041 }

def heap : Heap := #[{ cls := 6, slots := #[.ref 1, .ref 3, .ref 5, .ref 2, .ref 4, .null], vm := .statics 6 },
  { cls := 6, slots := #[.null, .int 0, .int 0, .null], vm := .none },
  { cls := 6, slots := #[.null, .int 3, .int 0, .null], vm := .none },
  { cls := 6, slots := #[.null, .int 1, .int 0, .null], vm := .none },
  { cls := 6, slots := #[.null, .int 4, .int 0, .null], vm := .none },
  { cls := 6, slots := #[.null, .int 2, .int 0, .null], vm := .none }]
def classes : Array Class := #[k0, k1, k2, k3, k4, k5, k6, k7, k8, k9]
def interned : List (Array UInt16 × Addr) := []
def slotsUsed : Nat := 26
def theMethod : MethodId := ⟨1, 2⟩
def args0 : Array Value := #[.int 5]
def aboutOver (below : List Frame) : State where
  vm := { classes := classes, interned := interned.toArray }
  heap := heap
  slotsUsed := slotsUsed
  threads := #[{ frames := .invoking theMethod args0 :: below }]
def below0 : List Frame := [.native { method := ⟨0, 0⟩, args := #[] }]
def about1 : State := aboutOver below0
def p0 : Program := .bare "" "" ""
def e0 : Env := launch0.env 0 0 0
theorem w_frames : about1.frames = Frame.invoking theMethod args0 :: below0 := rfl
set_option maxRecDepth 65536 in
theorem w_args : argsFit about1.vm theMethod args0 = true := by decide +kernel
set_option maxRecDepth 65536 in
theorem w_heap : heapFits about1 = true := by decide +kernel
set_option maxRecDepth 65536 in
theorem w_runnable : about1.curStatus? = some .runnable := by decide +kernel
set_option maxRecDepth 65536 in
theorem w_alone : about1.alone = true := by decide +kernel
set_option maxRecDepth 65536 in
theorem w_named : about1.methodNamed? x = some theMethod := by decide +kernel
set_option maxRecDepth 65536 in
theorem w_hears : about1.hears theMethod below0 = true := by decide +kernel
set_option maxRecDepth 65536 in
theorem w_ripe : about1.ripe theMethod args0 below0 = true := by decide +kernel
theorem w_running : about1.status = .running := rfl
set_option maxRecDepth 65536 in
theorem w_room : about1.hasRoom e0.platform room_1 = true :=
  launch0.hasRoom_least _ room_1 (by decide +kernel) (by decide +kernel) (by decide +kernel) (by decide +kernel) (by decide +kernel) (by decide +kernel)
theorem allAtoms_all (ts : List Jvm.Cond) (a : Array Jvm.Value) (st : Jvm.State) : (allAtoms ts).before a st = ts.all (fun c => c.before a st) := by
  induction ts with
  | nil => rfl
  | cons c t ih =>
    show (Jvm.Cond.and c (allAtoms t)).before a st = _
    rw [Jvm.Cond.before_and, ih, List.all_cons]
def words1 : List Jvm.Cond := Jvm.Cond.code x code maxLocals ret :: tables_1
/-- a 'code' word, met by the world's own term for the bytes: nothing is compared byte by byte -/
theorem code_word {y : MethodName} {bytes : ByteArray} {mx : Nat} {rt : Option FieldType} {a : Array Value} {s : State} {m : MethodId} {meth : Method} {c : Code} (h1 : s.methodNamed? y = some m) (h2 : s.vm.method? m = some meth) (h3 : meth.code = some c) (h4 : c.code = bytes)
    (h5 : (c.maxLocals == mx && c.exceptionTable.isEmpty && decide (c.maxStack ≤ mostOperands) && decide (meth.sig.returnType = rt) && !meth.locks && decide (parseMethodDescriptor y.desc = some meth.sig)) = true) : (Jvm.Cond.code y bytes mx rt).before a s = true := by
  simp only [Bool.and_eq_true, beq_iff_eq, Bool.not_eq_true', decide_eq_true_eq] at h5
  obtain ⟨⟨⟨⟨⟨g1, g2⟩, g3⟩, g4⟩, g5⟩, g6⟩ := h5
  simp [Cond.before, Cond.holds, Cond.value, h1, h2, h3, h4, g1, g2, g3, g4, g5, g6]
def isCode : Jvm.Cond → Bool
  | .code _ _ _ _ => true
  | _ => false
theorem all_split {L : List Jvm.Cond} {P : Jvm.Cond → Bool} (h1 : L.all (fun c => isCode c || P c) = true) (h2 : ∀ c ∈ L.filter isCode, P c = true) : L.all P = true := by
  refine List.all_eq_true.mpr fun c hc => ?_
  have h := List.all_eq_true.mp h1 c hc
  rcases Bool.eq_false_or_eq_true (isCode c) with hi | hi
  · exact h2 c (List.mem_filter.mpr ⟨hc, hi⟩)
  · simpa [hi] using h
set_option maxRecDepth 65536 in
theorem w_c0 : (Jvm.Cond.code x code maxLocals ret).before args0 about1 = true := code_word (m := ⟨1, 2⟩) (meth := k1m2) (c := k1c2) (by decide +kernel) rfl rfl rfl (by decide +kernel)
set_option maxRecDepth 65536 in
theorem w_c1 : (Jvm.Cond.code ({ cls := "com/example/metered_billing/meteredbilling/arrears/StatusCanCreatePinLaw", name := "pick", desc := "(I)Lcom/example/metered_billing/meteredbilling/arrears/Status;" } : Jvm.MethodName) method_2_code (1 : Nat) (Option.some (Jvm.ClassFile.FieldType.object "com/example/metered_billing/meteredbilling/arrears/Status"))).before args0 about1 = true := code_word (m := ⟨1, 1⟩) (meth := k1m1) (c := k1c1) (by decide +kernel) rfl rfl rfl (by decide +kernel)
set_option maxRecDepth 65536 in
theorem w_c2 : (Jvm.Cond.code ({ cls := "com/example/metered_billing/meteredbilling/arrears/Status", name := "canCreate", desc := "()Z" } : Jvm.MethodName) prog_6_method_5_code (1 : Nat) (Option.some Jvm.ClassFile.FieldType.boolean)).before args0 about1 = true := code_word (m := ⟨6, 0⟩) (meth := k6m0) (c := k6c0) (by decide +kernel) rfl rfl rfl (by decide +kernel)
def codes1 : List Jvm.Cond := [Jvm.Cond.code x code maxLocals ret, Jvm.Cond.code ({ cls := "com/example/metered_billing/meteredbilling/arrears/StatusCanCreatePinLaw", name := "pick", desc := "(I)Lcom/example/metered_billing/meteredbilling/arrears/Status;" } : Jvm.MethodName) method_2_code (1 : Nat) (Option.some (Jvm.ClassFile.FieldType.object "com/example/metered_billing/meteredbilling/arrears/Status")), Jvm.Cond.code ({ cls := "com/example/metered_billing/meteredbilling/arrears/Status", name := "canCreate", desc := "()Z" } : Jvm.MethodName) prog_6_method_5_code (1 : Nat) (Option.some Jvm.ClassFile.FieldType.boolean)]
set_option maxRecDepth 65536 in
theorem codes_eq : words1.filter isCode = codes1 := rfl
theorem w_codes : ∀ c ∈ words1.filter isCode, c.before args0 about1 = true := by
  rw [codes_eq]
  intro c hc
  simp only [codes1, List.mem_cons, List.not_mem_nil, or_false] at hc
  rcases hc with rfl | rfl | rfl
  · exact w_c0
  · exact w_c1
  · exact w_c2
set_option maxRecDepth 65536 in
theorem w_t1 : words1.all (fun c => isCode c || c.before args0 about1) = true := by decide +kernel
theorem w_tables : (allAtoms (Jvm.Cond.code x code maxLocals ret :: tables_1)).before args0 about1 = true := by
  rw [allAtoms_all]
  show words1.all (fun c => c.before args0 about1) = true
  refine all_split ?_ w_codes
  rw [w_t1]
set_option maxRecDepth 65536 in
theorem w_case : (Jvm.Cond.and given_1 narrow_1).before args0 about1 = true := by decide +kernel
theorem w_applies : (headSpec (Jvm.Cond.code x code maxLocals ret :: tables_1) room_1).applies x e0.platform about1 = true :=
  (Spec.applies_iff w_frames).mpr ⟨w_running, w_runnable, w_alone, w_named, w_hears, w_ripe, w_room, w_tables⟩
theorem atStart : AtStart classFile x code maxLocals ret World_1 tables_1 room_1 Calls_1 rest_1 Pre_1 launch0 p0 e0 about1 theMethod args0 below0 :=
  ⟨lists_1, trivial, launch0.admits_env _ _ _, launch0.least_env, fairChoices_fair.cas, fairChoices_fair.clock, w_frames, w_args, w_heap, w_applies, trivial, trivial, w_case⟩
end start1
theorem witness_1 : WitnessClaimed_1 := ⟨start1.p0, start1.e0, start1.about1, start1.theMethod, start1.args0, start1.below0, start1.atStart⟩
end Jvm.Pilot.@@N@@
