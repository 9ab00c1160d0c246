import JvmDerived
import JvmDerived.Pilot.@@N@@Statement
import JvmDerived.Pilot.@@N@@Code
set_option linter.unusedVariables false
set_option linter.unusedSimpArgs false
@@BLOCK:NumsL.lean.txt@@
namespace Jvm.RoadKit
open Sem ClassFile Op Lib Jvm.Stand Jvm.Free Jvm.LawKit
section New
variable {p : Program} {l : Launch} {e : Env} {R : Room} {s : State} {m : MethodId} {args : Array Value} {below : List Frame} {meth : Method} {c : Code} {T : State} {locs : List Loc} {cells slots : Nat}
theorem retI (X : Stand p l e R s m args below meth c T locs cells slots) (hx : p.tables.exec = Jvm.exec) {pc : Nat} {Ls : Array Slot} {z : Int32} {rest : List Value} (hret : meth.sig.returnType = some .int) (hd : decode c.code pc = .ok (.ireturn, 1)) {fs : List Frame}
    (hl : ∀ (f : JFrame) (acts : List Action), f.method = m → f.locked = none → f.entered = [] → (doReturn e (T.setTop f) acts (some (.int z))).1 = T.setFrames fs) : Steps p.tables e below (T.setTop (mkF m pc Ls (.int z :: rest))) (T.setFrames fs) := by
  have hm' : T.vm.method? m = some meth := X.method'
  have hn : narrow .int (.int z) = .int z := rfl
  show Steps p.tables e below (T.setTop { method := m, pc := pc, locals := Ls, stack := _ :: rest, locked := none }) _
  jvm_step X.here [X.here.top, hx, hd, hm', hret, hn]
  first | (intro acts; rw [hl _ acts rfl rfl rfl]) | rw [hl _ _ rfl rfl rfl]
  exact Steps.refl _
end New
end Jvm.RoadKit
namespace Jvm.Pilot.@@N@@
open Jvm Jvm.ClassFile Sem Op Lib Jvm.Free Jvm.Stand Jvm.LawKit Jvm.RoadKit Bundle Jvm.Pilot.@@N@@.Jvm.D
theorem own_ext {h h' h'' : Heap} (A : Ext h h') (B : Ext h' h'') : Ext h h'' := ⟨Nat.le_trans A.1 B.1, fun a c q => B.2 a c (A.2 a c q)⟩
theorem own_fld {args : Array Value} {s : State} {t : Term} {C n d : String} {w : Addr} {k : Int32} (h : (Jvm.Cond.eq (.field t C n d) (.int k)).value args s none s [] = some true) (ev : t.eval args s none [] s = some (.ref w)) : Fld s s.heap w C n d (.int k) := by
  apply Fld.start
  have e := fld_at (C := C) (n := n) (dd := d) ev
  obtain ⟨x, y, e1, e2, k1, k2⟩ := cmp_v (Or.inl h)
  cases (show y = .int k from (Option.some.inj (e2.symm.trans rfl)))
  obtain ⟨z, rfl⟩ := k2
  have q := gotT (Cond.eq_ints e1 e2) h
  rw [← e, e1, q]
theorem own_fldR {args : Array Value} {s : State} {t u : Term} {C n d : String} {w b : Addr} (h : (Jvm.Cond.eq (.field t C n d) u).value args s none s [] = some true) (ev : t.eval args s none [] s = some (.ref w)) (eu : u.eval args s none [] s = some (.ref b)) : Fld s s.heap w C n d (.ref b) := by
  apply Fld.start
  have e := fld_at (C := C) (n := n) (dd := d) ev
  obtain ⟨x, y, e1, e2, k1, k2⟩ := cmp_v (Or.inl h)
  cases e2.symm.trans eu
  have q := gotT (eq_R e1 eu k2.2 rfl) h
  rw [← e, e1, q]
theorem own_ne {Z : State} {h : Heap} {a b : Addr} {C n d : String} {i j : Int32} (F : Fld Z h a C n d (.int i)) (G : Fld Z h b C n d (.int j)) (hn : ¬ (i = j)) : ¬ (a = b) := fun e => by
  subst e
  obtain ⟨c1, f1, k1, i1, g1, p1, p2, -, -, -, -, p7⟩ := F
  obtain ⟨c2, f2, k2, i2, g2, q1, q2, -, -, -, -, q7⟩ := G
  cases p1.symm.trans q1
  cases p2.symm.trans q2
  exact hn (Value.int.inj (Option.some.inj (p7.symm.trans q7)))
theorem own_inj {x y : Int32} (h : x.toInt = y.toInt) : x = y := Int32.toInt_inj.mp h
theorem own_mask (x : Int32) : (x &&& (3 : Int32)) = (0 : Int32) ∨ (x &&& (3 : Int32)) = (1 : Int32) ∨ (x &&& (3 : Int32)) = (2 : Int32) ∨ (x &&& (3 : Int32)) = (3 : Int32) := by
  have e := Jvm.Kit.i32_mask x (3 : Int32) (k := 2) (by decide) (by decide)
  have h : (x &&& (3 : Int32)).toInt = 0 ∨ (x &&& (3 : Int32)).toInt = 1 ∨ (x &&& (3 : Int32)).toInt = 2 ∨ (x &&& (3 : Int32)).toInt = 3 := by omega
  rcases h with h | h | h | h
  · exact Or.inl (own_inj (h.trans (by decide)))
  · exact Or.inr (Or.inl (own_inj (h.trans (by decide))))
  · exact Or.inr (Or.inr (Or.inl (own_inj (h.trans (by decide)))))
  · exact Or.inr (Or.inr (Or.inr (own_inj (h.trans (by decide)))))
def World (Z : State) (h : Heap) (w_AT_LEAST : Addr) (w_AT_MOST : Addr) (w_BELOW : Addr) (w_ABOVE : Addr) : Prop := Sta Z h "com/example/tierline/tierline/Bound" "AT_LEAST" "Lcom/example/tierline/tierline/Bound;" (.ref w_AT_LEAST) ∧ Exa Z h w_AT_LEAST "com/example/tierline/tierline/Bound" ∧ Sta Z h "com/example/tierline/tierline/Bound" "AT_MOST" "Lcom/example/tierline/tierline/Bound;" (.ref w_AT_MOST) ∧ Exa Z h w_AT_MOST "com/example/tierline/tierline/Bound" ∧ Sta Z h "com/example/tierline/tierline/Bound" "BELOW" "Lcom/example/tierline/tierline/Bound;" (.ref w_BELOW) ∧ Exa Z h w_BELOW "com/example/tierline/tierline/Bound" ∧ Sta Z h "com/example/tierline/tierline/Bound" "ABOVE" "Lcom/example/tierline/tierline/Bound;" (.ref w_ABOVE) ∧ Exa Z h w_ABOVE "com/example/tierline/tierline/Bound" ∧ Fld Z h w_AT_LEAST "com/example/tierline/tierline/Bound" "side" "I" (.int (1 : Int32)) ∧ Fld Z h w_AT_LEAST "com/example/tierline/tierline/Bound" "inclusive" "Z" (.int (1 : Int32)) ∧ Fld Z h w_BELOW "com/example/tierline/tierline/Bound" "side" "I" (.int (-1 : Int32)) ∧ Fld Z h w_BELOW "com/example/tierline/tierline/Bound" "inclusive" "Z" (.int (0 : Int32)) ∧ Fld Z h w_ABOVE "com/example/tierline/tierline/Bound" "side" "I" (.int (1 : Int32)) ∧ Fld Z h w_ABOVE "com/example/tierline/tierline/Bound" "inclusive" "Z" (.int (0 : Int32)) ∧ Fld Z h w_AT_MOST "com/example/tierline/tierline/Bound" "side" "I" (.int (-1 : Int32)) ∧ Fld Z h w_AT_MOST "com/example/tierline/tierline/Bound" "inclusive" "Z" (.int (1 : Int32)) ∧ ¬ (w_AT_LEAST = w_AT_MOST) ∧ ¬ (w_AT_LEAST = w_BELOW) ∧ ¬ (w_AT_LEAST = w_ABOVE) ∧ ¬ (w_AT_MOST = w_BELOW) ∧ ¬ (w_AT_MOST = w_ABOVE) ∧ ¬ (w_BELOW = w_ABOVE) ∧ True
theorem World.ext {Z : State} {h h' : Heap} {w_AT_LEAST : Addr} {w_AT_MOST : Addr} {w_BELOW : Addr} {w_ABOVE : Addr} (E : Ext h h') (W : World Z h w_AT_LEAST w_AT_MOST w_BELOW w_ABOVE) : World Z h' w_AT_LEAST w_AT_MOST w_BELOW w_ABOVE := by
  obtain ⟨S_w_AT_LEAST, E_w_AT_LEAST, S_w_AT_MOST, E_w_AT_MOST, S_w_BELOW, E_w_BELOW, S_w_ABOVE, E_w_ABOVE, F_side_w_AT_LEAST, F_inclusive_w_AT_LEAST, F_side_w_BELOW, F_inclusive_w_BELOW, F_side_w_ABOVE, F_inclusive_w_ABOVE, F_side_w_AT_MOST, F_inclusive_w_AT_MOST, ne_w_AT_LEAST_w_AT_MOST, ne_w_AT_LEAST_w_BELOW, ne_w_AT_LEAST_w_ABOVE, ne_w_AT_MOST_w_BELOW, ne_w_AT_MOST_w_ABOVE, ne_w_BELOW_w_ABOVE, -⟩ := W
  exact ⟨S_w_AT_LEAST.ext E, E_w_AT_LEAST.ext E, S_w_AT_MOST.ext E, E_w_AT_MOST.ext E, S_w_BELOW.ext E, E_w_BELOW.ext E, S_w_ABOVE.ext E, E_w_ABOVE.ext E, F_side_w_AT_LEAST.ext E, F_inclusive_w_AT_LEAST.ext E, F_side_w_BELOW.ext E, F_inclusive_w_BELOW.ext E, F_side_w_ABOVE.ext E, F_inclusive_w_ABOVE.ext E, F_side_w_AT_MOST.ext E, F_inclusive_w_AT_MOST.ext E, ne_w_AT_LEAST_w_AT_MOST, ne_w_AT_LEAST_w_BELOW, ne_w_AT_LEAST_w_ABOVE, ne_w_AT_MOST_w_BELOW, ne_w_AT_MOST_w_ABOVE, ne_w_BELOW_w_ABOVE, trivial⟩
theorem d1_0 : decode prog_1_method_7_code 0 = .ok (.aload_n 0, 1) := by decide +kernel
theorem d1_1 : decode prog_1_method_7_code 1 = .ok (.getfield 39, 3) := by decide +kernel
theorem d1_4 : decode prog_1_method_7_code 4 = .ok (.ineg, 1) := by decide +kernel
theorem d1_5 : decode prog_1_method_7_code 5 = .ok (.aload_n 0, 1) := by decide +kernel
theorem d1_6 : decode prog_1_method_7_code 6 = .ok (.getfield 43, 3) := by decide +kernel
theorem d2_0 : decode prog_1_method_5_code 0 = .ok (.iload_n 0, 1) := by decide +kernel
theorem d2_1 : decode prog_1_method_5_code 1 = .ok (.ifCond .le 20, 3) := by decide +kernel
theorem d2_21 : decode prog_1_method_5_code 21 = .ok (.iload_n 1, 1) := by decide +kernel
theorem d2_22 : decode prog_1_method_5_code 22 = .ok (.ifCond .eq 9, 3) := by decide +kernel
theorem d2_25 : decode prog_1_method_5_code 25 = .ok (.getstatic 7, 3) := by decide +kernel
theorem d2_28 : decode prog_1_method_5_code 28 = .ok (.goto 6, 3) := by decide +kernel
theorem d2_34 : decode prog_1_method_5_code 34 = .ok (.astore_n 2, 1) := by decide +kernel
theorem d2_35 : decode prog_1_method_5_code 35 = .ok (.aload_n 2, 1) := by decide +kernel
theorem d2_36 : decode prog_1_method_5_code 36 = .ok (.areturn, 1) := by decide +kernel
theorem ef15 (m : MethodId) (x0 : Int32) (x1 : Int32) : entryFrame m #[(.int x0), (.int x1)] 3 = mkF m 0 #[.val (.int x0), .val (.int x1), .unset] [] := by first | (simp [entryFrame, mkF, argsToLocals, Value.category]; done) | rfl
theorem pn16 : plainName "com/example/tierline/tierline/Bound" = true := by first | (simp [plainName, overriddenIn]; done) | decide +kernel
def Q2_0 (Z : State) (w_AT_LEAST : Addr) (w_AT_MOST : Addr) (w_BELOW : Addr) (w_ABOVE : Addr) (h0 : Heap) (n0 : Nat) (v : Option Value) (h : Heap) (L : List Loc) : Prop := v = some (.ref w_AT_MOST) ∧ Fr n0 L ∧ h = h0
set_option maxRecDepth 65536 in
set_option maxHeartbeats 40000000 in
theorem rm2_0 (l : Launch) (Z : State) (a0 : Array Value) (hw : ∀ d ∈ tables_1, d.before a0 Z = true) (ws : List Jvm.Cond) (w_AT_LEAST : Addr) (w_AT_MOST : Addr) (w_BELOW : Addr) (w_ABOVE : Addr) (h0 : Heap) (n0 : Nat) (Z0 : n0 ≤ h0.size) (HW : World Z h0 w_AT_LEAST w_AT_MOST w_BELOW w_ABOVE) :
    MetFree l (⟨"com/example/tierline/tierline/Bound", "toward", "(IZ)Lcom/example/tierline/tierline/Bound;"⟩ : MethodName) (head1 (Jvm.Cond.code (⟨"com/example/tierline/tierline/Bound", "toward", "(IZ)Lcom/example/tierline/tierline/Bound;"⟩ : MethodName) prog_1_method_5_code 3 (some (.object "com/example/tierline/tierline/Bound")) :: ws) ({ frames := 0, cells := 0, slots := 0, locals := 0 } : Room)) (fun a U => a = #[(.int (-1 : Int32)), (.int (1 : Int32))] ∧ Z.Warmed39 U.vm ∧ U.heap = h0) (fun _ _ _ _ _ => True) (fun _ U o U' => ∃ v L, o = .returned v ∧ Q2_0 Z w_AT_LEAST w_AT_MOST w_BELOW w_ABOVE h0 n0 v U'.heap L ∧ FrameEnd U o U' L ({ frames := 0, cells := 0, slots := 0, locals := 0 } : Room).cells ({ frames := 0, cells := 0, slots := 0, locals := 0 } : Room).slots) := by
  refine MetFree.of_bodySF (plainFor_of_name pn16) hisR ?_
  intro p e s m args below meth c s₁ Bd hml0 hP hK
  obtain ⟨rfl, hZ, hh⟩ := hP
  have hx := Bd.exec
  have hby := Bd.bytes
  have hml : c.maxLocals = 3 := hml0
  have hown : s.vm.findClass "com/example/tierline/tierline/Bound" = some m.cls := findClass_of_methodNamed Bd.named
  have X0 : Stand p l e ({ frames := 0, cells := 0, slots := 0, locals := 0 } : Room) s m #[(.int (-1 : Int32)), (.int (1 : Int32))] below meth c s₁ [] 0 0 := Stand.of_body Bd
  have e0 : s₁.heap = h0 := by rw [← hh, Bd.state]; rfl
  have N0 := Fr.nil n0
  have pre0 : ∀ t, Steps p.tables e below (s₁.setTop (mkF m 0 #[.val (.int (-1 : Int32)), .val (.int (1 : Int32)), .unset] [])) t → Steps p.tables e below (s₁.setTop (entryFrame m #[(.int (-1 : Int32)), (.int (1 : Int32))] 3)) t := fun t k => castTop (ef15 m (-1 : Int32) (1 : Int32)) k
  obtain ⟨S_w_AT_LEAST, E_w_AT_LEAST, S_w_AT_MOST, E_w_AT_MOST, S_w_BELOW, E_w_BELOW, S_w_ABOVE, E_w_ABOVE, F_side_w_AT_LEAST, F_inclusive_w_AT_LEAST, F_side_w_BELOW, F_inclusive_w_BELOW, F_side_w_ABOVE, F_inclusive_w_ABOVE, F_side_w_AT_MOST, F_inclusive_w_AT_MOST, ne_w_AT_LEAST_w_AT_MOST, ne_w_AT_LEAST_w_BELOW, ne_w_AT_LEAST_w_ABOVE, ne_w_AT_MOST_w_BELOW, ne_w_AT_MOST_w_ABOVE, ne_w_BELOW_w_ABOVE, -⟩ := id HW
  obtain ⟨T1, X1, e1, st1⟩ := getS2 X0 hx hZ hown (host := "") (Or.inl (hw _ (List.mem_of_getElem? (i := 17) rfl))) Via.refl e0 S_w_AT_MOST (g := (mkF m 25 #[.val (.int (-1 : Int32)), .val (.int (1 : Int32)), .unset] [])) rfl (hb hby d2_25)
  obtain ⟨fs, hr, hrun, hended, hW, hsame⟩ := X1.leave (v := some (.ref w_AT_MOST)) (fun h => by rw [Bd.returns] at h; cases h)
  refine ⟨_, _, pre0 _ ?_, hrun, hended, _, _, rfl, ?_, ⟨_, rfl⟩, hW, hsame.mono (by decide) (by decide)⟩
  · show Steps p.tables e below (s₁.setTop (mkF m 0 #[.val (.int (-1 : Int32)), .val (.int (1 : Int32)), .unset] [])) _
    refine XS.iloadN X0.here hx rfl (hb hby d2_0) rfl ?_
    show Steps p.tables e below (s₁.setTop (mkF m 1 #[.val (.int (-1 : Int32)), .val (.int (1 : Int32)), .unset] [(.int (-1 : Int32))])) _
    refine XS.ifYes X0.here hx rfl (pc0 := 1) (pc' := 21) rfl (hb hby d2_1) rfl ((if0 _ _).trans (flt (by decide : ¬ ((0 : Int32) < (-1 : Int32)))).2.2.2) (by decide) (by decide) ?_
    show Steps p.tables e below (s₁.setTop (mkF m 21 #[.val (.int (-1 : Int32)), .val (.int (1 : Int32)), .unset] [])) _
    refine XS.iloadN X0.here hx rfl (hb hby d2_21) rfl ?_
    show Steps p.tables e below (s₁.setTop (mkF m 22 #[.val (.int (-1 : Int32)), .val (.int (1 : Int32)), .unset] [(.int (1 : Int32))])) _
    refine XS.ifNo X0.here hx rfl (hb hby d2_22) rfl ((if0 _ _).trans (feq (by decide : ¬ ((1 : Int32) = (0 : Int32)))).1) ?_
    show Steps p.tables e below (s₁.setTop (mkF m 25 #[.val (.int (-1 : Int32)), .val (.int (1 : Int32)), .unset] [])) _
    refine st1 _ ?_
    show Steps p.tables e below (T1.setTop (mkF m 28 #[.val (.int (-1 : Int32)), .val (.int (1 : Int32)), .unset] [(.ref w_AT_MOST)])) _
    refine XS.goto X1.here hx rfl (pc0 := 28) (pc' := 34) rfl (hb hby d2_28) (by decide) (by decide) ?_
    show Steps p.tables e below (T1.setTop (mkF m 34 #[.val (.int (-1 : Int32)), .val (.int (1 : Int32)), .unset] [(.ref w_AT_MOST)])) _
    refine XS.astoreN X1.here hx rfl (hb hby d2_34) rfl rfl (l' := #[.val (.int (-1 : Int32)), .val (.int (1 : Int32)), .val (.ref w_AT_MOST)]) rfl ?_
    show Steps p.tables e below (T1.setTop (mkF m 35 #[.val (.int (-1 : Int32)), .val (.int (1 : Int32)), .val (.ref w_AT_MOST)] [])) _
    refine XS.aloadN X1.here hx rfl (hb hby d2_35) rfl rfl ?_
    show Steps p.tables e below (T1.setTop (mkF m 36 #[.val (.int (-1 : Int32)), .val (.int (1 : Int32)), .val (.ref w_AT_MOST)] [(.ref w_AT_MOST)])) _
    jvm_step X1.here [X1.here.top, hx, (hb hby d2_36), X1.method', Bd.returns, Value.isRef, FieldType.isReference]
    first | (intro acts; rw [hr _ acts rfl rfl rfl]) | rw [hr _ _ rfl rfl rfl]
    exact Steps.refl _
  · exact ⟨rfl, N0, e1⟩
theorem pd17 : parseMethodDescriptor "(IZ)Lcom/example/tierline/tierline/Bound;" = some ⟨[.int, .boolean], some (.object "com/example/tierline/tierline/Bound")⟩ := by decide +kernel
theorem d1_9 : decode prog_1_method_7_code 9 = .ok (.invokestatic 47, 3) := by decide +kernel
theorem d1_12 : decode prog_1_method_7_code 12 = .ok (.areturn, 1) := by decide +kernel
theorem ef21 (m : MethodId) (x0 : Addr) : entryFrame m #[(.ref x0)] 1 = mkF m 0 #[.val (.ref x0)] [] := by first | (simp [entryFrame, mkF, argsToLocals, Value.category]; done) | rfl
def Q1_1 (Z : State) (w_AT_LEAST : Addr) (w_AT_MOST : Addr) (w_BELOW : Addr) (w_ABOVE : Addr) (h0 : Heap) (n0 : Nat) (v : Option Value) (h : Heap) (L : List Loc) : Prop := v = some (.ref w_AT_MOST) ∧ Fr n0 L ∧ h = h0
set_option maxRecDepth 65536 in
set_option maxHeartbeats 40000000 in
theorem rm1_1 (l : Launch) (Z : State) (a0 : Array Value) (hw : ∀ d ∈ tables_1, d.before a0 Z = true) (ws : List Jvm.Cond) (w_AT_LEAST : Addr) (w_AT_MOST : Addr) (w_BELOW : Addr) (w_ABOVE : Addr) (h0 : Heap) (n0 : Nat) (Z0 : n0 ≤ h0.size) (HW : World Z h0 w_AT_LEAST w_AT_MOST w_BELOW w_ABOVE) :
    MetFree l (⟨"com/example/tierline/tierline/Bound", "reversed", "()Lcom/example/tierline/tierline/Bound;"⟩ : MethodName) (head1 (Jvm.Cond.code (⟨"com/example/tierline/tierline/Bound", "reversed", "()Lcom/example/tierline/tierline/Bound;"⟩ : MethodName) prog_1_method_7_code 1 (some (.object "com/example/tierline/tierline/Bound")) :: ws) ({ frames := 1, cells := 0, slots := 0, locals := 14 } : Room)) (fun a U => a = #[(.ref w_AT_LEAST)] ∧ Z.Warmed39 U.vm ∧ U.heap = h0) (fun _ _ _ _ _ => True) (fun _ U o U' => ∃ v L, o = .returned v ∧ Q1_1 Z w_AT_LEAST w_AT_MOST w_BELOW w_ABOVE h0 n0 v U'.heap L ∧ FrameEnd U o U' L ({ frames := 1, cells := 0, slots := 0, locals := 14 } : Room).cells ({ frames := 1, cells := 0, slots := 0, locals := 14 } : Room).slots) := by
  refine MetFree.of_bodySF (plainFor_of_name pn16) hisR ?_
  intro p e s m args below meth c s₁ Bd hml0 hP hK
  obtain ⟨rfl, hZ, hh⟩ := hP
  have hx := Bd.exec
  have hby := Bd.bytes
  have hml : c.maxLocals = 1 := hml0
  have hown : s.vm.findClass "com/example/tierline/tierline/Bound" = some m.cls := findClass_of_methodNamed Bd.named
  have X0 : Stand p l e ({ frames := 1, cells := 0, slots := 0, locals := 14 } : Room) s m #[(.ref w_AT_LEAST)] below meth c s₁ [] 0 0 := Stand.of_body Bd
  have e0 : s₁.heap = h0 := by rw [← hh, Bd.state]; rfl
  have N0 := Fr.nil n0
  have pre0 : ∀ t, Steps p.tables e below (s₁.setTop (mkF m 0 #[.val (.ref w_AT_LEAST)] [])) t → Steps p.tables e below (s₁.setTop (entryFrame m #[(.ref w_AT_LEAST)] 1)) t := fun t k => castTop (ef21 m w_AT_LEAST) k
  obtain ⟨S_w_AT_LEAST, E_w_AT_LEAST, S_w_AT_MOST, E_w_AT_MOST, S_w_BELOW, E_w_BELOW, S_w_ABOVE, E_w_ABOVE, F_side_w_AT_LEAST, F_inclusive_w_AT_LEAST, F_side_w_BELOW, F_inclusive_w_BELOW, F_side_w_ABOVE, F_inclusive_w_ABOVE, F_side_w_AT_MOST, F_inclusive_w_AT_MOST, ne_w_AT_LEAST_w_AT_MOST, ne_w_AT_LEAST_w_BELOW, ne_w_AT_LEAST_w_ABOVE, ne_w_AT_MOST_w_BELOW, ne_w_AT_MOST_w_ABOVE, ne_w_BELOW_w_ABOVE, -⟩ := id HW
  obtain ⟨T1, X1, e1, st1⟩ := getF X0 hx hZ hown (host := "") (Or.inl (hw _ (List.mem_of_getElem? (i := 10) rfl))) Via.refl e0 F_side_w_AT_LEAST (g := (mkF m 1 #[.val (.ref w_AT_LEAST)] [(.ref w_AT_LEAST)])) rfl rfl (hb hby d1_1)
  obtain ⟨T2, X2, e2, st2⟩ := getF X1 hx hZ hown (host := "") (Or.inl (hw _ (List.mem_of_getElem? (i := 12) rfl))) Via.refl e1 F_inclusive_w_AT_LEAST (g := (mkF m 6 #[.val (.ref w_AT_LEAST)] [(.ref w_AT_LEAST), (.int (-1 : Int32))])) rfl rfl (hb hby d1_6)
  obtain ⟨_, _, ⟨T3, L3, k3, n3⟩, -, X3, ⟨Lc3, hQ3, l3, y3, z3⟩, st3⟩ := Jvm.LawKit.callS X2 hx (y := (⟨"com/example/tierline/tierline/Bound", "toward", "(IZ)Lcom/example/tierline/tierline/Bound;"⟩ : MethodName)) hown (mvT hZ (hw _ (List.mem_of_getElem? (i := 14) rfl))) (mvT hZ (hw _ (List.mem_of_getElem? (i := 15) rfl))) (mvT hZ (hw _ (List.mem_of_getElem? (i := 1) rfl))) (mvT hZ (hw _ (List.mem_of_getElem? (i := 16) rfl))) (by decide) (backOf (W := 0) (rm2_0 l Z a0 hw [] w_AT_LEAST w_AT_MOST w_BELOW w_ABOVE h0 n0 Z0 HW) hZ (hw _ (List.mem_of_getElem? (i := 16) rfl)) (hw _ (List.mem_of_getElem? (i := 1) rfl)) (by decide) (by decide)) (g := (mkF m 9 #[.val (.ref w_AT_LEAST)] [(.int (1 : Int32)), (.int (-1 : Int32))])) rfl (by rw [hml]; rfl) (argsL := [(.int (-1 : Int32)), (.int (1 : Int32))]) (rest := []) (lenOf pd17 rfl) rfl (by show 2 * 0 + _ ≤ _; exact Nat.le_of_eq rfl) (hb hby d1_9) (fun _ _ => ⟨rfl, e2, (by decide : 0 + 0 ≤ _), (by decide : 0 + 0 ≤ _)⟩)
  dsimp only [Pt.U, Pt.locs, Pt.cells, Pt.slots] at X3 l3 y3 z3 st3 hQ3
  subst l3 y3 z3
  obtain ⟨rfl, N3q, e3⟩ := hQ3
  have N3 := Fr.app N0 N3q
  obtain ⟨fs, hr, hrun, hended, hW, hsame⟩ := X3.leave (v := some (.ref w_AT_MOST)) (fun h => by rw [Bd.returns] at h; cases h)
  refine ⟨_, _, pre0 _ ?_, hrun, hended, _, _, rfl, ?_, ⟨_, rfl⟩, hW, hsame.mono (by decide) (by decide)⟩
  · show Steps p.tables e below (s₁.setTop (mkF m 0 #[.val (.ref w_AT_LEAST)] [])) _
    refine XS.aloadN X0.here hx rfl (hb hby d1_0) rfl rfl ?_
    show Steps p.tables e below (s₁.setTop (mkF m 1 #[.val (.ref w_AT_LEAST)] [(.ref w_AT_LEAST)])) _
    refine st1 _ ?_
    show Steps p.tables e below (T1.setTop (mkF m 4 #[.val (.ref w_AT_LEAST)] [(.int (1 : Int32))])) _
    refine XS.ineg X1.here hx rfl (hb hby d1_4) rfl ?_
    rw [show (-(1 : Int32)) = (-1 : Int32) from by decide]
    show Steps p.tables e below (T1.setTop (mkF m 5 #[.val (.ref w_AT_LEAST)] [(.int (-1 : Int32))])) _
    refine XS.aloadN X1.here hx rfl (hb hby d1_5) rfl rfl ?_
    show Steps p.tables e below (T1.setTop (mkF m 6 #[.val (.ref w_AT_LEAST)] [(.ref w_AT_LEAST), (.int (-1 : Int32))])) _
    refine st2 _ ?_
    show Steps p.tables e below (T2.setTop (mkF m 9 #[.val (.ref w_AT_LEAST)] [(.int (1 : Int32)), (.int (-1 : Int32))])) _
    refine st3 _ ?_
    show Steps p.tables e below (T3.setTop (mkF m 12 #[.val (.ref w_AT_LEAST)] [(.ref w_AT_MOST)])) _
    jvm_step X3.here [X3.here.top, hx, (hb hby d1_12), X3.method', Bd.returns, Value.isRef, FieldType.isReference]
    first | (intro acts; rw [hr _ acts rfl rfl rfl]) | rw [hr _ _ rfl rfl rfl]
    exact Steps.refl _
  · exact ⟨rfl, N3, e3⟩
theorem pd22 : parseMethodDescriptor "()Lcom/example/tierline/tierline/Bound;" = some ⟨[], some (.object "com/example/tierline/tierline/Bound")⟩ := by decide +kernel
theorem ef24 (m : MethodId) (x0 : Int32) : entryFrame m #[(.int x0)] maxLocals = mkF m 0 #[.val (.int x0), .unset, .unset, .unset] [] := by first | (simp [entryFrame, mkF, argsToLocals, Value.category, maxLocals]; done) | rfl
theorem pn25 : plainName "com/example/tierline/tierline/BoundReversedPinLaw" = true := by first | (simp [plainName, overriddenIn]; done) | decide +kernel
def Q0 (h0 : Heap) (n0 : Nat) (v : Option Value) (h : Heap) (L : List Loc) : Prop := v = some (.int (1 : Int32)) ∧ Fr n0 L
set_option maxRecDepth 65536 in
set_option maxHeartbeats 40000000 in
theorem rm0_c0 (l : Launch) (Z : State) (a0 : Array Value) (hw : ∀ d ∈ tables_1, d.before a0 Z = true) (ws : List Jvm.Cond) (w_AT_LEAST : Addr) (w_AT_MOST : Addr) (w_BELOW : Addr) (w_ABOVE : Addr) (p1 : Int32) (h0 : Heap) (n0 : Nat) (Z0 : n0 ≤ h0.size) (HW : World Z h0 w_AT_LEAST w_AT_MOST w_BELOW w_ABOVE) (hk : (p1 &&& (3 : Int32)) = (0 : Int32)) :
    MetFree l x (head1 (Jvm.Cond.code x code maxLocals ret :: ws) room_1) (fun a U => a = #[(.int p1)] ∧ Z.Warmed39 U.vm ∧ U.heap = h0) (fun _ _ _ _ _ => True) (fun _ U o U' => ∃ v L, o = .returned v ∧ Q0 h0 n0 v U'.heap L ∧ FrameEnd U o U' L room_1.cells room_1.slots) := by
  refine MetFree.of_bodySF (plainFor_of_name pn25) hisR ?_
  intro p e s m args below meth c s₁ Bd hml0 hP hK
  obtain ⟨rfl, hZ, hh⟩ := hP
  have hx := Bd.exec
  have hby := Bd.bytes
  have hml : c.maxLocals = 4 := hml0
  have hown : s.vm.findClass "com/example/tierline/tierline/BoundReversedPinLaw" = some m.cls := findClass_of_methodNamed Bd.named
  have X0 : Stand p l e room_1 s m #[(.int p1)] below meth c s₁ [] 0 0 := Stand.of_body Bd
  have e0 : s₁.heap = h0 := by rw [← hh, Bd.state]; rfl
  have N0 := Fr.nil n0
  have pre0 : ∀ t, Steps p.tables e below (s₁.setTop (mkF m 0 #[.val (.int p1), .unset, .unset, .unset] [])) t → Steps p.tables e below (s₁.setTop (entryFrame m #[(.int p1)] maxLocals)) t := fun t k => castTop (ef24 m p1) k
  obtain ⟨S_w_AT_LEAST, E_w_AT_LEAST, S_w_AT_MOST, E_w_AT_MOST, S_w_BELOW, E_w_BELOW, S_w_ABOVE, E_w_ABOVE, F_side_w_AT_LEAST, F_inclusive_w_AT_LEAST, F_side_w_BELOW, F_inclusive_w_BELOW, F_side_w_ABOVE, F_inclusive_w_ABOVE, F_side_w_AT_MOST, F_inclusive_w_AT_MOST, ne_w_AT_LEAST_w_AT_MOST, ne_w_AT_LEAST_w_BELOW, ne_w_AT_LEAST_w_ABOVE, ne_w_AT_MOST_w_BELOW, ne_w_AT_MOST_w_ABOVE, ne_w_BELOW_w_ABOVE, -⟩ := id HW
  obtain ⟨T1, X1, e1, st1⟩ := getS2 X0 hx hZ hown (host := "") (Or.inl (hw _ (List.mem_of_getElem? (i := 0) rfl))) Via.refl e0 S_w_AT_LEAST (g := (mkF m 8 #[.val (.int p1), .val (.int (0 : Int32)), .unset, .unset] [])) rfl (hb hby at_8)
  obtain ⟨T2, X2, e2, st2⟩ := getS2 X1 hx hZ hown (host := "") (Or.inl (hw _ (List.mem_of_getElem? (i := 3) rfl))) Via.refl e1 S_w_AT_MOST (g := (mkF m 12 #[.val (.int p1), .val (.int (0 : Int32)), .val (.ref w_AT_LEAST), .unset] [])) rfl (hb hby at_12)
  obtain ⟨cq3, kq3, q3a, q3b, q3c⟩ := isOf hZ e2 E_w_AT_LEAST
  obtain ⟨_, _, ⟨T3, L3, k3, n3⟩, -, X3, ⟨Lc3, hQ3, l3, y3, z3⟩, st3⟩ := X2.virtualBack hx (y := (⟨"com/example/tierline/tierline/Bound", "reversed", "()Lcom/example/tierline/tierline/Bound;"⟩ : MethodName)) (z := (⟨"com/example/tierline/tierline/Bound", "reversed", "()Lcom/example/tierline/tierline/Bound;"⟩ : MethodName)) hown (mvT hZ (hw _ (List.mem_of_getElem? (i := 5) rfl))) (mvT hZ (hw _ (List.mem_of_getElem? (i := 6) rfl))) (notFace_of_selects (args := #[]) (mvT hZ (hw _ (List.mem_of_getElem? (i := 8) rfl)))) (mvT hZ (hw _ (List.mem_of_getElem? (i := 8) rfl))) (mvT hZ (hw _ (List.mem_of_getElem? (i := 7) rfl))) (by decide) (backOf (W := 0) (rm1_1 l Z a0 hw [] w_AT_LEAST w_AT_MOST w_BELOW w_ABOVE h0 n0 Z0 HW) hZ (hw _ (List.mem_of_getElem? (i := 9) rfl)) (hw _ (List.mem_of_getElem? (i := 1) rfl)) (by decide) (by decide)) q3a q3c (g := (mkF m 60 #[.val (.int p1), .val (.int (0 : Int32)), .val (.ref w_AT_LEAST), .val (.ref w_AT_MOST)] [(.ref w_AT_LEAST)])) rfl (by rw [hml]; rfl) (Steps.refl _) (argsL := []) (rest := []) (lenOf pd22 rfl) rfl (by show 2 * 0 + _ ≤ _; exact Nat.le_of_eq rfl) (hb hby at_60) (fun _ _ => ⟨rfl, e2, (by decide : 0 + 0 ≤ _), (by decide : 0 + 0 ≤ _)⟩)
  dsimp only [Pt.U, Pt.locs, Pt.cells, Pt.slots] at X3 l3 y3 z3 st3 hQ3
  subst l3 y3 z3
  obtain ⟨rfl, N3q, e3⟩ := hQ3
  have N3 := Fr.app N0 N3q
  obtain ⟨fs, hr, hrun, hended, hW, hsame⟩ := X3.leave (v := some (.int (1 : Int32))) (fun h => by rw [Bd.returns] at h; cases h)
  refine ⟨_, _, pre0 _ ?_, hrun, hended, _, _, rfl, ?_, ⟨_, rfl⟩, hW, hsame.mono (by decide) (by decide)⟩
  · show Steps p.tables e below (s₁.setTop (mkF m 0 #[.val (.int p1), .unset, .unset, .unset] [])) _
    refine XS.iloadN X0.here hx rfl (hb hby at_0) rfl ?_
    show Steps p.tables e below (s₁.setTop (mkF m 1 #[.val (.int p1), .unset, .unset, .unset] [(.int p1)])) _
    refine XS.iconst X0.here hx rfl (hb hby at_1) ?_
    show Steps p.tables e below (s₁.setTop (mkF m 2 #[.val (.int p1), .unset, .unset, .unset] [(.int (3 : Int32)), (.int p1)])) _
    refine XS.iand X0.here hx rfl (hb hby at_2) rfl ?_
    rw [hk]
    show Steps p.tables e below (s₁.setTop (mkF m 3 #[.val (.int p1), .unset, .unset, .unset] [(.int (0 : Int32))])) _
    refine XS.istoreN X0.here hx rfl (hb hby at_3) rfl (l' := #[.val (.int p1), .val (.int (0 : Int32)), .unset, .unset]) rfl ?_
    show Steps p.tables e below (s₁.setTop (mkF m 4 #[.val (.int p1), .val (.int (0 : Int32)), .unset, .unset] [])) _
    refine XS.iloadN X0.here hx rfl (hb hby at_4) rfl ?_
    show Steps p.tables e below (s₁.setTop (mkF m 5 #[.val (.int p1), .val (.int (0 : Int32)), .unset, .unset] [(.int (0 : Int32))])) _
    refine XS.ifNo X0.here hx rfl (hb hby at_5) rfl ((if0 _ _).trans (teq (by decide : (0 : Int32) = (0 : Int32))).2) ?_
    show Steps p.tables e below (s₁.setTop (mkF m 8 #[.val (.int p1), .val (.int (0 : Int32)), .unset, .unset] [])) _
    refine st1 _ ?_
    show Steps p.tables e below (T1.setTop (mkF m 11 #[.val (.int p1), .val (.int (0 : Int32)), .unset, .unset] [(.ref w_AT_LEAST)])) _
    refine XS.astoreN X1.here hx rfl (hb hby at_11) rfl rfl (l' := #[.val (.int p1), .val (.int (0 : Int32)), .val (.ref w_AT_LEAST), .unset]) rfl ?_
    show Steps p.tables e below (T1.setTop (mkF m 12 #[.val (.int p1), .val (.int (0 : Int32)), .val (.ref w_AT_LEAST), .unset] [])) _
    refine st2 _ ?_
    show Steps p.tables e below (T2.setTop (mkF m 15 #[.val (.int p1), .val (.int (0 : Int32)), .val (.ref w_AT_LEAST), .unset] [(.ref w_AT_MOST)])) _
    refine XS.astoreN X2.here hx rfl (hb hby at_15) rfl rfl (l' := #[.val (.int p1), .val (.int (0 : Int32)), .val (.ref w_AT_LEAST), .val (.ref w_AT_MOST)]) rfl ?_
    show Steps p.tables e below (T2.setTop (mkF m 16 #[.val (.int p1), .val (.int (0 : Int32)), .val (.ref w_AT_LEAST), .val (.ref w_AT_MOST)] [])) _
    refine XS.goto X2.here hx rfl (pc0 := 16) (pc' := 59) rfl (hb hby at_16) (by decide) (by decide) ?_
    show Steps p.tables e below (T2.setTop (mkF m 59 #[.val (.int p1), .val (.int (0 : Int32)), .val (.ref w_AT_LEAST), .val (.ref w_AT_MOST)] [])) _
    refine XS.aloadN X2.here hx rfl (hb hby at_59) rfl rfl ?_
    show Steps p.tables e below (T2.setTop (mkF m 60 #[.val (.int p1), .val (.int (0 : Int32)), .val (.ref w_AT_LEAST), .val (.ref w_AT_MOST)] [(.ref w_AT_LEAST)])) _
    refine st3.trans ?_
    show Steps p.tables e below (T3.setTop (mkF m 63 #[.val (.int p1), .val (.int (0 : Int32)), .val (.ref w_AT_LEAST), .val (.ref w_AT_MOST)] [(.ref w_AT_MOST)])) _
    refine XS.aloadN X3.here hx rfl (hb hby at_63) rfl rfl ?_
    show Steps p.tables e below (T3.setTop (mkF m 64 #[.val (.int p1), .val (.int (0 : Int32)), .val (.ref w_AT_LEAST), .val (.ref w_AT_MOST)] [(.ref w_AT_MOST), (.ref w_AT_MOST)])) _
    refine Jvm.RoadKit.acmp (g := (mkF m 64 #[.val (.int p1), .val (.int (0 : Int32)), .val (.ref w_AT_LEAST), .val (.ref w_AT_MOST)] [(.ref w_AT_MOST), (.ref w_AT_MOST)])) X3 hx rfl rfl rfl (pc0 := 64) (pc' := 67) (same := true) rfl (hb hby at_64) rfl (decide_eq_true rfl) (by decide) (by decide) ?_
    show Steps p.tables e below (T3.setTop (mkF m 67 #[.val (.int p1), .val (.int (0 : Int32)), .val (.ref w_AT_LEAST), .val (.ref w_AT_MOST)] [])) _
    refine XS.iconst X3.here hx rfl (hb hby at_67) ?_
    show Steps p.tables e below (T3.setTop (mkF m 68 #[.val (.int p1), .val (.int (0 : Int32)), .val (.ref w_AT_LEAST), .val (.ref w_AT_MOST)] [(.int (1 : Int32))])) _
    refine XS.goto X3.here hx rfl (pc0 := 68) (pc' := 72) rfl (hb hby at_68) (by decide) (by decide) ?_
    show Steps p.tables e below (T3.setTop (mkF m 72 #[.val (.int p1), .val (.int (0 : Int32)), .val (.ref w_AT_LEAST), .val (.ref w_AT_MOST)] [(.int (1 : Int32))])) _
    exact retN X3 hx (t := .boolean) Bd.returns (by simp) (hb hby at_72) hr
  · exact ⟨rfl, N3⟩
theorem d2_4 : decode prog_1_method_5_code 4 = .ok (.iload_n 1, 1) := by decide +kernel
theorem d2_5 : decode prog_1_method_5_code 5 = .ok (.ifCond .eq 9, 3) := by decide +kernel
theorem d2_8 : decode prog_1_method_5_code 8 = .ok (.getstatic 3, 3) := by decide +kernel
theorem d2_11 : decode prog_1_method_5_code 11 = .ok (.goto 6, 3) := by decide +kernel
theorem d2_17 : decode prog_1_method_5_code 17 = .ok (.astore_n 2, 1) := by decide +kernel
theorem d2_18 : decode prog_1_method_5_code 18 = .ok (.goto 17, 3) := by decide +kernel
def Q2_3 (Z : State) (w_AT_LEAST : Addr) (w_AT_MOST : Addr) (w_BELOW : Addr) (w_ABOVE : Addr) (h0 : Heap) (n0 : Nat) (v : Option Value) (h : Heap) (L : List Loc) : Prop := v = some (.ref w_AT_LEAST) ∧ Fr n0 L ∧ h = h0
set_option maxRecDepth 65536 in
set_option maxHeartbeats 40000000 in
theorem rm2_3 (l : Launch) (Z : State) (a0 : Array Value) (hw : ∀ d ∈ tables_1, d.before a0 Z = true) (ws : List Jvm.Cond) (w_AT_LEAST : Addr) (w_AT_MOST : Addr) (w_BELOW : Addr) (w_ABOVE : Addr) (h0 : Heap) (n0 : Nat) (Z0 : n0 ≤ h0.size) (HW : World Z h0 w_AT_LEAST w_AT_MOST w_BELOW w_ABOVE) :
    MetFree l (⟨"com/example/tierline/tierline/Bound", "toward", "(IZ)Lcom/example/tierline/tierline/Bound;"⟩ : MethodName) (head1 (Jvm.Cond.code (⟨"com/example/tierline/tierline/Bound", "toward", "(IZ)Lcom/example/tierline/tierline/Bound;"⟩ : MethodName) prog_1_method_5_code 3 (some (.object "com/example/tierline/tierline/Bound")) :: ws) ({ frames := 0, cells := 0, slots := 0, locals := 0 } : Room)) (fun a U => a = #[(.int (1 : Int32)), (.int (1 : Int32))] ∧ Z.Warmed39 U.vm ∧ U.heap = h0) (fun _ _ _ _ _ => True) (fun _ U o U' => ∃ v L, o = .returned v ∧ Q2_3 Z w_AT_LEAST w_AT_MOST w_BELOW w_ABOVE h0 n0 v U'.heap L ∧ FrameEnd U o U' L ({ frames := 0, cells := 0, slots := 0, locals := 0 } : Room).cells ({ frames := 0, cells := 0, slots := 0, locals := 0 } : Room).slots) := by
  refine MetFree.of_bodySF (plainFor_of_name pn16) hisR ?_
  intro p e s m args below meth c s₁ Bd hml0 hP hK
  obtain ⟨rfl, hZ, hh⟩ := hP
  have hx := Bd.exec
  have hby := Bd.bytes
  have hml : c.maxLocals = 3 := hml0
  have hown : s.vm.findClass "com/example/tierline/tierline/Bound" = some m.cls := findClass_of_methodNamed Bd.named
  have X0 : Stand p l e ({ frames := 0, cells := 0, slots := 0, locals := 0 } : Room) s m #[(.int (1 : Int32)), (.int (1 : Int32))] below meth c s₁ [] 0 0 := Stand.of_body Bd
  have e0 : s₁.heap = h0 := by rw [← hh, Bd.state]; rfl
  have N0 := Fr.nil n0
  have pre0 : ∀ t, Steps p.tables e below (s₁.setTop (mkF m 0 #[.val (.int (1 : Int32)), .val (.int (1 : Int32)), .unset] [])) t → Steps p.tables e below (s₁.setTop (entryFrame m #[(.int (1 : Int32)), (.int (1 : Int32))] 3)) t := fun t k => castTop (ef15 m (1 : Int32) (1 : Int32)) k
  obtain ⟨S_w_AT_LEAST, E_w_AT_LEAST, S_w_AT_MOST, E_w_AT_MOST, S_w_BELOW, E_w_BELOW, S_w_ABOVE, E_w_ABOVE, F_side_w_AT_LEAST, F_inclusive_w_AT_LEAST, F_side_w_BELOW, F_inclusive_w_BELOW, F_side_w_ABOVE, F_inclusive_w_ABOVE, F_side_w_AT_MOST, F_inclusive_w_AT_MOST, ne_w_AT_LEAST_w_AT_MOST, ne_w_AT_LEAST_w_BELOW, ne_w_AT_LEAST_w_ABOVE, ne_w_AT_MOST_w_BELOW, ne_w_AT_MOST_w_ABOVE, ne_w_BELOW_w_ABOVE, -⟩ := id HW
  obtain ⟨T1, X1, e1, st1⟩ := getS2 X0 hx hZ hown (host := "") (Or.inl (hw _ (List.mem_of_getElem? (i := 24) rfl))) Via.refl e0 S_w_AT_LEAST (g := (mkF m 8 #[.val (.int (1 : Int32)), .val (.int (1 : Int32)), .unset] [])) rfl (hb hby d2_8)
  obtain ⟨fs, hr, hrun, hended, hW, hsame⟩ := X1.leave (v := some (.ref w_AT_LEAST)) (fun h => by rw [Bd.returns] at h; cases h)
  refine ⟨_, _, pre0 _ ?_, hrun, hended, _, _, rfl, ?_, ⟨_, rfl⟩, hW, hsame.mono (by decide) (by decide)⟩
  · show Steps p.tables e below (s₁.setTop (mkF m 0 #[.val (.int (1 : Int32)), .val (.int (1 : Int32)), .unset] [])) _
    refine XS.iloadN X0.here hx rfl (hb hby d2_0) rfl ?_
    show Steps p.tables e below (s₁.setTop (mkF m 1 #[.val (.int (1 : Int32)), .val (.int (1 : Int32)), .unset] [(.int (1 : Int32))])) _
    refine XS.ifNo X0.here hx rfl (hb hby d2_1) rfl ((if0 _ _).trans (tlt (by decide : (0 : Int32) < (1 : Int32))).2.2.2) ?_
    show Steps p.tables e below (s₁.setTop (mkF m 4 #[.val (.int (1 : Int32)), .val (.int (1 : Int32)), .unset] [])) _
    refine XS.iloadN X0.here hx rfl (hb hby d2_4) rfl ?_
    show Steps p.tables e below (s₁.setTop (mkF m 5 #[.val (.int (1 : Int32)), .val (.int (1 : Int32)), .unset] [(.int (1 : Int32))])) _
    refine XS.ifNo X0.here hx rfl (hb hby d2_5) rfl ((if0 _ _).trans (feq (by decide : ¬ ((1 : Int32) = (0 : Int32)))).1) ?_
    show Steps p.tables e below (s₁.setTop (mkF m 8 #[.val (.int (1 : Int32)), .val (.int (1 : Int32)), .unset] [])) _
    refine st1 _ ?_
    show Steps p.tables e below (T1.setTop (mkF m 11 #[.val (.int (1 : Int32)), .val (.int (1 : Int32)), .unset] [(.ref w_AT_LEAST)])) _
    refine XS.goto X1.here hx rfl (pc0 := 11) (pc' := 17) rfl (hb hby d2_11) (by decide) (by decide) ?_
    show Steps p.tables e below (T1.setTop (mkF m 17 #[.val (.int (1 : Int32)), .val (.int (1 : Int32)), .unset] [(.ref w_AT_LEAST)])) _
    refine XS.astoreN X1.here hx rfl (hb hby d2_17) rfl rfl (l' := #[.val (.int (1 : Int32)), .val (.int (1 : Int32)), .val (.ref w_AT_LEAST)]) rfl ?_
    show Steps p.tables e below (T1.setTop (mkF m 18 #[.val (.int (1 : Int32)), .val (.int (1 : Int32)), .val (.ref w_AT_LEAST)] [])) _
    refine XS.goto X1.here hx rfl (pc0 := 18) (pc' := 35) rfl (hb hby d2_18) (by decide) (by decide) ?_
    show Steps p.tables e below (T1.setTop (mkF m 35 #[.val (.int (1 : Int32)), .val (.int (1 : Int32)), .val (.ref w_AT_LEAST)] [])) _
    refine XS.aloadN X1.here hx rfl (hb hby d2_35) rfl rfl ?_
    show Steps p.tables e below (T1.setTop (mkF m 36 #[.val (.int (1 : Int32)), .val (.int (1 : Int32)), .val (.ref w_AT_LEAST)] [(.ref w_AT_LEAST)])) _
    jvm_step X1.here [X1.here.top, hx, (hb hby d2_36), X1.method', Bd.returns, Value.isRef, FieldType.isReference]
    first | (intro acts; rw [hr _ acts rfl rfl rfl]) | rw [hr _ _ rfl rfl rfl]
    exact Steps.refl _
  · exact ⟨rfl, N0, e1⟩
def Q1_4 (Z : State) (w_AT_LEAST : Addr) (w_AT_MOST : Addr) (w_BELOW : Addr) (w_ABOVE : Addr) (h0 : Heap) (n0 : Nat) (v : Option Value) (h : Heap) (L : List Loc) : Prop := v = some (.ref w_AT_LEAST) ∧ Fr n0 L ∧ h = h0
set_option maxRecDepth 65536 in
set_option maxHeartbeats 40000000 in
theorem rm1_4 (l : Launch) (Z : State) (a0 : Array Value) (hw : ∀ d ∈ tables_1, d.before a0 Z = true) (ws : List Jvm.Cond) (w_AT_LEAST : Addr) (w_AT_MOST : Addr) (w_BELOW : Addr) (w_ABOVE : Addr) (h0 : Heap) (n0 : Nat) (Z0 : n0 ≤ h0.size) (HW : World Z h0 w_AT_LEAST w_AT_MOST w_BELOW w_ABOVE) :
    MetFree l (⟨"com/example/tierline/tierline/Bound", "reversed", "()Lcom/example/tierline/tierline/Bound;"⟩ : MethodName) (head1 (Jvm.Cond.code (⟨"com/example/tierline/tierline/Bound", "reversed", "()Lcom/example/tierline/tierline/Bound;"⟩ : MethodName) prog_1_method_7_code 1 (some (.object "com/example/tierline/tierline/Bound")) :: ws) ({ frames := 1, cells := 0, slots := 0, locals := 14 } : Room)) (fun a U => a = #[(.ref w_AT_MOST)] ∧ Z.Warmed39 U.vm ∧ U.heap = h0) (fun _ _ _ _ _ => True) (fun _ U o U' => ∃ v L, o = .returned v ∧ Q1_4 Z w_AT_LEAST w_AT_MOST w_BELOW w_ABOVE h0 n0 v U'.heap L ∧ FrameEnd U o U' L ({ frames := 1, cells := 0, slots := 0, locals := 14 } : Room).cells ({ frames := 1, cells := 0, slots := 0, locals := 14 } : Room).slots) := by
  refine MetFree.of_bodySF (plainFor_of_name pn16) hisR ?_
  intro p e s m args below meth c s₁ Bd hml0 hP hK
  obtain ⟨rfl, hZ, hh⟩ := hP
  have hx := Bd.exec
  have hby := Bd.bytes
  have hml : c.maxLocals = 1 := hml0
  have hown : s.vm.findClass "com/example/tierline/tierline/Bound" = some m.cls := findClass_of_methodNamed Bd.named
  have X0 : Stand p l e ({ frames := 1, cells := 0, slots := 0, locals := 14 } : Room) s m #[(.ref w_AT_MOST)] below meth c s₁ [] 0 0 := Stand.of_body Bd
  have e0 : s₁.heap = h0 := by rw [← hh, Bd.state]; rfl
  have N0 := Fr.nil n0
  have pre0 : ∀ t, Steps p.tables e below (s₁.setTop (mkF m 0 #[.val (.ref w_AT_MOST)] [])) t → Steps p.tables e below (s₁.setTop (entryFrame m #[(.ref w_AT_MOST)] 1)) t := fun t k => castTop (ef21 m w_AT_MOST) k
  obtain ⟨S_w_AT_LEAST, E_w_AT_LEAST, S_w_AT_MOST, E_w_AT_MOST, S_w_BELOW, E_w_BELOW, S_w_ABOVE, E_w_ABOVE, F_side_w_AT_LEAST, F_inclusive_w_AT_LEAST, F_side_w_BELOW, F_inclusive_w_BELOW, F_side_w_ABOVE, F_inclusive_w_ABOVE, F_side_w_AT_MOST, F_inclusive_w_AT_MOST, ne_w_AT_LEAST_w_AT_MOST, ne_w_AT_LEAST_w_BELOW, ne_w_AT_LEAST_w_ABOVE, ne_w_AT_MOST_w_BELOW, ne_w_AT_MOST_w_ABOVE, ne_w_BELOW_w_ABOVE, -⟩ := id HW
  obtain ⟨T1, X1, e1, st1⟩ := getF X0 hx hZ hown (host := "") (Or.inl (hw _ (List.mem_of_getElem? (i := 10) rfl))) Via.refl e0 F_side_w_AT_MOST (g := (mkF m 1 #[.val (.ref w_AT_MOST)] [(.ref w_AT_MOST)])) rfl rfl (hb hby d1_1)
  obtain ⟨T2, X2, e2, st2⟩ := getF X1 hx hZ hown (host := "") (Or.inl (hw _ (List.mem_of_getElem? (i := 12) rfl))) Via.refl e1 F_inclusive_w_AT_MOST (g := (mkF m 6 #[.val (.ref w_AT_MOST)] [(.ref w_AT_MOST), (.int (1 : Int32))])) rfl rfl (hb hby d1_6)
  obtain ⟨_, _, ⟨T3, L3, k3, n3⟩, -, X3, ⟨Lc3, hQ3, l3, y3, z3⟩, st3⟩ := Jvm.LawKit.callS X2 hx (y := (⟨"com/example/tierline/tierline/Bound", "toward", "(IZ)Lcom/example/tierline/tierline/Bound;"⟩ : MethodName)) hown (mvT hZ (hw _ (List.mem_of_getElem? (i := 14) rfl))) (mvT hZ (hw _ (List.mem_of_getElem? (i := 15) rfl))) (mvT hZ (hw _ (List.mem_of_getElem? (i := 1) rfl))) (mvT hZ (hw _ (List.mem_of_getElem? (i := 16) rfl))) (by decide) (backOf (W := 0) (rm2_3 l Z a0 hw [] w_AT_LEAST w_AT_MOST w_BELOW w_ABOVE h0 n0 Z0 HW) hZ (hw _ (List.mem_of_getElem? (i := 16) rfl)) (hw _ (List.mem_of_getElem? (i := 1) rfl)) (by decide) (by decide)) (g := (mkF m 9 #[.val (.ref w_AT_MOST)] [(.int (1 : Int32)), (.int (1 : Int32))])) rfl (by rw [hml]; rfl) (argsL := [(.int (1 : Int32)), (.int (1 : Int32))]) (rest := []) (lenOf pd17 rfl) rfl (by show 2 * 0 + _ ≤ _; exact Nat.le_of_eq rfl) (hb hby d1_9) (fun _ _ => ⟨rfl, e2, (by decide : 0 + 0 ≤ _), (by decide : 0 + 0 ≤ _)⟩)
  dsimp only [Pt.U, Pt.locs, Pt.cells, Pt.slots] at X3 l3 y3 z3 st3 hQ3
  subst l3 y3 z3
  obtain ⟨rfl, N3q, e3⟩ := hQ3
  have N3 := Fr.app N0 N3q
  obtain ⟨fs, hr, hrun, hended, hW, hsame⟩ := X3.leave (v := some (.ref w_AT_LEAST)) (fun h => by rw [Bd.returns] at h; cases h)
  refine ⟨_, _, pre0 _ ?_, hrun, hended, _, _, rfl, ?_, ⟨_, rfl⟩, hW, hsame.mono (by decide) (by decide)⟩
  · show Steps p.tables e below (s₁.setTop (mkF m 0 #[.val (.ref w_AT_MOST)] [])) _
    refine XS.aloadN X0.here hx rfl (hb hby d1_0) rfl rfl ?_
    show Steps p.tables e below (s₁.setTop (mkF m 1 #[.val (.ref w_AT_MOST)] [(.ref w_AT_MOST)])) _
    refine st1 _ ?_
    show Steps p.tables e below (T1.setTop (mkF m 4 #[.val (.ref w_AT_MOST)] [(.int (-1 : Int32))])) _
    refine XS.ineg X1.here hx rfl (hb hby d1_4) rfl ?_
    rw [show (-(-1 : Int32)) = (1 : Int32) from by decide]
    show Steps p.tables e below (T1.setTop (mkF m 5 #[.val (.ref w_AT_MOST)] [(.int (1 : Int32))])) _
    refine XS.aloadN X1.here hx rfl (hb hby d1_5) rfl rfl ?_
    show Steps p.tables e below (T1.setTop (mkF m 6 #[.val (.ref w_AT_MOST)] [(.ref w_AT_MOST), (.int (1 : Int32))])) _
    refine st2 _ ?_
    show Steps p.tables e below (T2.setTop (mkF m 9 #[.val (.ref w_AT_MOST)] [(.int (1 : Int32)), (.int (1 : Int32))])) _
    refine st3 _ ?_
    show Steps p.tables e below (T3.setTop (mkF m 12 #[.val (.ref w_AT_MOST)] [(.ref w_AT_LEAST)])) _
    jvm_step X3.here [X3.here.top, hx, (hb hby d1_12), X3.method', Bd.returns, Value.isRef, FieldType.isReference]
    first | (intro acts; rw [hr _ acts rfl rfl rfl]) | rw [hr _ _ rfl rfl rfl]
    exact Steps.refl _
  · exact ⟨rfl, N3, e3⟩
set_option maxRecDepth 65536 in
set_option maxHeartbeats 40000000 in
theorem rm0_c1 (l : Launch) (Z : State) (a0 : Array Value) (hw : ∀ d ∈ tables_1, d.before a0 Z = true) (ws : List Jvm.Cond) (w_AT_LEAST : Addr) (w_AT_MOST : Addr) (w_BELOW : Addr) (w_ABOVE : Addr) (p1 : Int32) (h0 : Heap) (n0 : Nat) (Z0 : n0 ≤ h0.size) (HW : World Z h0 w_AT_LEAST w_AT_MOST w_BELOW w_ABOVE) (hk : (p1 &&& (3 : Int32)) = (1 : Int32)) :
    MetFree l x (head1 (Jvm.Cond.code x code maxLocals ret :: ws) room_1) (fun a U => a = #[(.int p1)] ∧ Z.Warmed39 U.vm ∧ U.heap = h0) (fun _ _ _ _ _ => True) (fun _ U o U' => ∃ v L, o = .returned v ∧ Q0 h0 n0 v U'.heap L ∧ FrameEnd U o U' L room_1.cells room_1.slots) := by
  refine MetFree.of_bodySF (plainFor_of_name pn25) hisR ?_
  intro p e s m args below meth c s₁ Bd hml0 hP hK
  obtain ⟨rfl, hZ, hh⟩ := hP
  have hx := Bd.exec
  have hby := Bd.bytes
  have hml : c.maxLocals = 4 := hml0
  have hown : s.vm.findClass "com/example/tierline/tierline/BoundReversedPinLaw" = some m.cls := findClass_of_methodNamed Bd.named
  have X0 : Stand p l e room_1 s m #[(.int p1)] below meth c s₁ [] 0 0 := Stand.of_body Bd
  have e0 : s₁.heap = h0 := by rw [← hh, Bd.state]; rfl
  have N0 := Fr.nil n0
  have pre0 : ∀ t, Steps p.tables e below (s₁.setTop (mkF m 0 #[.val (.int p1), .unset, .unset, .unset] [])) t → Steps p.tables e below (s₁.setTop (entryFrame m #[(.int p1)] maxLocals)) t := fun t k => castTop (ef24 m p1) k
  obtain ⟨S_w_AT_LEAST, E_w_AT_LEAST, S_w_AT_MOST, E_w_AT_MOST, S_w_BELOW, E_w_BELOW, S_w_ABOVE, E_w_ABOVE, F_side_w_AT_LEAST, F_inclusive_w_AT_LEAST, F_side_w_BELOW, F_inclusive_w_BELOW, F_side_w_ABOVE, F_inclusive_w_ABOVE, F_side_w_AT_MOST, F_inclusive_w_AT_MOST, ne_w_AT_LEAST_w_AT_MOST, ne_w_AT_LEAST_w_BELOW, ne_w_AT_LEAST_w_ABOVE, ne_w_AT_MOST_w_BELOW, ne_w_AT_MOST_w_ABOVE, ne_w_BELOW_w_ABOVE, -⟩ := id HW
  obtain ⟨T1, X1, e1, st1⟩ := getS2 X0 hx hZ hown (host := "") (Or.inl (hw _ (List.mem_of_getElem? (i := 3) rfl))) Via.refl e0 S_w_AT_MOST (g := (mkF m 24 #[.val (.int p1), .val (.int (1 : Int32)), .unset, .unset] [])) rfl (hb hby at_24)
  obtain ⟨T2, X2, e2, st2⟩ := getS2 X1 hx hZ hown (host := "") (Or.inl (hw _ (List.mem_of_getElem? (i := 0) rfl))) Via.refl e1 S_w_AT_LEAST (g := (mkF m 28 #[.val (.int p1), .val (.int (1 : Int32)), .val (.ref w_AT_MOST), .unset] [])) rfl (hb hby at_28)
  obtain ⟨cq3, kq3, q3a, q3b, q3c⟩ := isOf hZ e2 E_w_AT_MOST
  obtain ⟨_, _, ⟨T3, L3, k3, n3⟩, -, X3, ⟨Lc3, hQ3, l3, y3, z3⟩, st3⟩ := X2.virtualBack hx (y := (⟨"com/example/tierline/tierline/Bound", "reversed", "()Lcom/example/tierline/tierline/Bound;"⟩ : MethodName)) (z := (⟨"com/example/tierline/tierline/Bound", "reversed", "()Lcom/example/tierline/tierline/Bound;"⟩ : MethodName)) hown (mvT hZ (hw _ (List.mem_of_getElem? (i := 5) rfl))) (mvT hZ (hw _ (List.mem_of_getElem? (i := 6) rfl))) (notFace_of_selects (args := #[]) (mvT hZ (hw _ (List.mem_of_getElem? (i := 8) rfl)))) (mvT hZ (hw _ (List.mem_of_getElem? (i := 8) rfl))) (mvT hZ (hw _ (List.mem_of_getElem? (i := 7) rfl))) (by decide) (backOf (W := 0) (rm1_4 l Z a0 hw [] w_AT_LEAST w_AT_MOST w_BELOW w_ABOVE h0 n0 Z0 HW) hZ (hw _ (List.mem_of_getElem? (i := 9) rfl)) (hw _ (List.mem_of_getElem? (i := 1) rfl)) (by decide) (by decide)) q3a q3c (g := (mkF m 60 #[.val (.int p1), .val (.int (1 : Int32)), .val (.ref w_AT_MOST), .val (.ref w_AT_LEAST)] [(.ref w_AT_MOST)])) rfl (by rw [hml]; rfl) (Steps.refl _) (argsL := []) (rest := []) (lenOf pd22 rfl) rfl (by show 2 * 0 + _ ≤ _; exact Nat.le_of_eq rfl) (hb hby at_60) (fun _ _ => ⟨rfl, e2, (by decide : 0 + 0 ≤ _), (by decide : 0 + 0 ≤ _)⟩)
  dsimp only [Pt.U, Pt.locs, Pt.cells, Pt.slots] at X3 l3 y3 z3 st3 hQ3
  subst l3 y3 z3
  obtain ⟨rfl, N3q, e3⟩ := hQ3
  have N3 := Fr.app N0 N3q
  obtain ⟨fs, hr, hrun, hended, hW, hsame⟩ := X3.leave (v := some (.int (1 : Int32))) (fun h => by rw [Bd.returns] at h; cases h)
  refine ⟨_, _, pre0 _ ?_, hrun, hended, _, _, rfl, ?_, ⟨_, rfl⟩, hW, hsame.mono (by decide) (by decide)⟩
  · show Steps p.tables e below (s₁.setTop (mkF m 0 #[.val (.int p1), .unset, .unset, .unset] [])) _
    refine XS.iloadN X0.here hx rfl (hb hby at_0) rfl ?_
    show Steps p.tables e below (s₁.setTop (mkF m 1 #[.val (.int p1), .unset, .unset, .unset] [(.int p1)])) _
    refine XS.iconst X0.here hx rfl (hb hby at_1) ?_
    show Steps p.tables e below (s₁.setTop (mkF m 2 #[.val (.int p1), .unset, .unset, .unset] [(.int (3 : Int32)), (.int p1)])) _
    refine XS.iand X0.here hx rfl (hb hby at_2) rfl ?_
    rw [hk]
    show Steps p.tables e below (s₁.setTop (mkF m 3 #[.val (.int p1), .unset, .unset, .unset] [(.int (1 : Int32))])) _
    refine XS.istoreN X0.here hx rfl (hb hby at_3) rfl (l' := #[.val (.int p1), .val (.int (1 : Int32)), .unset, .unset]) rfl ?_
    show Steps p.tables e below (s₁.setTop (mkF m 4 #[.val (.int p1), .val (.int (1 : Int32)), .unset, .unset] [])) _
    refine XS.iloadN X0.here hx rfl (hb hby at_4) rfl ?_
    show Steps p.tables e below (s₁.setTop (mkF m 5 #[.val (.int p1), .val (.int (1 : Int32)), .unset, .unset] [(.int (1 : Int32))])) _
    refine XS.ifYes X0.here hx rfl (pc0 := 5) (pc' := 19) rfl (hb hby at_5) rfl ((if0 _ _).trans (feq (by decide : ¬ ((1 : Int32) = (0 : Int32)))).2) (by decide) (by decide) ?_
    show Steps p.tables e below (s₁.setTop (mkF m 19 #[.val (.int p1), .val (.int (1 : Int32)), .unset, .unset] [])) _
    refine XS.iloadN X0.here hx rfl (hb hby at_19) rfl ?_
    show Steps p.tables e below (s₁.setTop (mkF m 20 #[.val (.int p1), .val (.int (1 : Int32)), .unset, .unset] [(.int (1 : Int32))])) _
    refine XS.iconst X0.here hx rfl (hb hby at_20) ?_
    show Steps p.tables e below (s₁.setTop (mkF m 21 #[.val (.int p1), .val (.int (1 : Int32)), .unset, .unset] [(.int (1 : Int32)), (.int (1 : Int32))])) _
    refine XS.icmpNo X0.here hx rfl (hb hby at_21) rfl (teq (by decide : (1 : Int32) = (1 : Int32))).2 ?_
    show Steps p.tables e below (s₁.setTop (mkF m 24 #[.val (.int p1), .val (.int (1 : Int32)), .unset, .unset] [])) _
    refine st1 _ ?_
    show Steps p.tables e below (T1.setTop (mkF m 27 #[.val (.int p1), .val (.int (1 : Int32)), .unset, .unset] [(.ref w_AT_MOST)])) _
    refine XS.astoreN X1.here hx rfl (hb hby at_27) rfl rfl (l' := #[.val (.int p1), .val (.int (1 : Int32)), .val (.ref w_AT_MOST), .unset]) rfl ?_
    show Steps p.tables e below (T1.setTop (mkF m 28 #[.val (.int p1), .val (.int (1 : Int32)), .val (.ref w_AT_MOST), .unset] [])) _
    refine st2 _ ?_
    show Steps p.tables e below (T2.setTop (mkF m 31 #[.val (.int p1), .val (.int (1 : Int32)), .val (.ref w_AT_MOST), .unset] [(.ref w_AT_LEAST)])) _
    refine XS.astoreN X2.here hx rfl (hb hby at_31) rfl rfl (l' := #[.val (.int p1), .val (.int (1 : Int32)), .val (.ref w_AT_MOST), .val (.ref w_AT_LEAST)]) rfl ?_
    show Steps p.tables e below (T2.setTop (mkF m 32 #[.val (.int p1), .val (.int (1 : Int32)), .val (.ref w_AT_MOST), .val (.ref w_AT_LEAST)] [])) _
    refine XS.goto X2.here hx rfl (pc0 := 32) (pc' := 59) rfl (hb hby at_32) (by decide) (by decide) ?_
    show Steps p.tables e below (T2.setTop (mkF m 59 #[.val (.int p1), .val (.int (1 : Int32)), .val (.ref w_AT_MOST), .val (.ref w_AT_LEAST)] [])) _
    refine XS.aloadN X2.here hx rfl (hb hby at_59) rfl rfl ?_
    show Steps p.tables e below (T2.setTop (mkF m 60 #[.val (.int p1), .val (.int (1 : Int32)), .val (.ref w_AT_MOST), .val (.ref w_AT_LEAST)] [(.ref w_AT_MOST)])) _
    refine st3.trans ?_
    show Steps p.tables e below (T3.setTop (mkF m 63 #[.val (.int p1), .val (.int (1 : Int32)), .val (.ref w_AT_MOST), .val (.ref w_AT_LEAST)] [(.ref w_AT_LEAST)])) _
    refine XS.aloadN X3.here hx rfl (hb hby at_63) rfl rfl ?_
    show Steps p.tables e below (T3.setTop (mkF m 64 #[.val (.int p1), .val (.int (1 : Int32)), .val (.ref w_AT_MOST), .val (.ref w_AT_LEAST)] [(.ref w_AT_LEAST), (.ref w_AT_LEAST)])) _
    refine Jvm.RoadKit.acmp (g := (mkF m 64 #[.val (.int p1), .val (.int (1 : Int32)), .val (.ref w_AT_MOST), .val (.ref w_AT_LEAST)] [(.ref w_AT_LEAST), (.ref w_AT_LEAST)])) X3 hx rfl rfl rfl (pc0 := 64) (pc' := 67) (same := true) rfl (hb hby at_64) rfl (decide_eq_true rfl) (by decide) (by decide) ?_
    show Steps p.tables e below (T3.setTop (mkF m 67 #[.val (.int p1), .val (.int (1 : Int32)), .val (.ref w_AT_MOST), .val (.ref w_AT_LEAST)] [])) _
    refine XS.iconst X3.here hx rfl (hb hby at_67) ?_
    show Steps p.tables e below (T3.setTop (mkF m 68 #[.val (.int p1), .val (.int (1 : Int32)), .val (.ref w_AT_MOST), .val (.ref w_AT_LEAST)] [(.int (1 : Int32))])) _
    refine XS.goto X3.here hx rfl (pc0 := 68) (pc' := 72) rfl (hb hby at_68) (by decide) (by decide) ?_
    show Steps p.tables e below (T3.setTop (mkF m 72 #[.val (.int p1), .val (.int (1 : Int32)), .val (.ref w_AT_MOST), .val (.ref w_AT_LEAST)] [(.int (1 : Int32))])) _
    exact retN X3 hx (t := .boolean) Bd.returns (by simp) (hb hby at_72) hr
  · exact ⟨rfl, N3⟩
theorem d2_31 : decode prog_1_method_5_code 31 = .ok (.getstatic 13, 3) := by decide +kernel
def Q2_6 (Z : State) (w_AT_LEAST : Addr) (w_AT_MOST : Addr) (w_BELOW : Addr) (w_ABOVE : Addr) (h0 : Heap) (n0 : Nat) (v : Option Value) (h : Heap) (L : List Loc) : Prop := v = some (.ref w_BELOW) ∧ Fr n0 L ∧ h = h0
set_option maxRecDepth 65536 in
set_option maxHeartbeats 40000000 in
theorem rm2_6 (l : Launch) (Z : State) (a0 : Array Value) (hw : ∀ d ∈ tables_1, d.before a0 Z = true) (ws : List Jvm.Cond) (w_AT_LEAST : Addr) (w_AT_MOST : Addr) (w_BELOW : Addr) (w_ABOVE : Addr) (h0 : Heap) (n0 : Nat) (Z0 : n0 ≤ h0.size) (HW : World Z h0 w_AT_LEAST w_AT_MOST w_BELOW w_ABOVE) :
    MetFree l (⟨"com/example/tierline/tierline/Bound", "toward", "(IZ)Lcom/example/tierline/tierline/Bound;"⟩ : MethodName) (head1 (Jvm.Cond.code (⟨"com/example/tierline/tierline/Bound", "toward", "(IZ)Lcom/example/tierline/tierline/Bound;"⟩ : MethodName) prog_1_method_5_code 3 (some (.object "com/example/tierline/tierline/Bound")) :: ws) ({ frames := 0, cells := 0, slots := 0, locals := 0 } : Room)) (fun a U => a = #[(.int (-1 : Int32)), (.int (0 : Int32))] ∧ Z.Warmed39 U.vm ∧ U.heap = h0) (fun _ _ _ _ _ => True) (fun _ U o U' => ∃ v L, o = .returned v ∧ Q2_6 Z w_AT_LEAST w_AT_MOST w_BELOW w_ABOVE h0 n0 v U'.heap L ∧ FrameEnd U o U' L ({ frames := 0, cells := 0, slots := 0, locals := 0 } : Room).cells ({ frames := 0, cells := 0, slots := 0, locals := 0 } : Room).slots) := by
  refine MetFree.of_bodySF (plainFor_of_name pn16) hisR ?_
  intro p e s m args below meth c s₁ Bd hml0 hP hK
  obtain ⟨rfl, hZ, hh⟩ := hP
  have hx := Bd.exec
  have hby := Bd.bytes
  have hml : c.maxLocals = 3 := hml0
  have hown : s.vm.findClass "com/example/tierline/tierline/Bound" = some m.cls := findClass_of_methodNamed Bd.named
  have X0 : Stand p l e ({ frames := 0, cells := 0, slots := 0, locals := 0 } : Room) s m #[(.int (-1 : Int32)), (.int (0 : Int32))] below meth c s₁ [] 0 0 := Stand.of_body Bd
  have e0 : s₁.heap = h0 := by rw [← hh, Bd.state]; rfl
  have N0 := Fr.nil n0
  have pre0 : ∀ t, Steps p.tables e below (s₁.setTop (mkF m 0 #[.val (.int (-1 : Int32)), .val (.int (0 : Int32)), .unset] [])) t → Steps p.tables e below (s₁.setTop (entryFrame m #[(.int (-1 : Int32)), (.int (0 : Int32))] 3)) t := fun t k => castTop (ef15 m (-1 : Int32) (0 : Int32)) k
  obtain ⟨S_w_AT_LEAST, E_w_AT_LEAST, S_w_AT_MOST, E_w_AT_MOST, S_w_BELOW, E_w_BELOW, S_w_ABOVE, E_w_ABOVE, F_side_w_AT_LEAST, F_inclusive_w_AT_LEAST, F_side_w_BELOW, F_inclusive_w_BELOW, F_side_w_ABOVE, F_inclusive_w_ABOVE, F_side_w_AT_MOST, F_inclusive_w_AT_MOST, ne_w_AT_LEAST_w_AT_MOST, ne_w_AT_LEAST_w_BELOW, ne_w_AT_LEAST_w_ABOVE, ne_w_AT_MOST_w_BELOW, ne_w_AT_MOST_w_ABOVE, ne_w_BELOW_w_ABOVE, -⟩ := id HW
  obtain ⟨T1, X1, e1, st1⟩ := getS2 X0 hx hZ hown (host := "") (Or.inl (hw _ (List.mem_of_getElem? (i := 23) rfl))) Via.refl e0 S_w_BELOW (g := (mkF m 31 #[.val (.int (-1 : Int32)), .val (.int (0 : Int32)), .unset] [])) rfl (hb hby d2_31)
  obtain ⟨fs, hr, hrun, hended, hW, hsame⟩ := X1.leave (v := some (.ref w_BELOW)) (fun h => by rw [Bd.returns] at h; cases h)
  refine ⟨_, _, pre0 _ ?_, hrun, hended, _, _, rfl, ?_, ⟨_, rfl⟩, hW, hsame.mono (by decide) (by decide)⟩
  · show Steps p.tables e below (s₁.setTop (mkF m 0 #[.val (.int (-1 : Int32)), .val (.int (0 : Int32)), .unset] [])) _
    refine XS.iloadN X0.here hx rfl (hb hby d2_0) rfl ?_
    show Steps p.tables e below (s₁.setTop (mkF m 1 #[.val (.int (-1 : Int32)), .val (.int (0 : Int32)), .unset] [(.int (-1 : Int32))])) _
    refine XS.ifYes X0.here hx rfl (pc0 := 1) (pc' := 21) rfl (hb hby d2_1) rfl ((if0 _ _).trans (flt (by decide : ¬ ((0 : Int32) < (-1 : Int32)))).2.2.2) (by decide) (by decide) ?_
    show Steps p.tables e below (s₁.setTop (mkF m 21 #[.val (.int (-1 : Int32)), .val (.int (0 : Int32)), .unset] [])) _
    refine XS.iloadN X0.here hx rfl (hb hby d2_21) rfl ?_
    show Steps p.tables e below (s₁.setTop (mkF m 22 #[.val (.int (-1 : Int32)), .val (.int (0 : Int32)), .unset] [(.int (0 : Int32))])) _
    refine XS.ifYes X0.here hx rfl (pc0 := 22) (pc' := 31) rfl (hb hby d2_22) rfl ((if0 _ _).trans (teq (by decide : (0 : Int32) = (0 : Int32))).1) (by decide) (by decide) ?_
    show Steps p.tables e below (s₁.setTop (mkF m 31 #[.val (.int (-1 : Int32)), .val (.int (0 : Int32)), .unset] [])) _
    refine st1 _ ?_
    show Steps p.tables e below (T1.setTop (mkF m 34 #[.val (.int (-1 : Int32)), .val (.int (0 : Int32)), .unset] [(.ref w_BELOW)])) _
    refine XS.astoreN X1.here hx rfl (hb hby d2_34) rfl rfl (l' := #[.val (.int (-1 : Int32)), .val (.int (0 : Int32)), .val (.ref w_BELOW)]) rfl ?_
    show Steps p.tables e below (T1.setTop (mkF m 35 #[.val (.int (-1 : Int32)), .val (.int (0 : Int32)), .val (.ref w_BELOW)] [])) _
    refine XS.aloadN X1.here hx rfl (hb hby d2_35) rfl rfl ?_
    show Steps p.tables e below (T1.setTop (mkF m 36 #[.val (.int (-1 : Int32)), .val (.int (0 : Int32)), .val (.ref w_BELOW)] [(.ref w_BELOW)])) _
    jvm_step X1.here [X1.here.top, hx, (hb hby d2_36), X1.method', Bd.returns, Value.isRef, FieldType.isReference]
    first | (intro acts; rw [hr _ acts rfl rfl rfl]) | rw [hr _ _ rfl rfl rfl]
    exact Steps.refl _
  · exact ⟨rfl, N0, e1⟩
def Q1_7 (Z : State) (w_AT_LEAST : Addr) (w_AT_MOST : Addr) (w_BELOW : Addr) (w_ABOVE : Addr) (h0 : Heap) (n0 : Nat) (v : Option Value) (h : Heap) (L : List Loc) : Prop := v = some (.ref w_BELOW) ∧ Fr n0 L ∧ h = h0
set_option maxRecDepth 65536 in
set_option maxHeartbeats 40000000 in
theorem rm1_7 (l : Launch) (Z : State) (a0 : Array Value) (hw : ∀ d ∈ tables_1, d.before a0 Z = true) (ws : List Jvm.Cond) (w_AT_LEAST : Addr) (w_AT_MOST : Addr) (w_BELOW : Addr) (w_ABOVE : Addr) (h0 : Heap) (n0 : Nat) (Z0 : n0 ≤ h0.size) (HW : World Z h0 w_AT_LEAST w_AT_MOST w_BELOW w_ABOVE) :
    MetFree l (⟨"com/example/tierline/tierline/Bound", "reversed", "()Lcom/example/tierline/tierline/Bound;"⟩ : MethodName) (head1 (Jvm.Cond.code (⟨"com/example/tierline/tierline/Bound", "reversed", "()Lcom/example/tierline/tierline/Bound;"⟩ : MethodName) prog_1_method_7_code 1 (some (.object "com/example/tierline/tierline/Bound")) :: ws) ({ frames := 1, cells := 0, slots := 0, locals := 14 } : Room)) (fun a U => a = #[(.ref w_ABOVE)] ∧ Z.Warmed39 U.vm ∧ U.heap = h0) (fun _ _ _ _ _ => True) (fun _ U o U' => ∃ v L, o = .returned v ∧ Q1_7 Z w_AT_LEAST w_AT_MOST w_BELOW w_ABOVE h0 n0 v U'.heap L ∧ FrameEnd U o U' L ({ frames := 1, cells := 0, slots := 0, locals := 14 } : Room).cells ({ frames := 1, cells := 0, slots := 0, locals := 14 } : Room).slots) := by
  refine MetFree.of_bodySF (plainFor_of_name pn16) hisR ?_
  intro p e s m args below meth c s₁ Bd hml0 hP hK
  obtain ⟨rfl, hZ, hh⟩ := hP
  have hx := Bd.exec
  have hby := Bd.bytes
  have hml : c.maxLocals = 1 := hml0
  have hown : s.vm.findClass "com/example/tierline/tierline/Bound" = some m.cls := findClass_of_methodNamed Bd.named
  have X0 : Stand p l e ({ frames := 1, cells := 0, slots := 0, locals := 14 } : Room) s m #[(.ref w_ABOVE)] below meth c s₁ [] 0 0 := Stand.of_body Bd
  have e0 : s₁.heap = h0 := by rw [← hh, Bd.state]; rfl
  have N0 := Fr.nil n0
  have pre0 : ∀ t, Steps p.tables e below (s₁.setTop (mkF m 0 #[.val (.ref w_ABOVE)] [])) t → Steps p.tables e below (s₁.setTop (entryFrame m #[(.ref w_ABOVE)] 1)) t := fun t k => castTop (ef21 m w_ABOVE) k
  obtain ⟨S_w_AT_LEAST, E_w_AT_LEAST, S_w_AT_MOST, E_w_AT_MOST, S_w_BELOW, E_w_BELOW, S_w_ABOVE, E_w_ABOVE, F_side_w_AT_LEAST, F_inclusive_w_AT_LEAST, F_side_w_BELOW, F_inclusive_w_BELOW, F_side_w_ABOVE, F_inclusive_w_ABOVE, F_side_w_AT_MOST, F_inclusive_w_AT_MOST, ne_w_AT_LEAST_w_AT_MOST, ne_w_AT_LEAST_w_BELOW, ne_w_AT_LEAST_w_ABOVE, ne_w_AT_MOST_w_BELOW, ne_w_AT_MOST_w_ABOVE, ne_w_BELOW_w_ABOVE, -⟩ := id HW
  obtain ⟨T1, X1, e1, st1⟩ := getF X0 hx hZ hown (host := "") (Or.inl (hw _ (List.mem_of_getElem? (i := 10) rfl))) Via.refl e0 F_side_w_ABOVE (g := (mkF m 1 #[.val (.ref w_ABOVE)] [(.ref w_ABOVE)])) rfl rfl (hb hby d1_1)
  obtain ⟨T2, X2, e2, st2⟩ := getF X1 hx hZ hown (host := "") (Or.inl (hw _ (List.mem_of_getElem? (i := 12) rfl))) Via.refl e1 F_inclusive_w_ABOVE (g := (mkF m 6 #[.val (.ref w_ABOVE)] [(.ref w_ABOVE), (.int (-1 : Int32))])) rfl rfl (hb hby d1_6)
  obtain ⟨_, _, ⟨T3, L3, k3, n3⟩, -, X3, ⟨Lc3, hQ3, l3, y3, z3⟩, st3⟩ := Jvm.LawKit.callS X2 hx (y := (⟨"com/example/tierline/tierline/Bound", "toward", "(IZ)Lcom/example/tierline/tierline/Bound;"⟩ : MethodName)) hown (mvT hZ (hw _ (List.mem_of_getElem? (i := 14) rfl))) (mvT hZ (hw _ (List.mem_of_getElem? (i := 15) rfl))) (mvT hZ (hw _ (List.mem_of_getElem? (i := 1) rfl))) (mvT hZ (hw _ (List.mem_of_getElem? (i := 16) rfl))) (by decide) (backOf (W := 0) (rm2_6 l Z a0 hw [] w_AT_LEAST w_AT_MOST w_BELOW w_ABOVE h0 n0 Z0 HW) hZ (hw _ (List.mem_of_getElem? (i := 16) rfl)) (hw _ (List.mem_of_getElem? (i := 1) rfl)) (by decide) (by decide)) (g := (mkF m 9 #[.val (.ref w_ABOVE)] [(.int (0 : Int32)), (.int (-1 : Int32))])) rfl (by rw [hml]; rfl) (argsL := [(.int (-1 : Int32)), (.int (0 : Int32))]) (rest := []) (lenOf pd17 rfl) rfl (by show 2 * 0 + _ ≤ _; exact Nat.le_of_eq rfl) (hb hby d1_9) (fun _ _ => ⟨rfl, e2, (by decide : 0 + 0 ≤ _), (by decide : 0 + 0 ≤ _)⟩)
  dsimp only [Pt.U, Pt.locs, Pt.cells, Pt.slots] at X3 l3 y3 z3 st3 hQ3
  subst l3 y3 z3
  obtain ⟨rfl, N3q, e3⟩ := hQ3
  have N3 := Fr.app N0 N3q
  obtain ⟨fs, hr, hrun, hended, hW, hsame⟩ := X3.leave (v := some (.ref w_BELOW)) (fun h => by rw [Bd.returns] at h; cases h)
  refine ⟨_, _, pre0 _ ?_, hrun, hended, _, _, rfl, ?_, ⟨_, rfl⟩, hW, hsame.mono (by decide) (by decide)⟩
  · show Steps p.tables e below (s₁.setTop (mkF m 0 #[.val (.ref w_ABOVE)] [])) _
    refine XS.aloadN X0.here hx rfl (hb hby d1_0) rfl rfl ?_
    show Steps p.tables e below (s₁.setTop (mkF m 1 #[.val (.ref w_ABOVE)] [(.ref w_ABOVE)])) _
    refine st1 _ ?_
    show Steps p.tables e below (T1.setTop (mkF m 4 #[.val (.ref w_ABOVE)] [(.int (1 : Int32))])) _
    refine XS.ineg X1.here hx rfl (hb hby d1_4) rfl ?_
    rw [show (-(1 : Int32)) = (-1 : Int32) from by decide]
    show Steps p.tables e below (T1.setTop (mkF m 5 #[.val (.ref w_ABOVE)] [(.int (-1 : Int32))])) _
    refine XS.aloadN X1.here hx rfl (hb hby d1_5) rfl rfl ?_
    show Steps p.tables e below (T1.setTop (mkF m 6 #[.val (.ref w_ABOVE)] [(.ref w_ABOVE), (.int (-1 : Int32))])) _
    refine st2 _ ?_
    show Steps p.tables e below (T2.setTop (mkF m 9 #[.val (.ref w_ABOVE)] [(.int (0 : Int32)), (.int (-1 : Int32))])) _
    refine st3 _ ?_
    show Steps p.tables e below (T3.setTop (mkF m 12 #[.val (.ref w_ABOVE)] [(.ref w_BELOW)])) _
    jvm_step X3.here [X3.here.top, hx, (hb hby d1_12), X3.method', Bd.returns, Value.isRef, FieldType.isReference]
    first | (intro acts; rw [hr _ acts rfl rfl rfl]) | rw [hr _ _ rfl rfl rfl]
    exact Steps.refl _
  · exact ⟨rfl, N3, e3⟩
set_option maxRecDepth 65536 in
set_option maxHeartbeats 40000000 in
theorem rm0_c2 (l : Launch) (Z : State) (a0 : Array Value) (hw : ∀ d ∈ tables_1, d.before a0 Z = true) (ws : List Jvm.Cond) (w_AT_LEAST : Addr) (w_AT_MOST : Addr) (w_BELOW : Addr) (w_ABOVE : Addr) (p1 : Int32) (h0 : Heap) (n0 : Nat) (Z0 : n0 ≤ h0.size) (HW : World Z h0 w_AT_LEAST w_AT_MOST w_BELOW w_ABOVE) (hk : (p1 &&& (3 : Int32)) = (2 : Int32)) :
    MetFree l x (head1 (Jvm.Cond.code x code maxLocals ret :: ws) room_1) (fun a U => a = #[(.int p1)] ∧ Z.Warmed39 U.vm ∧ U.heap = h0) (fun _ _ _ _ _ => True) (fun _ U o U' => ∃ v L, o = .returned v ∧ Q0 h0 n0 v U'.heap L ∧ FrameEnd U o U' L room_1.cells room_1.slots) := by
  refine MetFree.of_bodySF (plainFor_of_name pn25) hisR ?_
  intro p e s m args below meth c s₁ Bd hml0 hP hK
  obtain ⟨rfl, hZ, hh⟩ := hP
  have hx := Bd.exec
  have hby := Bd.bytes
  have hml : c.maxLocals = 4 := hml0
  have hown : s.vm.findClass "com/example/tierline/tierline/BoundReversedPinLaw" = some m.cls := findClass_of_methodNamed Bd.named
  have X0 : Stand p l e room_1 s m #[(.int p1)] below meth c s₁ [] 0 0 := Stand.of_body Bd
  have e0 : s₁.heap = h0 := by rw [← hh, Bd.state]; rfl
  have N0 := Fr.nil n0
  have pre0 : ∀ t, Steps p.tables e below (s₁.setTop (mkF m 0 #[.val (.int p1), .unset, .unset, .unset] [])) t → Steps p.tables e below (s₁.setTop (entryFrame m #[(.int p1)] maxLocals)) t := fun t k => castTop (ef24 m p1) k
  obtain ⟨S_w_AT_LEAST, E_w_AT_LEAST, S_w_AT_MOST, E_w_AT_MOST, S_w_BELOW, E_w_BELOW, S_w_ABOVE, E_w_ABOVE, F_side_w_AT_LEAST, F_inclusive_w_AT_LEAST, F_side_w_BELOW, F_inclusive_w_BELOW, F_side_w_ABOVE, F_inclusive_w_ABOVE, F_side_w_AT_MOST, F_inclusive_w_AT_MOST, ne_w_AT_LEAST_w_AT_MOST, ne_w_AT_LEAST_w_BELOW, ne_w_AT_LEAST_w_ABOVE, ne_w_AT_MOST_w_BELOW, ne_w_AT_MOST_w_ABOVE, ne_w_BELOW_w_ABOVE, -⟩ := id HW
  obtain ⟨T1, X1, e1, st1⟩ := getS2 X0 hx hZ hown (host := "") (Or.inl (hw _ (List.mem_of_getElem? (i := 20) rfl))) Via.refl e0 S_w_ABOVE (g := (mkF m 40 #[.val (.int p1), .val (.int (2 : Int32)), .unset, .unset] [])) rfl (hb hby at_40)
  obtain ⟨T2, X2, e2, st2⟩ := getS2 X1 hx hZ hown (host := "") (Or.inl (hw _ (List.mem_of_getElem? (i := 18) rfl))) Via.refl e1 S_w_BELOW (g := (mkF m 44 #[.val (.int p1), .val (.int (2 : Int32)), .val (.ref w_ABOVE), .unset] [])) rfl (hb hby at_44)
  obtain ⟨cq3, kq3, q3a, q3b, q3c⟩ := isOf hZ e2 E_w_ABOVE
  obtain ⟨_, _, ⟨T3, L3, k3, n3⟩, -, X3, ⟨Lc3, hQ3, l3, y3, z3⟩, st3⟩ := X2.virtualBack hx (y := (⟨"com/example/tierline/tierline/Bound", "reversed", "()Lcom/example/tierline/tierline/Bound;"⟩ : MethodName)) (z := (⟨"com/example/tierline/tierline/Bound", "reversed", "()Lcom/example/tierline/tierline/Bound;"⟩ : MethodName)) hown (mvT hZ (hw _ (List.mem_of_getElem? (i := 5) rfl))) (mvT hZ (hw _ (List.mem_of_getElem? (i := 6) rfl))) (notFace_of_selects (args := #[]) (mvT hZ (hw _ (List.mem_of_getElem? (i := 8) rfl)))) (mvT hZ (hw _ (List.mem_of_getElem? (i := 8) rfl))) (mvT hZ (hw _ (List.mem_of_getElem? (i := 7) rfl))) (by decide) (backOf (W := 0) (rm1_7 l Z a0 hw [] w_AT_LEAST w_AT_MOST w_BELOW w_ABOVE h0 n0 Z0 HW) hZ (hw _ (List.mem_of_getElem? (i := 9) rfl)) (hw _ (List.mem_of_getElem? (i := 1) rfl)) (by decide) (by decide)) q3a q3c (g := (mkF m 60 #[.val (.int p1), .val (.int (2 : Int32)), .val (.ref w_ABOVE), .val (.ref w_BELOW)] [(.ref w_ABOVE)])) rfl (by rw [hml]; rfl) (Steps.refl _) (argsL := []) (rest := []) (lenOf pd22 rfl) rfl (by show 2 * 0 + _ ≤ _; exact Nat.le_of_eq rfl) (hb hby at_60) (fun _ _ => ⟨rfl, e2, (by decide : 0 + 0 ≤ _), (by decide : 0 + 0 ≤ _)⟩)
  dsimp only [Pt.U, Pt.locs, Pt.cells, Pt.slots] at X3 l3 y3 z3 st3 hQ3
  subst l3 y3 z3
  obtain ⟨rfl, N3q, e3⟩ := hQ3
  have N3 := Fr.app N0 N3q
  obtain ⟨fs, hr, hrun, hended, hW, hsame⟩ := X3.leave (v := some (.int (1 : Int32))) (fun h => by rw [Bd.returns] at h; cases h)
  refine ⟨_, _, pre0 _ ?_, hrun, hended, _, _, rfl, ?_, ⟨_, rfl⟩, hW, hsame.mono (by decide) (by decide)⟩
  · show Steps p.tables e below (s₁.setTop (mkF m 0 #[.val (.int p1), .unset, .unset, .unset] [])) _
    refine XS.iloadN X0.here hx rfl (hb hby at_0) rfl ?_
    show Steps p.tables e below (s₁.setTop (mkF m 1 #[.val (.int p1), .unset, .unset, .unset] [(.int p1)])) _
    refine XS.iconst X0.here hx rfl (hb hby at_1) ?_
    show Steps p.tables e below (s₁.setTop (mkF m 2 #[.val (.int p1), .unset, .unset, .unset] [(.int (3 : Int32)), (.int p1)])) _
    refine XS.iand X0.here hx rfl (hb hby at_2) rfl ?_
    rw [hk]
    show Steps p.tables e below (s₁.setTop (mkF m 3 #[.val (.int p1), .unset, .unset, .unset] [(.int (2 : Int32))])) _
    refine XS.istoreN X0.here hx rfl (hb hby at_3) rfl (l' := #[.val (.int p1), .val (.int (2 : Int32)), .unset, .unset]) rfl ?_
    show Steps p.tables e below (s₁.setTop (mkF m 4 #[.val (.int p1), .val (.int (2 : Int32)), .unset, .unset] [])) _
    refine XS.iloadN X0.here hx rfl (hb hby at_4) rfl ?_
    show Steps p.tables e below (s₁.setTop (mkF m 5 #[.val (.int p1), .val (.int (2 : Int32)), .unset, .unset] [(.int (2 : Int32))])) _
    refine XS.ifYes X0.here hx rfl (pc0 := 5) (pc' := 19) rfl (hb hby at_5) rfl ((if0 _ _).trans (feq (by decide : ¬ ((2 : Int32) = (0 : Int32)))).2) (by decide) (by decide) ?_
    show Steps p.tables e below (s₁.setTop (mkF m 19 #[.val (.int p1), .val (.int (2 : Int32)), .unset, .unset] [])) _
    refine XS.iloadN X0.here hx rfl (hb hby at_19) rfl ?_
    show Steps p.tables e below (s₁.setTop (mkF m 20 #[.val (.int p1), .val (.int (2 : Int32)), .unset, .unset] [(.int (2 : Int32))])) _
    refine XS.iconst X0.here hx rfl (hb hby at_20) ?_
    show Steps p.tables e below (s₁.setTop (mkF m 21 #[.val (.int p1), .val (.int (2 : Int32)), .unset, .unset] [(.int (1 : Int32)), (.int (2 : Int32))])) _
    refine XS.icmpYes X0.here hx rfl (pc0 := 21) (pc' := 35) rfl (hb hby at_21) rfl (feq (by decide : ¬ ((2 : Int32) = (1 : Int32)))).2 (by decide) (by decide) ?_
    show Steps p.tables e below (s₁.setTop (mkF m 35 #[.val (.int p1), .val (.int (2 : Int32)), .unset, .unset] [])) _
    refine XS.iloadN X0.here hx rfl (hb hby at_35) rfl ?_
    show Steps p.tables e below (s₁.setTop (mkF m 36 #[.val (.int p1), .val (.int (2 : Int32)), .unset, .unset] [(.int (2 : Int32))])) _
    refine XS.iconst X0.here hx rfl (hb hby at_36) ?_
    show Steps p.tables e below (s₁.setTop (mkF m 37 #[.val (.int p1), .val (.int (2 : Int32)), .unset, .unset] [(.int (2 : Int32)), (.int (2 : Int32))])) _
    refine XS.icmpNo X0.here hx rfl (hb hby at_37) rfl (teq (by decide : (2 : Int32) = (2 : Int32))).2 ?_
    show Steps p.tables e below (s₁.setTop (mkF m 40 #[.val (.int p1), .val (.int (2 : Int32)), .unset, .unset] [])) _
    refine st1 _ ?_
    show Steps p.tables e below (T1.setTop (mkF m 43 #[.val (.int p1), .val (.int (2 : Int32)), .unset, .unset] [(.ref w_ABOVE)])) _
    refine XS.astoreN X1.here hx rfl (hb hby at_43) rfl rfl (l' := #[.val (.int p1), .val (.int (2 : Int32)), .val (.ref w_ABOVE), .unset]) rfl ?_
    show Steps p.tables e below (T1.setTop (mkF m 44 #[.val (.int p1), .val (.int (2 : Int32)), .val (.ref w_ABOVE), .unset] [])) _
    refine st2 _ ?_
    show Steps p.tables e below (T2.setTop (mkF m 47 #[.val (.int p1), .val (.int (2 : Int32)), .val (.ref w_ABOVE), .unset] [(.ref w_BELOW)])) _
    refine XS.astoreN X2.here hx rfl (hb hby at_47) rfl rfl (l' := #[.val (.int p1), .val (.int (2 : Int32)), .val (.ref w_ABOVE), .val (.ref w_BELOW)]) rfl ?_
    show Steps p.tables e below (T2.setTop (mkF m 48 #[.val (.int p1), .val (.int (2 : Int32)), .val (.ref w_ABOVE), .val (.ref w_BELOW)] [])) _
    refine XS.goto X2.here hx rfl (pc0 := 48) (pc' := 59) rfl (hb hby at_48) (by decide) (by decide) ?_
    show Steps p.tables e below (T2.setTop (mkF m 59 #[.val (.int p1), .val (.int (2 : Int32)), .val (.ref w_ABOVE), .val (.ref w_BELOW)] [])) _
    refine XS.aloadN X2.here hx rfl (hb hby at_59) rfl rfl ?_
    show Steps p.tables e below (T2.setTop (mkF m 60 #[.val (.int p1), .val (.int (2 : Int32)), .val (.ref w_ABOVE), .val (.ref w_BELOW)] [(.ref w_ABOVE)])) _
    refine st3.trans ?_
    show Steps p.tables e below (T3.setTop (mkF m 63 #[.val (.int p1), .val (.int (2 : Int32)), .val (.ref w_ABOVE), .val (.ref w_BELOW)] [(.ref w_BELOW)])) _
    refine XS.aloadN X3.here hx rfl (hb hby at_63) rfl rfl ?_
    show Steps p.tables e below (T3.setTop (mkF m 64 #[.val (.int p1), .val (.int (2 : Int32)), .val (.ref w_ABOVE), .val (.ref w_BELOW)] [(.ref w_BELOW), (.ref w_BELOW)])) _
    refine Jvm.RoadKit.acmp (g := (mkF m 64 #[.val (.int p1), .val (.int (2 : Int32)), .val (.ref w_ABOVE), .val (.ref w_BELOW)] [(.ref w_BELOW), (.ref w_BELOW)])) X3 hx rfl rfl rfl (pc0 := 64) (pc' := 67) (same := true) rfl (hb hby at_64) rfl (decide_eq_true rfl) (by decide) (by decide) ?_
    show Steps p.tables e below (T3.setTop (mkF m 67 #[.val (.int p1), .val (.int (2 : Int32)), .val (.ref w_ABOVE), .val (.ref w_BELOW)] [])) _
    refine XS.iconst X3.here hx rfl (hb hby at_67) ?_
    show Steps p.tables e below (T3.setTop (mkF m 68 #[.val (.int p1), .val (.int (2 : Int32)), .val (.ref w_ABOVE), .val (.ref w_BELOW)] [(.int (1 : Int32))])) _
    refine XS.goto X3.here hx rfl (pc0 := 68) (pc' := 72) rfl (hb hby at_68) (by decide) (by decide) ?_
    show Steps p.tables e below (T3.setTop (mkF m 72 #[.val (.int p1), .val (.int (2 : Int32)), .val (.ref w_ABOVE), .val (.ref w_BELOW)] [(.int (1 : Int32))])) _
    exact retN X3 hx (t := .boolean) Bd.returns (by simp) (hb hby at_72) hr
  · exact ⟨rfl, N3⟩
theorem d2_14 : decode prog_1_method_5_code 14 = .ok (.getstatic 10, 3) := by decide +kernel
def Q2_9 (Z : State) (w_AT_LEAST : Addr) (w_AT_MOST : Addr) (w_BELOW : Addr) (w_ABOVE : Addr) (h0 : Heap) (n0 : Nat) (v : Option Value) (h : Heap) (L : List Loc) : Prop := v = some (.ref w_ABOVE) ∧ Fr n0 L ∧ h = h0
set_option maxRecDepth 65536 in
set_option maxHeartbeats 40000000 in
theorem rm2_9 (l : Launch) (Z : State) (a0 : Array Value) (hw : ∀ d ∈ tables_1, d.before a0 Z = true) (ws : List Jvm.Cond) (w_AT_LEAST : Addr) (w_AT_MOST : Addr) (w_BELOW : Addr) (w_ABOVE : Addr) (h0 : Heap) (n0 : Nat) (Z0 : n0 ≤ h0.size) (HW : World Z h0 w_AT_LEAST w_AT_MOST w_BELOW w_ABOVE) :
    MetFree l (⟨"com/example/tierline/tierline/Bound", "toward", "(IZ)Lcom/example/tierline/tierline/Bound;"⟩ : MethodName) (head1 (Jvm.Cond.code (⟨"com/example/tierline/tierline/Bound", "toward", "(IZ)Lcom/example/tierline/tierline/Bound;"⟩ : MethodName) prog_1_method_5_code 3 (some (.object "com/example/tierline/tierline/Bound")) :: ws) ({ frames := 0, cells := 0, slots := 0, locals := 0 } : Room)) (fun a U => a = #[(.int (1 : Int32)), (.int (0 : Int32))] ∧ Z.Warmed39 U.vm ∧ U.heap = h0) (fun _ _ _ _ _ => True) (fun _ U o U' => ∃ v L, o = .returned v ∧ Q2_9 Z w_AT_LEAST w_AT_MOST w_BELOW w_ABOVE h0 n0 v U'.heap L ∧ FrameEnd U o U' L ({ frames := 0, cells := 0, slots := 0, locals := 0 } : Room).cells ({ frames := 0, cells := 0, slots := 0, locals := 0 } : Room).slots) := by
  refine MetFree.of_bodySF (plainFor_of_name pn16) hisR ?_
  intro p e s m args below meth c s₁ Bd hml0 hP hK
  obtain ⟨rfl, hZ, hh⟩ := hP
  have hx := Bd.exec
  have hby := Bd.bytes
  have hml : c.maxLocals = 3 := hml0
  have hown : s.vm.findClass "com/example/tierline/tierline/Bound" = some m.cls := findClass_of_methodNamed Bd.named
  have X0 : Stand p l e ({ frames := 0, cells := 0, slots := 0, locals := 0 } : Room) s m #[(.int (1 : Int32)), (.int (0 : Int32))] below meth c s₁ [] 0 0 := Stand.of_body Bd
  have e0 : s₁.heap = h0 := by rw [← hh, Bd.state]; rfl
  have N0 := Fr.nil n0
  have pre0 : ∀ t, Steps p.tables e below (s₁.setTop (mkF m 0 #[.val (.int (1 : Int32)), .val (.int (0 : Int32)), .unset] [])) t → Steps p.tables e below (s₁.setTop (entryFrame m #[(.int (1 : Int32)), (.int (0 : Int32))] 3)) t := fun t k => castTop (ef15 m (1 : Int32) (0 : Int32)) k
  obtain ⟨S_w_AT_LEAST, E_w_AT_LEAST, S_w_AT_MOST, E_w_AT_MOST, S_w_BELOW, E_w_BELOW, S_w_ABOVE, E_w_ABOVE, F_side_w_AT_LEAST, F_inclusive_w_AT_LEAST, F_side_w_BELOW, F_inclusive_w_BELOW, F_side_w_ABOVE, F_inclusive_w_ABOVE, F_side_w_AT_MOST, F_inclusive_w_AT_MOST, ne_w_AT_LEAST_w_AT_MOST, ne_w_AT_LEAST_w_BELOW, ne_w_AT_LEAST_w_ABOVE, ne_w_AT_MOST_w_BELOW, ne_w_AT_MOST_w_ABOVE, ne_w_BELOW_w_ABOVE, -⟩ := id HW
  obtain ⟨T1, X1, e1, st1⟩ := getS2 X0 hx hZ hown (host := "") (Or.inl (hw _ (List.mem_of_getElem? (i := 22) rfl))) Via.refl e0 S_w_ABOVE (g := (mkF m 14 #[.val (.int (1 : Int32)), .val (.int (0 : Int32)), .unset] [])) rfl (hb hby d2_14)
  obtain ⟨fs, hr, hrun, hended, hW, hsame⟩ := X1.leave (v := some (.ref w_ABOVE)) (fun h => by rw [Bd.returns] at h; cases h)
  refine ⟨_, _, pre0 _ ?_, hrun, hended, _, _, rfl, ?_, ⟨_, rfl⟩, hW, hsame.mono (by decide) (by decide)⟩
  · show Steps p.tables e below (s₁.setTop (mkF m 0 #[.val (.int (1 : Int32)), .val (.int (0 : Int32)), .unset] [])) _
    refine XS.iloadN X0.here hx rfl (hb hby d2_0) rfl ?_
    show Steps p.tables e below (s₁.setTop (mkF m 1 #[.val (.int (1 : Int32)), .val (.int (0 : Int32)), .unset] [(.int (1 : Int32))])) _
    refine XS.ifNo X0.here hx rfl (hb hby d2_1) rfl ((if0 _ _).trans (tlt (by decide : (0 : Int32) < (1 : Int32))).2.2.2) ?_
    show Steps p.tables e below (s₁.setTop (mkF m 4 #[.val (.int (1 : Int32)), .val (.int (0 : Int32)), .unset] [])) _
    refine XS.iloadN X0.here hx rfl (hb hby d2_4) rfl ?_
    show Steps p.tables e below (s₁.setTop (mkF m 5 #[.val (.int (1 : Int32)), .val (.int (0 : Int32)), .unset] [(.int (0 : Int32))])) _
    refine XS.ifYes X0.here hx rfl (pc0 := 5) (pc' := 14) rfl (hb hby d2_5) rfl ((if0 _ _).trans (teq (by decide : (0 : Int32) = (0 : Int32))).1) (by decide) (by decide) ?_
    show Steps p.tables e below (s₁.setTop (mkF m 14 #[.val (.int (1 : Int32)), .val (.int (0 : Int32)), .unset] [])) _
    refine st1 _ ?_
    show Steps p.tables e below (T1.setTop (mkF m 17 #[.val (.int (1 : Int32)), .val (.int (0 : Int32)), .unset] [(.ref w_ABOVE)])) _
    refine XS.astoreN X1.here hx rfl (hb hby d2_17) rfl rfl (l' := #[.val (.int (1 : Int32)), .val (.int (0 : Int32)), .val (.ref w_ABOVE)]) rfl ?_
    show Steps p.tables e below (T1.setTop (mkF m 18 #[.val (.int (1 : Int32)), .val (.int (0 : Int32)), .val (.ref w_ABOVE)] [])) _
    refine XS.goto X1.here hx rfl (pc0 := 18) (pc' := 35) rfl (hb hby d2_18) (by decide) (by decide) ?_
    show Steps p.tables e below (T1.setTop (mkF m 35 #[.val (.int (1 : Int32)), .val (.int (0 : Int32)), .val (.ref w_ABOVE)] [])) _
    refine XS.aloadN X1.here hx rfl (hb hby d2_35) rfl rfl ?_
    show Steps p.tables e below (T1.setTop (mkF m 36 #[.val (.int (1 : Int32)), .val (.int (0 : Int32)), .val (.ref w_ABOVE)] [(.ref w_ABOVE)])) _
    jvm_step X1.here [X1.here.top, hx, (hb hby d2_36), X1.method', Bd.returns, Value.isRef, FieldType.isReference]
    first | (intro acts; rw [hr _ acts rfl rfl rfl]) | rw [hr _ _ rfl rfl rfl]
    exact Steps.refl _
  · exact ⟨rfl, N0, e1⟩
def Q1_10 (Z : State) (w_AT_LEAST : Addr) (w_AT_MOST : Addr) (w_BELOW : Addr) (w_ABOVE : Addr) (h0 : Heap) (n0 : Nat) (v : Option Value) (h : Heap) (L : List Loc) : Prop := v = some (.ref w_ABOVE) ∧ Fr n0 L ∧ h = h0
set_option maxRecDepth 65536 in
set_option maxHeartbeats 40000000 in
theorem rm1_10 (l : Launch) (Z : State) (a0 : Array Value) (hw : ∀ d ∈ tables_1, d.before a0 Z = true) (ws : List Jvm.Cond) (w_AT_LEAST : Addr) (w_AT_MOST : Addr) (w_BELOW : Addr) (w_ABOVE : Addr) (h0 : Heap) (n0 : Nat) (Z0 : n0 ≤ h0.size) (HW : World Z h0 w_AT_LEAST w_AT_MOST w_BELOW w_ABOVE) :
    MetFree l (⟨"com/example/tierline/tierline/Bound", "reversed", "()Lcom/example/tierline/tierline/Bound;"⟩ : MethodName) (head1 (Jvm.Cond.code (⟨"com/example/tierline/tierline/Bound", "reversed", "()Lcom/example/tierline/tierline/Bound;"⟩ : MethodName) prog_1_method_7_code 1 (some (.object "com/example/tierline/tierline/Bound")) :: ws) ({ frames := 1, cells := 0, slots := 0, locals := 14 } : Room)) (fun a U => a = #[(.ref w_BELOW)] ∧ Z.Warmed39 U.vm ∧ U.heap = h0) (fun _ _ _ _ _ => True) (fun _ U o U' => ∃ v L, o = .returned v ∧ Q1_10 Z w_AT_LEAST w_AT_MOST w_BELOW w_ABOVE h0 n0 v U'.heap L ∧ FrameEnd U o U' L ({ frames := 1, cells := 0, slots := 0, locals := 14 } : Room).cells ({ frames := 1, cells := 0, slots := 0, locals := 14 } : Room).slots) := by
  refine MetFree.of_bodySF (plainFor_of_name pn16) hisR ?_
  intro p e s m args below meth c s₁ Bd hml0 hP hK
  obtain ⟨rfl, hZ, hh⟩ := hP
  have hx := Bd.exec
  have hby := Bd.bytes
  have hml : c.maxLocals = 1 := hml0
  have hown : s.vm.findClass "com/example/tierline/tierline/Bound" = some m.cls := findClass_of_methodNamed Bd.named
  have X0 : Stand p l e ({ frames := 1, cells := 0, slots := 0, locals := 14 } : Room) s m #[(.ref w_BELOW)] below meth c s₁ [] 0 0 := Stand.of_body Bd
  have e0 : s₁.heap = h0 := by rw [← hh, Bd.state]; rfl
  have N0 := Fr.nil n0
  have pre0 : ∀ t, Steps p.tables e below (s₁.setTop (mkF m 0 #[.val (.ref w_BELOW)] [])) t → Steps p.tables e below (s₁.setTop (entryFrame m #[(.ref w_BELOW)] 1)) t := fun t k => castTop (ef21 m w_BELOW) k
  obtain ⟨S_w_AT_LEAST, E_w_AT_LEAST, S_w_AT_MOST, E_w_AT_MOST, S_w_BELOW, E_w_BELOW, S_w_ABOVE, E_w_ABOVE, F_side_w_AT_LEAST, F_inclusive_w_AT_LEAST, F_side_w_BELOW, F_inclusive_w_BELOW, F_side_w_ABOVE, F_inclusive_w_ABOVE, F_side_w_AT_MOST, F_inclusive_w_AT_MOST, ne_w_AT_LEAST_w_AT_MOST, ne_w_AT_LEAST_w_BELOW, ne_w_AT_LEAST_w_ABOVE, ne_w_AT_MOST_w_BELOW, ne_w_AT_MOST_w_ABOVE, ne_w_BELOW_w_ABOVE, -⟩ := id HW
  obtain ⟨T1, X1, e1, st1⟩ := getF X0 hx hZ hown (host := "") (Or.inl (hw _ (List.mem_of_getElem? (i := 10) rfl))) Via.refl e0 F_side_w_BELOW (g := (mkF m 1 #[.val (.ref w_BELOW)] [(.ref w_BELOW)])) rfl rfl (hb hby d1_1)
  obtain ⟨T2, X2, e2, st2⟩ := getF X1 hx hZ hown (host := "") (Or.inl (hw _ (List.mem_of_getElem? (i := 12) rfl))) Via.refl e1 F_inclusive_w_BELOW (g := (mkF m 6 #[.val (.ref w_BELOW)] [(.ref w_BELOW), (.int (1 : Int32))])) rfl rfl (hb hby d1_6)
  obtain ⟨_, _, ⟨T3, L3, k3, n3⟩, -, X3, ⟨Lc3, hQ3, l3, y3, z3⟩, st3⟩ := Jvm.LawKit.callS X2 hx (y := (⟨"com/example/tierline/tierline/Bound", "toward", "(IZ)Lcom/example/tierline/tierline/Bound;"⟩ : MethodName)) hown (mvT hZ (hw _ (List.mem_of_getElem? (i := 14) rfl))) (mvT hZ (hw _ (List.mem_of_getElem? (i := 15) rfl))) (mvT hZ (hw _ (List.mem_of_getElem? (i := 1) rfl))) (mvT hZ (hw _ (List.mem_of_getElem? (i := 16) rfl))) (by decide) (backOf (W := 0) (rm2_9 l Z a0 hw [] w_AT_LEAST w_AT_MOST w_BELOW w_ABOVE h0 n0 Z0 HW) hZ (hw _ (List.mem_of_getElem? (i := 16) rfl)) (hw _ (List.mem_of_getElem? (i := 1) rfl)) (by decide) (by decide)) (g := (mkF m 9 #[.val (.ref w_BELOW)] [(.int (0 : Int32)), (.int (1 : Int32))])) rfl (by rw [hml]; rfl) (argsL := [(.int (1 : Int32)), (.int (0 : Int32))]) (rest := []) (lenOf pd17 rfl) rfl (by show 2 * 0 + _ ≤ _; exact Nat.le_of_eq rfl) (hb hby d1_9) (fun _ _ => ⟨rfl, e2, (by decide : 0 + 0 ≤ _), (by decide : 0 + 0 ≤ _)⟩)
  dsimp only [Pt.U, Pt.locs, Pt.cells, Pt.slots] at X3 l3 y3 z3 st3 hQ3
  subst l3 y3 z3
  obtain ⟨rfl, N3q, e3⟩ := hQ3
  have N3 := Fr.app N0 N3q
  obtain ⟨fs, hr, hrun, hended, hW, hsame⟩ := X3.leave (v := some (.ref w_ABOVE)) (fun h => by rw [Bd.returns] at h; cases h)
  refine ⟨_, _, pre0 _ ?_, hrun, hended, _, _, rfl, ?_, ⟨_, rfl⟩, hW, hsame.mono (by decide) (by decide)⟩
  · show Steps p.tables e below (s₁.setTop (mkF m 0 #[.val (.ref w_BELOW)] [])) _
    refine XS.aloadN X0.here hx rfl (hb hby d1_0) rfl rfl ?_
    show Steps p.tables e below (s₁.setTop (mkF m 1 #[.val (.ref w_BELOW)] [(.ref w_BELOW)])) _
    refine st1 _ ?_
    show Steps p.tables e below (T1.setTop (mkF m 4 #[.val (.ref w_BELOW)] [(.int (-1 : Int32))])) _
    refine XS.ineg X1.here hx rfl (hb hby d1_4) rfl ?_
    rw [show (-(-1 : Int32)) = (1 : Int32) from by decide]
    show Steps p.tables e below (T1.setTop (mkF m 5 #[.val (.ref w_BELOW)] [(.int (1 : Int32))])) _
    refine XS.aloadN X1.here hx rfl (hb hby d1_5) rfl rfl ?_
    show Steps p.tables e below (T1.setTop (mkF m 6 #[.val (.ref w_BELOW)] [(.ref w_BELOW), (.int (1 : Int32))])) _
    refine st2 _ ?_
    show Steps p.tables e below (T2.setTop (mkF m 9 #[.val (.ref w_BELOW)] [(.int (0 : Int32)), (.int (1 : Int32))])) _
    refine st3 _ ?_
    show Steps p.tables e below (T3.setTop (mkF m 12 #[.val (.ref w_BELOW)] [(.ref w_ABOVE)])) _
    jvm_step X3.here [X3.here.top, hx, (hb hby d1_12), X3.method', Bd.returns, Value.isRef, FieldType.isReference]
    first | (intro acts; rw [hr _ acts rfl rfl rfl]) | rw [hr _ _ rfl rfl rfl]
    exact Steps.refl _
  · exact ⟨rfl, N3, e3⟩
set_option maxRecDepth 65536 in
set_option maxHeartbeats 40000000 in
theorem rm0_c3 (l : Launch) (Z : State) (a0 : Array Value) (hw : ∀ d ∈ tables_1, d.before a0 Z = true) (ws : List Jvm.Cond) (w_AT_LEAST : Addr) (w_AT_MOST : Addr) (w_BELOW : Addr) (w_ABOVE : Addr) (p1 : Int32) (h0 : Heap) (n0 : Nat) (Z0 : n0 ≤ h0.size) (HW : World Z h0 w_AT_LEAST w_AT_MOST w_BELOW w_ABOVE) (hk : (p1 &&& (3 : Int32)) = (3 : Int32)) :
    MetFree l x (head1 (Jvm.Cond.code x code maxLocals ret :: ws) room_1) (fun a U => a = #[(.int p1)] ∧ Z.Warmed39 U.vm ∧ U.heap = h0) (fun _ _ _ _ _ => True) (fun _ U o U' => ∃ v L, o = .returned v ∧ Q0 h0 n0 v U'.heap L ∧ FrameEnd U o U' L room_1.cells room_1.slots) := by
  refine MetFree.of_bodySF (plainFor_of_name pn25) hisR ?_
  intro p e s m args below meth c s₁ Bd hml0 hP hK
  obtain ⟨rfl, hZ, hh⟩ := hP
  have hx := Bd.exec
  have hby := Bd.bytes
  have hml : c.maxLocals = 4 := hml0
  have hown : s.vm.findClass "com/example/tierline/tierline/BoundReversedPinLaw" = some m.cls := findClass_of_methodNamed Bd.named
  have X0 : Stand p l e room_1 s m #[(.int p1)] below meth c s₁ [] 0 0 := Stand.of_body Bd
  have e0 : s₁.heap = h0 := by rw [← hh, Bd.state]; rfl
  have N0 := Fr.nil n0
  have pre0 : ∀ t, Steps p.tables e below (s₁.setTop (mkF m 0 #[.val (.int p1), .unset, .unset, .unset] [])) t → Steps p.tables e below (s₁.setTop (entryFrame m #[(.int p1)] maxLocals)) t := fun t k => castTop (ef24 m p1) k
  obtain ⟨S_w_AT_LEAST, E_w_AT_LEAST, S_w_AT_MOST, E_w_AT_MOST, S_w_BELOW, E_w_BELOW, S_w_ABOVE, E_w_ABOVE, F_side_w_AT_LEAST, F_inclusive_w_AT_LEAST, F_side_w_BELOW, F_inclusive_w_BELOW, F_side_w_ABOVE, F_inclusive_w_ABOVE, F_side_w_AT_MOST, F_inclusive_w_AT_MOST, ne_w_AT_LEAST_w_AT_MOST, ne_w_AT_LEAST_w_BELOW, ne_w_AT_LEAST_w_ABOVE, ne_w_AT_MOST_w_BELOW, ne_w_AT_MOST_w_ABOVE, ne_w_BELOW_w_ABOVE, -⟩ := id HW
  obtain ⟨T1, X1, e1, st1⟩ := getS2 X0 hx hZ hown (host := "") (Or.inl (hw _ (List.mem_of_getElem? (i := 18) rfl))) Via.refl e0 S_w_BELOW (g := (mkF m 51 #[.val (.int p1), .val (.int (3 : Int32)), .unset, .unset] [])) rfl (hb hby at_51)
  obtain ⟨T2, X2, e2, st2⟩ := getS2 X1 hx hZ hown (host := "") (Or.inl (hw _ (List.mem_of_getElem? (i := 20) rfl))) Via.refl e1 S_w_ABOVE (g := (mkF m 55 #[.val (.int p1), .val (.int (3 : Int32)), .val (.ref w_BELOW), .unset] [])) rfl (hb hby at_55)
  obtain ⟨cq3, kq3, q3a, q3b, q3c⟩ := isOf hZ e2 E_w_BELOW
  obtain ⟨_, _, ⟨T3, L3, k3, n3⟩, -, X3, ⟨Lc3, hQ3, l3, y3, z3⟩, st3⟩ := X2.virtualBack hx (y := (⟨"com/example/tierline/tierline/Bound", "reversed", "()Lcom/example/tierline/tierline/Bound;"⟩ : MethodName)) (z := (⟨"com/example/tierline/tierline/Bound", "reversed", "()Lcom/example/tierline/tierline/Bound;"⟩ : MethodName)) hown (mvT hZ (hw _ (List.mem_of_getElem? (i := 5) rfl))) (mvT hZ (hw _ (List.mem_of_getElem? (i := 6) rfl))) (notFace_of_selects (args := #[]) (mvT hZ (hw _ (List.mem_of_getElem? (i := 8) rfl)))) (mvT hZ (hw _ (List.mem_of_getElem? (i := 8) rfl))) (mvT hZ (hw _ (List.mem_of_getElem? (i := 7) rfl))) (by decide) (backOf (W := 0) (rm1_10 l Z a0 hw [] w_AT_LEAST w_AT_MOST w_BELOW w_ABOVE h0 n0 Z0 HW) hZ (hw _ (List.mem_of_getElem? (i := 9) rfl)) (hw _ (List.mem_of_getElem? (i := 1) rfl)) (by decide) (by decide)) q3a q3c (g := (mkF m 60 #[.val (.int p1), .val (.int (3 : Int32)), .val (.ref w_BELOW), .val (.ref w_ABOVE)] [(.ref w_BELOW)])) rfl (by rw [hml]; rfl) (Steps.refl _) (argsL := []) (rest := []) (lenOf pd22 rfl) rfl (by show 2 * 0 + _ ≤ _; exact Nat.le_of_eq rfl) (hb hby at_60) (fun _ _ => ⟨rfl, e2, (by decide : 0 + 0 ≤ _), (by decide : 0 + 0 ≤ _)⟩)
  dsimp only [Pt.U, Pt.locs, Pt.cells, Pt.slots] at X3 l3 y3 z3 st3 hQ3
  subst l3 y3 z3
  obtain ⟨rfl, N3q, e3⟩ := hQ3
  have N3 := Fr.app N0 N3q
  obtain ⟨fs, hr, hrun, hended, hW, hsame⟩ := X3.leave (v := some (.int (1 : Int32))) (fun h => by rw [Bd.returns] at h; cases h)
  refine ⟨_, _, pre0 _ ?_, hrun, hended, _, _, rfl, ?_, ⟨_, rfl⟩, hW, hsame.mono (by decide) (by decide)⟩
  · show Steps p.tables e below (s₁.setTop (mkF m 0 #[.val (.int p1), .unset, .unset, .unset] [])) _
    refine XS.iloadN X0.here hx rfl (hb hby at_0) rfl ?_
    show Steps p.tables e below (s₁.setTop (mkF m 1 #[.val (.int p1), .unset, .unset, .unset] [(.int p1)])) _
    refine XS.iconst X0.here hx rfl (hb hby at_1) ?_
    show Steps p.tables e below (s₁.setTop (mkF m 2 #[.val (.int p1), .unset, .unset, .unset] [(.int (3 : Int32)), (.int p1)])) _
    refine XS.iand X0.here hx rfl (hb hby at_2) rfl ?_
    rw [hk]
    show Steps p.tables e below (s₁.setTop (mkF m 3 #[.val (.int p1), .unset, .unset, .unset] [(.int (3 : Int32))])) _
    refine XS.istoreN X0.here hx rfl (hb hby at_3) rfl (l' := #[.val (.int p1), .val (.int (3 : Int32)), .unset, .unset]) rfl ?_
    show Steps p.tables e below (s₁.setTop (mkF m 4 #[.val (.int p1), .val (.int (3 : Int32)), .unset, .unset] [])) _
    refine XS.iloadN X0.here hx rfl (hb hby at_4) rfl ?_
    show Steps p.tables e below (s₁.setTop (mkF m 5 #[.val (.int p1), .val (.int (3 : Int32)), .unset, .unset] [(.int (3 : Int32))])) _
    refine XS.ifYes X0.here hx rfl (pc0 := 5) (pc' := 19) rfl (hb hby at_5) rfl ((if0 _ _).trans (feq (by decide : ¬ ((3 : Int32) = (0 : Int32)))).2) (by decide) (by decide) ?_
    show Steps p.tables e below (s₁.setTop (mkF m 19 #[.val (.int p1), .val (.int (3 : Int32)), .unset, .unset] [])) _
    refine XS.iloadN X0.here hx rfl (hb hby at_19) rfl ?_
    show Steps p.tables e below (s₁.setTop (mkF m 20 #[.val (.int p1), .val (.int (3 : Int32)), .unset, .unset] [(.int (3 : Int32))])) _
    refine XS.iconst X0.here hx rfl (hb hby at_20) ?_
    show Steps p.tables e below (s₁.setTop (mkF m 21 #[.val (.int p1), .val (.int (3 : Int32)), .unset, .unset] [(.int (1 : Int32)), (.int (3 : Int32))])) _
    refine XS.icmpYes X0.here hx rfl (pc0 := 21) (pc' := 35) rfl (hb hby at_21) rfl (feq (by decide : ¬ ((3 : Int32) = (1 : Int32)))).2 (by decide) (by decide) ?_
    show Steps p.tables e below (s₁.setTop (mkF m 35 #[.val (.int p1), .val (.int (3 : Int32)), .unset, .unset] [])) _
    refine XS.iloadN X0.here hx rfl (hb hby at_35) rfl ?_
    show Steps p.tables e below (s₁.setTop (mkF m 36 #[.val (.int p1), .val (.int (3 : Int32)), .unset, .unset] [(.int (3 : Int32))])) _
    refine XS.iconst X0.here hx rfl (hb hby at_36) ?_
    show Steps p.tables e below (s₁.setTop (mkF m 37 #[.val (.int p1), .val (.int (3 : Int32)), .unset, .unset] [(.int (2 : Int32)), (.int (3 : Int32))])) _
    refine XS.icmpYes X0.here hx rfl (pc0 := 37) (pc' := 51) rfl (hb hby at_37) rfl (feq (by decide : ¬ ((3 : Int32) = (2 : Int32)))).2 (by decide) (by decide) ?_
    show Steps p.tables e below (s₁.setTop (mkF m 51 #[.val (.int p1), .val (.int (3 : Int32)), .unset, .unset] [])) _
    refine st1 _ ?_
    show Steps p.tables e below (T1.setTop (mkF m 54 #[.val (.int p1), .val (.int (3 : Int32)), .unset, .unset] [(.ref w_BELOW)])) _
    refine XS.astoreN X1.here hx rfl (hb hby at_54) rfl rfl (l' := #[.val (.int p1), .val (.int (3 : Int32)), .val (.ref w_BELOW), .unset]) rfl ?_
    show Steps p.tables e below (T1.setTop (mkF m 55 #[.val (.int p1), .val (.int (3 : Int32)), .val (.ref w_BELOW), .unset] [])) _
    refine st2 _ ?_
    show Steps p.tables e below (T2.setTop (mkF m 58 #[.val (.int p1), .val (.int (3 : Int32)), .val (.ref w_BELOW), .unset] [(.ref w_ABOVE)])) _
    refine XS.astoreN X2.here hx rfl (hb hby at_58) rfl rfl (l' := #[.val (.int p1), .val (.int (3 : Int32)), .val (.ref w_BELOW), .val (.ref w_ABOVE)]) rfl ?_
    show Steps p.tables e below (T2.setTop (mkF m 59 #[.val (.int p1), .val (.int (3 : Int32)), .val (.ref w_BELOW), .val (.ref w_ABOVE)] [])) _
    refine XS.aloadN X2.here hx rfl (hb hby at_59) rfl rfl ?_
    show Steps p.tables e below (T2.setTop (mkF m 60 #[.val (.int p1), .val (.int (3 : Int32)), .val (.ref w_BELOW), .val (.ref w_ABOVE)] [(.ref w_BELOW)])) _
    refine st3.trans ?_
    show Steps p.tables e below (T3.setTop (mkF m 63 #[.val (.int p1), .val (.int (3 : Int32)), .val (.ref w_BELOW), .val (.ref w_ABOVE)] [(.ref w_ABOVE)])) _
    refine XS.aloadN X3.here hx rfl (hb hby at_63) rfl rfl ?_
    show Steps p.tables e below (T3.setTop (mkF m 64 #[.val (.int p1), .val (.int (3 : Int32)), .val (.ref w_BELOW), .val (.ref w_ABOVE)] [(.ref w_ABOVE), (.ref w_ABOVE)])) _
    refine Jvm.RoadKit.acmp (g := (mkF m 64 #[.val (.int p1), .val (.int (3 : Int32)), .val (.ref w_BELOW), .val (.ref w_ABOVE)] [(.ref w_ABOVE), (.ref w_ABOVE)])) X3 hx rfl rfl rfl (pc0 := 64) (pc' := 67) (same := true) rfl (hb hby at_64) rfl (decide_eq_true rfl) (by decide) (by decide) ?_
    show Steps p.tables e below (T3.setTop (mkF m 67 #[.val (.int p1), .val (.int (3 : Int32)), .val (.ref w_BELOW), .val (.ref w_ABOVE)] [])) _
    refine XS.iconst X3.here hx rfl (hb hby at_67) ?_
    show Steps p.tables e below (T3.setTop (mkF m 68 #[.val (.int p1), .val (.int (3 : Int32)), .val (.ref w_BELOW), .val (.ref w_ABOVE)] [(.int (1 : Int32))])) _
    refine XS.goto X3.here hx rfl (pc0 := 68) (pc' := 72) rfl (hb hby at_68) (by decide) (by decide) ?_
    show Steps p.tables e below (T3.setTop (mkF m 72 #[.val (.int p1), .val (.int (3 : Int32)), .val (.ref w_BELOW), .val (.ref w_ABOVE)] [(.int (1 : Int32))])) _
    exact retN X3 hx (t := .boolean) Bd.returns (by simp) (hb hby at_72) hr
  · exact ⟨rfl, N3⟩
theorem rm0_all (l : Launch) (Z : State) (a0 : Array Value) (hw : ∀ d ∈ tables_1, d.before a0 Z = true) (ws : List Jvm.Cond) (w_AT_LEAST : Addr) (w_AT_MOST : Addr) (w_BELOW : Addr) (w_ABOVE : Addr) (p1 : Int32) (h0 : Heap) (n0 : Nat) (Z0 : n0 ≤ h0.size) (HW : World Z h0 w_AT_LEAST w_AT_MOST w_BELOW w_ABOVE) :
    MetFree l x (head1 (Jvm.Cond.code x code maxLocals ret :: ws) room_1) (fun a U => a = #[(.int p1)] ∧ Z.Warmed39 U.vm ∧ U.heap = h0) (fun _ _ _ _ _ => True) (fun _ U o U' => ∃ v L, o = .returned v ∧ Q0 h0 n0 v U'.heap L ∧ FrameEnd U o U' L room_1.cells room_1.slots) := by
  rcases own_mask p1 with hk | hk | hk | hk
  · skip
    exact rm0_c0 l Z a0 hw ws w_AT_LEAST w_AT_MOST w_BELOW w_ABOVE p1 h0 n0 Z0 HW hk
  · skip
    exact rm0_c1 l Z a0 hw ws w_AT_LEAST w_AT_MOST w_BELOW w_ABOVE p1 h0 n0 Z0 HW hk
  · skip
    exact rm0_c2 l Z a0 hw ws w_AT_LEAST w_AT_MOST w_BELOW w_ABOVE p1 h0 n0 Z0 HW hk
  · skip
    exact rm0_c3 l Z a0 hw ws w_AT_LEAST w_AT_MOST w_BELOW w_ABOVE p1 h0 n0 Z0 HW hk
set_option maxRecDepth 65536 in
set_option maxHeartbeats 40000000 in
theorem comes_1 {Post : Tables → Env → Array Value → State → Outcome → State → Prop} (hpost : ∀ tb e args s v u, (limb_1_1.after args s (.returned v) u = true ∧ limb_1_2.after args s (.returned v) u = true ∧ True) → FrameEnd s (.returned v) u (Jvm.fieldLocs frame_1_writes args s ++ Jvm.arrayLocs frame_1_arrays args s ++ Jvm.staticLocs frame_1_statics s) 0 0 → Post tb e args s (.returned v) u) :
    ArmFor flags0 classFile x code maxLocals ret World_1 tables_1 room_1 Calls_1 rest_1 Pre_1 Post := by
  intro l hfl _ _ p e ha hc hk s m args below hf hA hF happ hP
  obtain ⟨hcalls, hrest, hpre⟩ := hP
  obtain ⟨-, -, -, hnamed, -, -, -, hat⟩ := (Spec.applies_iff hf).mp happ
  obtain ⟨hg, hn⟩ := and_e (Cond.before_iff.mp (show (Jvm.Cond.and given_1 narrow_1).before args s = true from hpre))
  obtain ⟨hg1a, hg1b⟩ := and_e hg
  obtain ⟨w0, rfl⟩ : ∃ w0 : Value, args = #[w0] := by
    have hs : args.size = 1 := by simpa [Cond.value, given_1] using hg1a
    obtain ⟨L⟩ := args
    match L, hs with
    | [w0], _ => exact ⟨w0, rfl⟩
  have hw := fun d (hd : d ∈ tables_1) => atoms_spec (ws := Jvm.Cond.code x code maxLocals ret :: tables_1) hat d (List.mem_cons_of_mem _ hd)
  have hfit : Fit s := fun {y c} hc i hi => by
    obtain ⟨ha, rfl⟩ := Array.getElem?_eq_some_iff.mp hc
    have q := List.all_eq_true.mp ((Array.all_eq_true_iff_forall_mem.mp hF) _ (Array.getElem_mem ha)) i (List.mem_range.mpr hi)
    simpa [Array.getElem?_eq_getElem hi] using q
  obtain ⟨i0, ei0⟩ := is_v hg1b
  obtain rfl : w0 = (.int i0) := Option.some.inj ei0
  obtain ⟨hn1a, hn1b⟩ := and_e hn
  obtain ⟨hn2a, hn2b⟩ := and_e hn1b
  obtain ⟨hn3a, hn3b⟩ := and_e hn2b
  obtain ⟨hn4a, hn4b⟩ := and_e hn3b
  obtain ⟨hn5a, hn5b⟩ := and_e hn4b
  obtain ⟨hn6a, hn6b⟩ := and_e hn5b
  obtain ⟨hn7a, hn7b⟩ := and_e hn6b
  obtain ⟨hn8a, hn8b⟩ := and_e hn7b
  obtain ⟨hn9a, hn9b⟩ := and_e hn8b
  obtain ⟨hn10a, hn10b⟩ := and_e hn9b
  obtain ⟨hn11a, hn11b⟩ := and_e hn10b
  obtain ⟨w_AT_LEAST, ev_w_AT_LEAST⟩ := exa_v hn1a
  have S_w_AT_LEAST := Sta.start ev_w_AT_LEAST (Or.inr ⟨(hw _ (List.mem_of_getElem? (i := 1) rfl)), (hw _ (List.mem_of_getElem? (i := 2) rfl))⟩)
  have E_w_AT_LEAST := Exa.start ev_w_AT_LEAST hn1a
  obtain ⟨w_AT_MOST, ev_w_AT_MOST⟩ := exa_v hn2a
  have S_w_AT_MOST := Sta.start ev_w_AT_MOST (Or.inr ⟨(hw _ (List.mem_of_getElem? (i := 1) rfl)), (hw _ (List.mem_of_getElem? (i := 4) rfl))⟩)
  have E_w_AT_MOST := Exa.start ev_w_AT_MOST hn2a
  obtain ⟨w_BELOW, ev_w_BELOW⟩ := exa_v hn5a
  have S_w_BELOW := Sta.start ev_w_BELOW (Or.inr ⟨(hw _ (List.mem_of_getElem? (i := 1) rfl)), (hw _ (List.mem_of_getElem? (i := 19) rfl))⟩)
  have E_w_BELOW := Exa.start ev_w_BELOW hn5a
  obtain ⟨w_ABOVE, ev_w_ABOVE⟩ := exa_v hn6a
  have S_w_ABOVE := Sta.start ev_w_ABOVE (Or.inr ⟨(hw _ (List.mem_of_getElem? (i := 1) rfl)), (hw _ (List.mem_of_getElem? (i := 21) rfl))⟩)
  have E_w_ABOVE := Exa.start ev_w_ABOVE hn6a
  have F_side_w_AT_LEAST := own_fld (k := (1 : Int32)) hn3a ev_w_AT_LEAST
  have F_inclusive_w_AT_LEAST := own_fld (k := (1 : Int32)) hn4a ev_w_AT_LEAST
  have F_side_w_BELOW := own_fld (k := (-1 : Int32)) hn7a ev_w_BELOW
  have F_inclusive_w_BELOW := own_fld (k := (0 : Int32)) hn8a ev_w_BELOW
  have F_side_w_ABOVE := own_fld (k := (1 : Int32)) hn9a ev_w_ABOVE
  have F_inclusive_w_ABOVE := own_fld (k := (0 : Int32)) hn10a ev_w_ABOVE
  have F_side_w_AT_MOST := own_fld (k := (-1 : Int32)) hn11a ev_w_AT_MOST
  have F_inclusive_w_AT_MOST := own_fld (k := (1 : Int32)) hn11b ev_w_AT_MOST
  have ne_w_AT_LEAST_w_AT_MOST : ¬ (w_AT_LEAST = w_AT_MOST) := own_ne F_side_w_AT_LEAST F_side_w_AT_MOST (by decide)
  have ne_w_AT_LEAST_w_BELOW : ¬ (w_AT_LEAST = w_BELOW) := own_ne F_side_w_AT_LEAST F_side_w_BELOW (by decide)
  have ne_w_AT_LEAST_w_ABOVE : ¬ (w_AT_LEAST = w_ABOVE) := own_ne F_inclusive_w_AT_LEAST F_inclusive_w_ABOVE (by decide)
  have ne_w_AT_MOST_w_BELOW : ¬ (w_AT_MOST = w_BELOW) := own_ne F_inclusive_w_AT_MOST F_inclusive_w_BELOW (by decide)
  have ne_w_AT_MOST_w_ABOVE : ¬ (w_AT_MOST = w_ABOVE) := own_ne F_side_w_AT_MOST F_side_w_ABOVE (by decide)
  have ne_w_BELOW_w_ABOVE : ¬ (w_BELOW = w_ABOVE) := own_ne F_side_w_BELOW F_side_w_ABOVE (by decide)
  have HW : World s s.heap w_AT_LEAST w_AT_MOST w_BELOW w_ABOVE := ⟨S_w_AT_LEAST, E_w_AT_LEAST, S_w_AT_MOST, E_w_AT_MOST, S_w_BELOW, E_w_BELOW, S_w_ABOVE, E_w_ABOVE, F_side_w_AT_LEAST, F_inclusive_w_AT_LEAST, F_side_w_BELOW, F_inclusive_w_BELOW, F_side_w_ABOVE, F_inclusive_w_ABOVE, F_side_w_AT_MOST, F_inclusive_w_AT_MOST, ne_w_AT_LEAST_w_AT_MOST, ne_w_AT_LEAST_w_BELOW, ne_w_AT_LEAST_w_ABOVE, ne_w_AT_MOST_w_BELOW, ne_w_AT_MOST_w_ABOVE, ne_w_BELOW_w_ABOVE, trivial⟩
  obtain ⟨n, o, h1, h2, h3, _, L, rfl, ⟨rfl, N⟩, hq⟩ := rm0_all l s _ hw tables_1 w_AT_LEAST w_AT_MOST w_BELOW w_ABOVE i0 s.heap s.heap.size (Nat.le_refl _) HW p e ha hc hk s m _ below hf ((Spec.applies_iff_loose hf).mp happ).1 ⟨rfl, State.Warmed39.refl s, rfl⟩ trivial
  exact ⟨n, _, h1, h2, h3, hpost _ _ _ _ _ _ ⟨Cond.after_iff.mpr rfl, Cond.after_iff.mpr (eq_i res_at (Term.int_eval (1)) rfl), trivial⟩ ⟨hq.1, hq.2.1, (hq.2.2.sift fun y hy => Or.inr (N y hy)).mono (by decide) (by decide)⟩⟩
theorem main_1_1 : Claimed_1_1 := comes_1 fun _ _ _ _ _ _ h hF => ⟨h.1, hF⟩
theorem main_1_2 : Claimed_1_2 := comes_1 fun _ _ _ _ _ _ h hF => ⟨h.2.1, hF⟩
end Jvm.Pilot.@@N@@
namespace Jvm.Pilot.@@N@@
open Jvm Jvm.ClassFile Sem Op Lib Jvm.Free Jvm.Stand Jvm.Pilot.@@N@@.Jvm.D
/-! MADE BY PROGRAM (witnessworld.py) out of the Statement's table words and the real class files: 10 classes; the members and pool entries that the words name. The judged class is class 1, her method 1. -/
namespace start1
open Jvm.ClassFile
def u (s : String) : CpInfo := .utf8 (stringToUtf16 s)
/-- a pool by its gaps: so many unusable entries, then the entry; so many at the end -/
def gap : Nat → List CpInfo → List CpInfo
  | 0, r => r
  | n + 1, r => .unusable :: gap n r
def poolList (es : List (Nat × CpInfo)) (last : Nat) : List CpInfo := es.foldr (fun e r => gap e.1 (e.2 :: r)) (gap last [])
def pool (es : List (Nat × CpInfo)) (last : Nat) : Array CpInfo := ⟨poolList es last⟩
def fileOf (pool : Array CpInfo) (this : Nat) (attrs : Array Attribute := #[]) (ms : Array MethodInfo := #[]) (fl : Nat := 33) (sup : Nat := 0) (ifs : Array Nat := #[]) (fds : Array FieldInfo := #[]) : ClassFile where
  minorVersion := 0
  majorVersion := 65
  constantPool := pool
  accessFlags := fl
  thisClass := this
  superClass := sup
  interfaces := ifs
  fields := fds
  methods := ms
  attributes := attrs
def plain (name : String) (sup : Option ClassId) : Class where
  name := name
  kind := .ordinary
  loader := none
  accessFlags := 33
  super := sup
  interfaces := #[]
  cf := none
  fields := #[]
  methods := #[]
  instanceTypes := #[]
  staticTypes := #[]
  resolved := #[]
  callSites := []
  init := .initialized
  statics := none
  mirror := none

def pool0 : Array CpInfo := pool [(5, u "<init>"), (0, u "()V"), (1, .class_ 10), (1, u "java/lang/Object")] 113

def k0m0 : Method := { name := "<init>", desc := "()V", sig := { parameters := [], returnType := none }, accessFlags := 1, code := none }
/-- java/lang/Object -/
def k0 : Class := { plain "java/lang/Object" none with
  accessFlags := 33
  interfaces := #[]
  cf := some (fileOf pool0 8 #[] #[{ accessFlags := 1, nameIndex := 5, descriptorIndex := 6, attributes := #[] }] 33 0 #[] #[])
  fields := #[]
  methods := #[k0m0]
  instanceTypes := #[]
  staticTypes := #[]
  resolved := Array.replicate 124 none
  statics := none }

def pool1 : Array CpInfo := pool [(2, .class_ 4), (1, u "java/lang/Object"), (0, u "<init>"), (0, u "()V"), (0, .fieldref 8 9), (0, .class_ 10), (0, .nameAndType 11 12), (0, u "com/example/tierline/tierline/Bound"), (0, u "AT_LEAST"), (0, u "Lcom/example/tierline/tierline/Bound;"), (0, .fieldref 8 14), (0, .nameAndType 15 12), (0, u "AT_MOST"), (0, .fieldref 8 17), (0, .nameAndType 18 12), (0, u "ABOVE"), (0, .fieldref 8 20), (0, .nameAndType 21 12), (0, u "BELOW"), (0, .methodref 8 23), (0, .nameAndType 24 25), (0, u "reversed"), (0, u "()Lcom/example/tierline/tierline/Bound;"), (0, .class_ 27), (0, u "com/example/tierline/tierline/BoundReversedPinLaw"), (2, u "law"), (0, u "(I)Z")] 3

def k1m0 : Method := { name := "<init>", desc := "()V", sig := { parameters := [], returnType := none }, accessFlags := 1, code := none }
def k1c1 : Code := { maxStack := 2, maxLocals := 4, code := code, exceptionTable := #[], attributes := #[] }
def k1m1 : Method := { name := "law", desc := "(I)Z", sig := { parameters := [.int], returnType := some .boolean }, accessFlags := 9, code := some k1c1 }
/-- com/example/tierline/tierline/BoundReversedPinLaw -/
def k1 : Class := { plain "com/example/tierline/tierline/BoundReversedPinLaw" (some 0) with
  accessFlags := 49
  interfaces := #[]
  cf := some (fileOf pool1 26 #[] #[{ accessFlags := 1, nameIndex := 5, descriptorIndex := 6, attributes := #[] }, { accessFlags := 9, nameIndex := 30, descriptorIndex := 31, attributes := #[] }] 49 2 #[] #[])
  fields := #[]
  methods := #[k1m0, k1m1]
  instanceTypes := #[]
  staticTypes := #[]
  resolved := Array.replicate 35 none
  statics := none }

def pool2 : Array CpInfo := pool [(1, .class_ 2), (0, u "java/lang/constant/Constable"), (0, .class_ 4), (0, u "java/lang/Object")] 6

/-- java/lang/constant/Constable -/
def k2 : Class := { plain "java/lang/constant/Constable" (some 0) with
  accessFlags := 1537
  interfaces := #[]
  cf := some (fileOf pool2 1 #[] #[] 1537 3 #[] #[])
  fields := #[]
  methods := #[]
  instanceTypes := #[]
  staticTypes := #[]
  resolved := Array.replicate 11 none
  statics := none }

def pool3 : Array CpInfo := pool [(1, .class_ 2), (0, u "java/lang/Comparable"), (0, .class_ 4), (0, u "java/lang/Object")] 7

/-- java/lang/Comparable -/
def k3 : Class := { plain "java/lang/Comparable" (some 0) with
  accessFlags := 1537
  interfaces := #[]
  cf := some (fileOf pool3 1 #[] #[] 1537 3 #[] #[])
  fields := #[]
  methods := #[]
  instanceTypes := #[]
  staticTypes := #[]
  resolved := Array.replicate 12 none
  statics := none }

def pool4 : Array CpInfo := pool [(1, .class_ 2), (0, u "java/io/Serializable"), (0, .class_ 4), (0, u "java/lang/Object")] 2

/-- java/io/Serializable -/
def k4 : Class := { plain "java/io/Serializable" (some 0) with
  accessFlags := 1537
  interfaces := #[]
  cf := some (fileOf pool4 1 #[] #[] 1537 3 #[] #[])
  fields := #[]
  methods := #[]
  instanceTypes := #[]
  staticTypes := #[]
  resolved := Array.replicate 7 none
  statics := none }

def pool5 : Array CpInfo := pool [(2, .class_ 4), (1, u "java/lang/Enum"), (0, u "name"), (0, u "Ljava/lang/String;"), (2, u "ordinal"), (0, u "I"), (1, .class_ 14), (1, u "java/lang/Object"), (4, u "hash"), (86, .class_ 108), (1, u "java/lang/Enum$EnumDesc"), (2, .class_ 112), (0, u "java/lang/constant/Constable"), (0, .class_ 114), (0, u "java/lang/Comparable"), (0, .class_ 116), (0, u "java/io/Serializable")] 87

/-- java/lang/Enum -/
def k5 : Class := { plain "java/lang/Enum" (some 0) with
  accessFlags := 1057
  interfaces := #[2, 3, 4]
  cf := some (fileOf pool5 2 #[.nestMembers #[106]] #[] 1057 12 #[111, 113, 115] #[{ accessFlags := 18, nameIndex := 5, descriptorIndex := 6, attributes := #[] }, { accessFlags := 18, nameIndex := 9, descriptorIndex := 10, attributes := #[] }, { accessFlags := 2, nameIndex := 19, descriptorIndex := 10, attributes := #[] }])
  fields := #[{ name := "name", type := (.object "java/lang/String"), accessFlags := 18, slot := 0, constantValue := 0 }, { name := "ordinal", type := .int, accessFlags := 18, slot := 1, constantValue := 0 }, { name := "hash", type := .int, accessFlags := 2, slot := 2, constantValue := 0 }]
  methods := #[]
  instanceTypes := #[(.object "java/lang/String"), .int, .int]
  staticTypes := #[]
  resolved := Array.replicate 204 none
  statics := none }

def pool6 : Array CpInfo := pool [(1, .class_ 2), (0, u "com/example/tierline/tierline/Bound"), (0, .fieldref 1 4), (0, .nameAndType 5 6), (0, u "AT_LEAST"), (0, u "Lcom/example/tierline/tierline/Bound;"), (0, .fieldref 1 8), (0, .nameAndType 9 6), (0, u "AT_MOST"), (0, .fieldref 1 11), (0, .nameAndType 12 6), (0, u "ABOVE"), (0, .fieldref 1 14), (0, .nameAndType 15 6), (0, u "BELOW"), (2, u "$VALUES"), (0, u "[Lcom/example/tierline/tierline/Bound;"), (6, .class_ 28), (1, u "java/lang/Enum"), (8, u "key"), (0, u "Ljava/lang/String;"), (0, .fieldref 1 40), (0, .nameAndType 41 42), (0, u "side"), (0, u "I"), (0, .fieldref 1 44), (0, .nameAndType 45 46), (0, u "inclusive"), (0, u "Z"), (0, .methodref 1 48), (0, .nameAndType 49 50), (0, u "toward"), (0, u "(IZ)Lcom/example/tierline/tierline/Bound;"), (64, u "()Lcom/example/tierline/tierline/Bound;"), (0, u "reversed")] 11

def k6c0 : Code := { maxStack := 1, maxLocals := 3, code := prog_1_method_5_code, exceptionTable := #[], attributes := #[] }
def k6m0 : Method := { name := "toward", desc := "(IZ)Lcom/example/tierline/tierline/Bound;", sig := { parameters := [.int, .boolean], returnType := some (.object "com/example/tierline/tierline/Bound") }, accessFlags := 8, code := some k6c0 }
def k6c1 : Code := { maxStack := 2, maxLocals := 1, code := prog_1_method_7_code, exceptionTable := #[], attributes := #[] }
def k6m1 : Method := { name := "reversed", desc := "()Lcom/example/tierline/tierline/Bound;", sig := { parameters := [], returnType := some (.object "com/example/tierline/tierline/Bound") }, accessFlags := 0, code := some k6c1 }
/-- com/example/tierline/tierline/Bound -/
def k6 : Class := { plain "com/example/tierline/tierline/Bound" (some 5) with
  accessFlags := 16432
  interfaces := #[]
  cf := some (fileOf pool6 1 #[] #[{ accessFlags := 8, nameIndex := 49, descriptorIndex := 50, attributes := #[] }, { accessFlags := 0, nameIndex := 116, descriptorIndex := 115, attributes := #[] }] 16432 26 #[] #[{ accessFlags := 16409, nameIndex := 5, descriptorIndex := 6, attributes := #[] }, { accessFlags := 16409, nameIndex := 9, descriptorIndex := 6, attributes := #[] }, { accessFlags := 16409, nameIndex := 12, descriptorIndex := 6, attributes := #[] }, { accessFlags := 16409, nameIndex := 15, descriptorIndex := 6, attributes := #[] }, { accessFlags := 18, nameIndex := 37, descriptorIndex := 38, attributes := #[] }, { accessFlags := 18, nameIndex := 41, descriptorIndex := 42, attributes := #[] }, { accessFlags := 18, nameIndex := 45, descriptorIndex := 46, attributes := #[] }, { accessFlags := 4122, nameIndex := 18, descriptorIndex := 19, attributes := #[] }])
  fields := #[{ name := "AT_LEAST", type := (.object "com/example/tierline/tierline/Bound"), accessFlags := 16409, slot := 0, constantValue := 0 }, { name := "AT_MOST", type := (.object "com/example/tierline/tierline/Bound"), accessFlags := 16409, slot := 1, constantValue := 0 }, { name := "ABOVE", type := (.object "com/example/tierline/tierline/Bound"), accessFlags := 16409, slot := 2, constantValue := 0 }, { name := "BELOW", type := (.object "com/example/tierline/tierline/Bound"), accessFlags := 16409, slot := 3, constantValue := 0 }, { name := "key", type := (.object "java/lang/String"), accessFlags := 18, slot := 3, constantValue := 0 }, { name := "side", type := .int, accessFlags := 18, slot := 4, constantValue := 0 }, { name := "inclusive", type := .boolean, accessFlags := 18, slot := 5, constantValue := 0 }, { name := "$VALUES", type := (.array (.object "com/example/tierline/tierline/Bound")), accessFlags := 4122, slot := 4, constantValue := 0 }]
  methods := #[k6m0, k6m1]
  instanceTypes := #[(.object "java/lang/String"), .int, .int, (.object "java/lang/String"), .int, .boolean]
  staticTypes := #[(.object "com/example/tierline/tierline/Bound"), (.object "com/example/tierline/tierline/Bound"), (.object "com/example/tierline/tierline/Bound"), (.object "com/example/tierline/tierline/Bound"), (.array (.object "com/example/tierline/tierline/Bound"))]
  resolved := Array.replicate 128 none
  statics := some 0 }

def pool7 : Array CpInfo := pool [(1, u "java/lang/Cloneable"), (0, .class_ 1), (0, u "java/lang/Object"), (0, .class_ 3)] 3

/-- java/lang/Cloneable -/
def k7 : Class := { plain "java/lang/Cloneable" (some 0) with
  accessFlags := 1537
  interfaces := #[]
  cf := some (fileOf pool7 2 #[] #[] 1537 4 #[] #[])
  fields := #[]
  methods := #[]
  instanceTypes := #[]
  staticTypes := #[]
  resolved := Array.replicate 8 none
  statics := none }

/-- the primitive byte -/
def k8 : Class := { plain "byte" none with kind := .primitive 'B', accessFlags := 0x411 }
/-- [B -/
def k9 : Class := { plain "[B" (some 0) with kind := .array 8 .byte, interfaces := #[7, 4], accessFlags := 1041 }

def heap : Heap := #[{ cls := 6, slots := #[.ref 1, .ref 2, .ref 4, .ref 3, .null], vm := .statics 6 },
  { cls := 6, slots := #[.null, .int 0, .int 0, .null, .int 1, .int 1], vm := .none },
  { cls := 6, slots := #[.null, .int 0, .int 0, .null, .int (-1), .int 1], vm := .none },
  { cls := 6, slots := #[.null, .int 0, .int 0, .null, .int (-1), .int 0], vm := .none },
  { cls := 6, slots := #[.null, .int 0, .int 0, .null, .int 1, .int 0], vm := .none }]
def classes : Array Class := #[k0, k1, k2, k3, k4, k5, k6, k7, k8, k9]
def interned : List (Array UInt16 × Addr) := []
def slotsUsed : Nat := 29
def theMethod : MethodId := ⟨1, 1⟩
def args0 : Array Value := #[.int 5]
def aboutOver (below : List Frame) : State where
  vm := { classes := classes, interned := interned.toArray }
  heap := heap
  slotsUsed := slotsUsed
  threads := #[{ frames := .invoking theMethod args0 :: below }]
def below0 : List Frame := [.native { method := ⟨0, 0⟩, args := #[] }]
def about1 : State := aboutOver below0
def p0 : Program := .bare "" "" ""
def e0 : Env := launch0.env 0 0 0
theorem w_frames : about1.frames = Frame.invoking theMethod args0 :: below0 := rfl
set_option maxRecDepth 65536 in
theorem w_args : argsFit about1.vm theMethod args0 = true := by decide +kernel
set_option maxRecDepth 65536 in
theorem w_heap : heapFits about1 = true := by decide +kernel
set_option maxRecDepth 65536 in
theorem w_runnable : about1.curStatus? = some .runnable := by decide +kernel
set_option maxRecDepth 65536 in
theorem w_alone : about1.alone = true := by decide +kernel
set_option maxRecDepth 65536 in
theorem w_named : about1.methodNamed? x = some theMethod := by decide +kernel
set_option maxRecDepth 65536 in
theorem w_hears : about1.hears theMethod below0 = true := by decide +kernel
set_option maxRecDepth 65536 in
theorem w_ripe : about1.ripe theMethod args0 below0 = true := by decide +kernel
theorem w_running : about1.status = .running := rfl
set_option maxRecDepth 65536 in
theorem w_room : about1.hasRoom e0.platform room_1 = true :=
  launch0.hasRoom_least _ room_1 (by decide +kernel) (by decide +kernel) (by decide +kernel) (by decide +kernel) (by decide +kernel) (by decide +kernel)
theorem allAtoms_all (ts : List Jvm.Cond) (a : Array Jvm.Value) (st : Jvm.State) : (allAtoms ts).before a st = ts.all (fun c => c.before a st) := by
  induction ts with
  | nil => rfl
  | cons c t ih =>
    show (Jvm.Cond.and c (allAtoms t)).before a st = _
    rw [Jvm.Cond.before_and, ih, List.all_cons]
def words1 : List Jvm.Cond := Jvm.Cond.code x code maxLocals ret :: tables_1
/-- a 'code' word, met by the world's own term for the bytes: nothing is compared byte by byte -/
theorem code_word {y : MethodName} {bytes : ByteArray} {mx : Nat} {rt : Option FieldType} {a : Array Value} {s : State} {m : MethodId} {meth : Method} {c : Code} (h1 : s.methodNamed? y = some m) (h2 : s.vm.method? m = some meth) (h3 : meth.code = some c) (h4 : c.code = bytes)
    (h5 : (c.maxLocals == mx && c.exceptionTable.isEmpty && decide (c.maxStack ≤ mostOperands) && decide (meth.sig.returnType = rt) && !meth.locks && decide (parseMethodDescriptor y.desc = some meth.sig)) = true) : (Jvm.Cond.code y bytes mx rt).before a s = true := by
  simp only [Bool.and_eq_true, beq_iff_eq, Bool.not_eq_true', decide_eq_true_eq] at h5
  obtain ⟨⟨⟨⟨⟨g1, g2⟩, g3⟩, g4⟩, g5⟩, g6⟩ := h5
  simp [Cond.before, Cond.holds, Cond.value, h1, h2, h3, h4, g1, g2, g3, g4, g5, g6]
def isCode : Jvm.Cond → Bool
  | .code _ _ _ _ => true
  | _ => false
theorem all_split {L : List Jvm.Cond} {P : Jvm.Cond → Bool} (h1 : L.all (fun c => isCode c || P c) = true) (h2 : ∀ c ∈ L.filter isCode, P c = true) : L.all P = true := by
  refine List.all_eq_true.mpr fun c hc => ?_
  have h := List.all_eq_true.mp h1 c hc
  rcases Bool.eq_false_or_eq_true (isCode c) with hi | hi
  · exact h2 c (List.mem_filter.mpr ⟨hc, hi⟩)
  · simpa [hi] using h
set_option maxRecDepth 65536 in
theorem w_c0 : (Jvm.Cond.code x code maxLocals ret).before args0 about1 = true := code_word (m := ⟨1, 1⟩) (meth := k1m1) (c := k1c1) (by decide +kernel) rfl rfl rfl (by decide +kernel)
set_option maxRecDepth 65536 in
theorem w_c1 : (Jvm.Cond.code ({ cls := "com/example/tierline/tierline/Bound", name := "reversed", desc := "()Lcom/example/tierline/tierline/Bound;" } : Jvm.MethodName) prog_1_method_7_code (1 : Nat) (Option.some (Jvm.ClassFile.FieldType.object "com/example/tierline/tierline/Bound"))).before args0 about1 = true := code_word (m := ⟨6, 1⟩) (meth := k6m1) (c := k6c1) (by decide +kernel) rfl rfl rfl (by decide +kernel)
set_option maxRecDepth 65536 in
theorem w_c2 : (Jvm.Cond.code ({ cls := "com/example/tierline/tierline/Bound", name := "toward", desc := "(IZ)Lcom/example/tierline/tierline/Bound;" } : Jvm.MethodName) prog_1_method_5_code (3 : Nat) (Option.some (Jvm.ClassFile.FieldType.object "com/example/tierline/tierline/Bound"))).before args0 about1 = true := code_word (m := ⟨6, 0⟩) (meth := k6m0) (c := k6c0) (by decide +kernel) rfl rfl rfl (by decide +kernel)
def codes1 : List Jvm.Cond := [Jvm.Cond.code x code maxLocals ret, Jvm.Cond.code ({ cls := "com/example/tierline/tierline/Bound", name := "reversed", desc := "()Lcom/example/tierline/tierline/Bound;" } : Jvm.MethodName) prog_1_method_7_code (1 : Nat) (Option.some (Jvm.ClassFile.FieldType.object "com/example/tierline/tierline/Bound")), Jvm.Cond.code ({ cls := "com/example/tierline/tierline/Bound", name := "toward", desc := "(IZ)Lcom/example/tierline/tierline/Bound;" } : Jvm.MethodName) prog_1_method_5_code (3 : Nat) (Option.some (Jvm.ClassFile.FieldType.object "com/example/tierline/tierline/Bound"))]
set_option maxRecDepth 65536 in
theorem codes_eq : words1.filter isCode = codes1 := rfl
theorem w_codes : ∀ c ∈ words1.filter isCode, c.before args0 about1 = true := by
  rw [codes_eq]
  intro c hc
  simp only [codes1, List.mem_cons, List.not_mem_nil, or_false] at hc
  rcases hc with rfl | rfl | rfl
  · exact w_c0
  · exact w_c1
  · exact w_c2
set_option maxRecDepth 65536 in
theorem w_t1 : (words1.take 24).all (fun c => isCode c || c.before args0 about1) = true := by decide +kernel
set_option maxRecDepth 65536 in
theorem w_t2 : (words1.drop 24).all (fun c => isCode c || c.before args0 about1) = true := by decide +kernel
theorem w_tables : (allAtoms (Jvm.Cond.code x code maxLocals ret :: tables_1)).before args0 about1 = true := by
  rw [allAtoms_all]
  show words1.all (fun c => c.before args0 about1) = true
  refine all_split ?_ w_codes
  rw [← List.take_append_drop 24 words1, List.all_append, w_t1, w_t2]
  rfl
set_option maxRecDepth 65536 in
theorem w_case : (Jvm.Cond.and given_1 narrow_1).before args0 about1 = true := by decide +kernel
theorem w_applies : (headSpec (Jvm.Cond.code x code maxLocals ret :: tables_1) room_1).applies x e0.platform about1 = true :=
  (Spec.applies_iff w_frames).mpr ⟨w_running, w_runnable, w_alone, w_named, w_hears, w_ripe, w_room, w_tables⟩
theorem atStart : AtStart classFile x code maxLocals ret World_1 tables_1 room_1 Calls_1 rest_1 Pre_1 launch0 p0 e0 about1 theMethod args0 below0 :=
  ⟨lists_1, trivial, launch0.admits_env _ _ _, launch0.least_env, fairChoices_fair.cas, fairChoices_fair.clock, w_frames, w_args, w_heap, w_applies, trivial, trivial, w_case⟩
end start1
theorem witness_1 : WitnessClaimed_1 := ⟨start1.p0, start1.e0, start1.about1, start1.theMethod, start1.args0, start1.below0, start1.atStart⟩
end Jvm.Pilot.@@N@@
