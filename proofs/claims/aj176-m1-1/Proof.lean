import JvmDerived
import JvmDerived.Pilot.@@N@@Statement
import JvmDerived.Pilot.@@N@@Code
set_option linter.unusedVariables false
set_option linter.unusedSimpArgs false
@@BLOCK:NumsL.lean.txt@@
namespace Jvm.RoadKit
open Sem ClassFile Op Lib Jvm.Stand Jvm.Free Jvm.LawKit
section New
variable {p : Program} {l : Launch} {e : Env} {R : Room} {s : State} {m : MethodId} {args : Array Value} {below : List Frame} {meth : Method} {c : Code} {T : State} {locs : List Loc} {cells slots : Nat}
theorem retI (X : Stand p l e R s m args below meth c T locs cells slots) (hx : p.tables.exec = Jvm.exec) {pc : Nat} {Ls : Array Slot} {z : Int32} {rest : List Value} (hret : meth.sig.returnType = some .int) (hd : decode c.code pc = .ok (.ireturn, 1)) {fs : List Frame}
    (hl : ∀ (f : JFrame) (acts : List Action), f.method = m → f.locked = none → f.entered = [] → (doReturn e (T.setTop f) acts (some (.int z))).1 = T.setFrames fs) : Steps p.tables e below (T.setTop (mkF m pc Ls (.int z :: rest))) (T.setFrames fs) := by
  have hm' : T.vm.method? m = some meth := X.method'
  have hn : narrow .int (.int z) = .int z := rfl
  show Steps p.tables e below (T.setTop { method := m, pc := pc, locals := Ls, stack := _ :: rest, locked := none }) _
  jvm_step X.here [X.here.top, hx, hd, hm', hret, hn]
  first | (intro acts; rw [hl _ acts rfl rfl rfl]) | rw [hl _ _ rfl rfl rfl]
  exact Steps.refl _
end New
end Jvm.RoadKit
namespace Jvm.Pilot.@@N@@
open Jvm Jvm.ClassFile Sem Op Lib Jvm.Free Jvm.Stand Jvm.LawKit Jvm.RoadKit Bundle Jvm.Pilot.@@N@@.Jvm.D
theorem own_ext {h h' h'' : Heap} (A : Ext h h') (B : Ext h' h'') : Ext h h'' := ⟨Nat.le_trans A.1 B.1, fun a c q => B.2 a c (A.2 a c q)⟩
theorem own_fld {args : Array Value} {s : State} {t : Term} {C n d : String} {w : Addr} {k : Int32} (h : (Jvm.Cond.eq (.field t C n d) (.int k)).value args s none s [] = some true) (ev : t.eval args s none [] s = some (.ref w)) : Fld s s.heap w C n d (.int k) := by
  apply Fld.start
  have e := fld_at (C := C) (n := n) (dd := d) ev
  obtain ⟨x, y, e1, e2, k1, k2⟩ := cmp_v (Or.inl h)
  cases (show y = .int k from (Option.some.inj (e2.symm.trans rfl)))
  obtain ⟨z, rfl⟩ := k2
  have q := gotT (Cond.eq_ints e1 e2) h
  rw [← e, e1, q]
theorem own_fldR {args : Array Value} {s : State} {t u : Term} {C n d : String} {w b : Addr} (h : (Jvm.Cond.eq (.field t C n d) u).value args s none s [] = some true) (ev : t.eval args s none [] s = some (.ref w)) (eu : u.eval args s none [] s = some (.ref b)) : Fld s s.heap w C n d (.ref b) := by
  apply Fld.start
  have e := fld_at (C := C) (n := n) (dd := d) ev
  obtain ⟨x, y, e1, e2, k1, k2⟩ := cmp_v (Or.inl h)
  cases e2.symm.trans eu
  have q := gotT (eq_R e1 eu k2.2 rfl) h
  rw [← e, e1, q]
theorem own_ne {Z : State} {h : Heap} {a b : Addr} {C n d : String} {i j : Int32} (F : Fld Z h a C n d (.int i)) (G : Fld Z h b C n d (.int j)) (hn : ¬ (i = j)) : ¬ (a = b) := fun e => by
  subst e
  obtain ⟨c1, f1, k1, i1, g1, p1, p2, -, -, -, -, p7⟩ := F
  obtain ⟨c2, f2, k2, i2, g2, q1, q2, -, -, -, -, q7⟩ := G
  cases p1.symm.trans q1
  cases p2.symm.trans q2
  exact hn (Value.int.inj (Option.some.inj (p7.symm.trans q7)))
theorem own_n0 {Z : State} {n0 : Nat} {h : Heap} (O : Old Z n0 h) : n0 ≤ h.size := O.1 ▸ O.2.1
theorem own_len {args : Array Value} {s : State} {t : Term} {w : Addr} {n : Int32} {cl : Cell} {ty : FieldType} (h : (Jvm.Cond.eq (.length t) (.int n)).value args s none s [] = some true) (ev : t.eval args s none [] s = some (.ref w)) (A : Arr s s.heap w cl ty) : cl.slots.size.toInt32 = n := by
  obtain ⟨x, y, e1, e2, k1, k2⟩ := cmp_v (Or.inl h)
  cases (show y = .int n from (Option.some.inj (e2.symm.trans rfl)))
  obtain ⟨z, rfl⟩ := k2
  have q := gotT (Cond.eq_ints e1 e2) h
  have ha : s.arrayAt? w = some cl := Arr.fin (Vm.Alike.refl _) A
  simp [Term.eval, ev, ha] at e1
  rw [← q]; exact e1.2
theorem own_elem {args : Array Value} {s : State} {t u : Term} {w : Addr} {j : Int32} {cl : Cell} {ty : FieldType} {v : Value} (h : (Jvm.Cond.eq (.elem t (.int j)) u).value args s none s [] = some true) (ev : t.eval args s none [] s = some (.ref w)) (A : Arr s s.heap w cl ty) (eu : u.eval args s none [] s = some v) (hv : v.isRef = true := by rfl) : ¬ (j < 0 ∨ cl.slots.size ≤ j.toNatClampNeg) ∧ cl.slots[j.toNatClampNeg]? = some v := by
  obtain ⟨x, y, e1, e2, k1, k2⟩ := cmp_v (Or.inl h)
  cases e2.symm.trans eu
  have hx : x.isRef = true := by cases v <;> simp [Value.isRef] at hv <;> exact k2.2
  have q := gotT (eq_R e1 eu hx hv) h
  rw [q] at e1
  exact elem_in e1 ev rfl A.1
theorem own_sz {n : Nat} {z : Int32} (h31 : n < 2 ^ 31) (e : n.toInt32 = z) : (n : Int) = z.toInt := by
  rw [← e]; exact (len_toInt h31).symm
theorem own_small {args : Array Value} {s : State} {t : Term} {w : Addr} {n : Int32} {cl : Cell} {ty : FieldType} (h : (Jvm.Cond.eq (.length t) (.int n)).value args s none s [] = some true) (ev : t.eval args s none [] s = some (.ref w)) (A : Arr s s.heap w cl ty) : cl.slots.size < 2 ^ 31 := by
  obtain ⟨x, y, e1, e2, k1, k2⟩ := cmp_v (Or.inl h)
  have ha : s.arrayAt? w = some cl := Arr.fin (Vm.Alike.refl _) A
  simp [Term.eval, ev, ha] at e1
  exact e1.1
theorem own_place {j : Int32} {n : Nat} (h31 : n < 2 ^ 31) {z : Int32} (e : n.toInt32 = z) (hj : ¬ j < 0 ∧ j < z) : ¬ (j < 0 ∨ n ≤ j.toNatClampNeg) ∧ j.toNatClampNeg < n := by
  have e1 := own_sz h31 e
  have e2 := nat_of hj.1
  have e3 := Int32.lt_iff_toInt_lt.mp hj.2
  have : j.toNatClampNeg < n := by omega
  exact ⟨fun q => q.elim hj.1 (fun q => by omega), this⟩
theorem own_allE {args : Array Value} {s : State} {C0 n0 d0 C : String} {w : Addr} {cl : Cell} {ty : FieldType} {z : Int32} {D : Jvm.Cond} (h : (Jvm.Cond.all (.static C0 n0 d0) (.and (.exactly (.elem (.static C0 n0 d0) (.index 0)) C) D)).value args s none s [] = some true) (ev : (Term.static C0 n0 d0).eval args s none [] s = some (.ref w)) (A : Arr s s.heap w cl ty) (h31 : cl.slots.size < 2 ^ 31) (e : cl.slots.size.toInt32 = z) (j : Int32) (hj : ¬ j < 0 ∧ j < z) :
    ∃ b, ¬ (j < 0 ∨ cl.slots.size ≤ j.toNatClampNeg) ∧ cl.slots[j.toNatClampNeg]? = some (.ref b) ∧ Exa s s.heap b C ∧ (Term.elem (.static C0 n0 d0) (.index 0)).eval args s none [j.toNatClampNeg] s = some (.ref b) ∧ D.value args s none s [j.toNatClampNeg] = some true := by
  have ha : s.arrayAt? w = some cl := Arr.fin (Vm.Alike.refl _) A
  obtain ⟨p1, p2⟩ := own_place h31 e hj
  obtain ⟨c1, c2⟩ := and_e (Cond.all_elim ev ha h _ p2)
  have ev' : (Term.static C0 n0 d0).eval args s none [j.toNatClampNeg] s = some (.ref w) := ev
  have ej : (Term.index 0).eval args s none [j.toNatClampNeg] s = some (.int j) := by
    show some (Value.int j.toNatClampNeg.toInt32) = _
    rw [(back32 hj.1).1]
  have ee := elem_f ev' ej ha hj.1
  obtain ⟨b, eb⟩ := exa_v c1
  obtain ⟨a', c', cell, k, q1, q2, q3, q4, q5, rfl, q7⟩ := Cond.exactly_spec (beq_iff_eq.mpr c1 : (Jvm.Cond.exactly (.elem (.static C0 n0 d0) (.index 0)) C).holds args s none s [j.toNatClampNeg] = true)
  cases eb.symm.trans q1
  exact ⟨b, p1, ee.symm.trans eb, ⟨cell, k, q3, q2, q4, q5, q7⟩, eb, c2⟩
theorem own_plL (w : Int64) (h1 : ¬ (w < (-128 : Int64))) (h2 : ¬ ((127 : Int64) < w)) : ¬ ((w.toInt32 + (128 : Int32)) < 0) ∧ (w.toInt32 + (128 : Int32)) < 256 := by
  rw [Int64.lt_iff_toInt_lt] at h1 h2
  have e1 : (-128 : Int64).toInt = -128 := by decide
  have e2 : (127 : Int64).toInt = 127 := by decide
  have e3 : w.toInt32.toInt = w.toInt := Jvm.Kit.i32_of_i64 (by omega) (by omega)
  have e4 : (128 : Int32).toInt = 128 := by decide
  have e5 : (w.toInt32 + (128 : Int32)).toInt = w.toInt32.toInt + (128 : Int32).toInt := Jvm.Kit.i32_add (by omega) (by omega)
  have e6 : (0 : Int32).toInt = 0 := by decide
  have e7 : (256 : Int32).toInt = 256 := by decide
  rw [Int32.lt_iff_toInt_lt, Int32.lt_iff_toInt_lt]
  omega
def World (Z : State) (w_cache : Addr) (cl_w_cache : Cell) : Prop := Sta Z Z.heap "java/lang/Long$LongCache" "cache" "[Ljava/lang/Long;" (.ref w_cache) ∧ Arr Z Z.heap w_cache cl_w_cache (.object "java/lang/Long") ∧ cl_w_cache.slots.size.toInt32 = (256 : Int32) ∧ (∀ j : Int32, (¬ j < 0 ∧ j < 256) → ∃ b : Addr, ¬ (j < 0 ∨ cl_w_cache.slots.size ≤ j.toNatClampNeg) ∧ cl_w_cache.slots[j.toNatClampNeg]? = some (.ref b) ∧ Exa Z Z.heap b "java/lang/Long") ∧ True
theorem d1_0 : decode prog_7_method_1_code 0 = .ok (.aload_n 0, 1) := by decide +kernel
theorem d1_1 : decode prog_7_method_1_code 1 = .ok (.invokespecial 1, 3) := by decide +kernel
theorem d1_4 : decode prog_7_method_1_code 4 = .ok (.aload_n 0, 1) := by decide +kernel
theorem d1_5 : decode prog_7_method_1_code 5 = .ok (.lload_n 1, 1) := by decide +kernel
theorem d1_6 : decode prog_7_method_1_code 6 = .ok (.putfield 7, 3) := by decide +kernel
theorem d1_9 : decode prog_7_method_1_code 9 = .ok (.aload_n 0, 1) := by decide +kernel
theorem d1_10 : decode prog_7_method_1_code 10 = .ok (.lload_n 3, 1) := by decide +kernel
theorem d1_11 : decode prog_7_method_1_code 11 = .ok (.putfield 13, 3) := by decide +kernel
theorem d1_14 : decode prog_7_method_1_code 14 = .ok (.return_, 1) := by decide +kernel
theorem ef10 (m : MethodId) (x0 : Addr) (x1 : Int64) (x2 : Int64) : entryFrame m #[(.ref x0), (.long x1), (.long x2)] 5 = mkF m 0 #[.val (.ref x0), .val (.long x1), .second, .val (.long x2), .second] [] := by first | (simp [entryFrame, mkF, argsToLocals, Value.category]; done) | rfl
theorem pn11 : plainName "com/example/melog/melog/model/TimestampedOffset" = true := by first | (simp [plainName, overriddenIn]; done) | decide +kernel
def Q1_0 (Z : State) (w_cache : Addr) (cl_w_cache : Cell) (ob0 : Addr) (q0 : Int64) (q1 : Int64) (h0 : Heap) (n0 : Nat) (v : Option Value) (h : Heap) (L : List Loc) : Prop := v = none ∧ Fr n0 L ∧ Keep h0 h [ob0] ∧ Old Z n0 h ∧ Exa Z h ob0 "com/example/melog/melog/model/TimestampedOffset" ∧ Fld Z h ob0 "com/example/melog/melog/model/TimestampedOffset" "offset" "J" (.long q0) ∧ Fld Z h ob0 "com/example/melog/melog/model/TimestampedOffset" "timestamp" "J" (.long q1) ∧ True
set_option maxRecDepth 65536 in
set_option maxHeartbeats 40000000 in
theorem rm1_0 (l : Launch) (Z : State) (a0 : Array Value) (hw : ∀ d ∈ tables_1, d.before a0 Z = true) (ws : List Jvm.Cond) (w_cache : Addr) (cl_w_cache : Cell) (ob0 : Addr) (q0 : Int64) (q1 : Int64) (h0 : Heap) (n0 : Nat) (Z0 : n0 ≤ h0.size) (O0 : Old Z n0 h0) (HW : World Z w_cache cl_w_cache) (PE_ob0 : Exa Z h0 ob0 "com/example/melog/melog/model/TimestampedOffset") (PF_ob0_offset : Fld Z h0 ob0 "com/example/melog/melog/model/TimestampedOffset" "offset" "J" (.long (0 : Int64))) (PF_ob0_timestamp : Fld Z h0 ob0 "com/example/melog/melog/model/TimestampedOffset" "timestamp" "J" (.long (0 : Int64))) (g_ob0 : n0 ≤ ob0) :
    MetFree l (⟨"com/example/melog/melog/model/TimestampedOffset", "<init>", "(JJ)V"⟩ : MethodName) (head1 (Jvm.Cond.code (⟨"com/example/melog/melog/model/TimestampedOffset", "<init>", "(JJ)V"⟩ : MethodName) prog_7_method_1_code 5 none :: ws) ({ frames := 1, cells := 0, slots := 0, locals := 12 } : Room)) (fun a U => a = #[(.ref ob0), (.long q0), (.long q1)] ∧ Z.Warmed39 U.vm ∧ U.heap = h0) (fun _ _ _ _ _ => True) (fun _ U o U' => ∃ v L, o = .returned v ∧ Q1_0 Z w_cache cl_w_cache ob0 q0 q1 h0 n0 v U'.heap L ∧ FrameEnd U o U' L ({ frames := 1, cells := 0, slots := 0, locals := 12 } : Room).cells ({ frames := 1, cells := 0, slots := 0, locals := 12 } : Room).slots) := by
  refine MetFree.of_bodySF (plainFor_of_name pn11) hisR ?_
  intro p e s m args below meth c s₁ Bd hml0 hP hK
  obtain ⟨rfl, hZ, hh⟩ := hP
  have hx := Bd.exec
  have hby := Bd.bytes
  have hml : c.maxLocals = 5 := hml0
  have hown : s.vm.findClass "com/example/melog/melog/model/TimestampedOffset" = some m.cls := findClass_of_methodNamed Bd.named
  have hnm := (name_of_methodNamed Bd.named Bd.method).1
  have X0 : Stand p l e ({ frames := 1, cells := 0, slots := 0, locals := 12 } : Room) s m #[(.ref ob0), (.long q0), (.long q1)] below meth c s₁ [] 0 0 := Stand.of_body Bd
  have e0 : s₁.heap = h0 := by rw [← hh, Bd.state]; rfl
  have N0 := Fr.nil n0
  have pre0 : ∀ t, Steps p.tables e below (s₁.setTop (mkF m 0 #[.val (.ref ob0), .val (.long q0), .second, .val (.long q1), .second] [])) t → Steps p.tables e below (s₁.setTop (entryFrame m #[(.ref ob0), (.long q0), (.long q1)] 5)) t := fun t k => castTop (ef10 m ob0 q0 q1) k
  obtain ⟨S_w_cache, Ar_w_cache, Sz_w_cache, AL_w_cache, -⟩ := id HW
  obtain ⟨T1, X1, e1, st1⟩ := initO X0 hx hZ hown (hw _ (List.mem_of_getElem? (i := 6) rfl)) (hw _ (List.mem_of_getElem? (i := 7) rfl)) (hw _ (List.mem_of_getElem? (i := 8) rfl)) e0 (g := (mkF m 1 #[.val (.ref ob0), .val (.long q0), .second, .val (.long q1), .second] [(.ref ob0)])) rfl (by rw [hml]; rfl) rfl (hb hby d1_1) (by decide) (W := 0) (by show 2 * 0 + _ ≤ _; exact Nat.le_of_eq rfl) (by decide)
  obtain ⟨T2, h2, X2, e2, W2, st2⟩ := putF X1 hx hZ hown (host := "") (Or.inl (hw _ (List.mem_of_getElem? (i := 9) rfl))) Via.refl e1 PF_ob0_offset PE_ob0 (Or.inr ⟨(hw _ (List.mem_of_getElem? (i := 10) rfl)), rfl, hnm⟩) (hw _ (List.mem_of_getElem? (i := 1) rfl)) (ty := .long) (by decide) rfl rfl (g := (mkF m 6 #[.val (.ref ob0), .val (.long q0), .second, .val (.long q1), .second] [(.long q0), (.ref ob0)])) rfl rfl (hb hby d1_6)
  have Fw2 := PF_ob0_offset.same W2
  have N2 := Fr.snoc X2 N0 g_ob0
  have O2 := O0.wr W2 g_ob0
  have KK2 : Keep h0 h2 [ob0] := (Keep.refl h0 [ob0]).wr W2 (Or.inl (List.mem_of_getElem? (i := 0) rfl))
  obtain ⟨T3, h3, X3, e3, W3, st3⟩ := putF X2 hx hZ hown (host := "") (Or.inl (hw _ (List.mem_of_getElem? (i := 11) rfl))) Via.refl e2 (PF_ob0_timestamp.other W2 (Or.inr (slot_ne (Or.inr (hw _ (List.mem_of_getElem? (i := 12) rfl))) (Or.inr (hw _ (List.mem_of_getElem? (i := 10) rfl))) (by decide) (t := .long) (t' := .long) (by decide) (by decide)))) (PE_ob0.wr W2) (Or.inr ⟨(hw _ (List.mem_of_getElem? (i := 12) rfl)), rfl, hnm⟩) (hw _ (List.mem_of_getElem? (i := 1) rfl)) (ty := .long) (by decide) rfl rfl (g := (mkF m 11 #[.val (.ref ob0), .val (.long q0), .second, .val (.long q1), .second] [(.long q1), (.ref ob0)])) rfl rfl (hb hby d1_11)
  have Fw3 := (PF_ob0_timestamp.other W2 (Or.inr (slot_ne (Or.inr (hw _ (List.mem_of_getElem? (i := 12) rfl))) (Or.inr (hw _ (List.mem_of_getElem? (i := 10) rfl))) (by decide) (t := .long) (t' := .long) (by decide) (by decide)))).same W3
  have N3 := Fr.snoc X3 N2 g_ob0
  have O3 := O2.wr W3 g_ob0
  have KK3 : Keep h0 h3 [ob0] := KK2.wr W3 (Or.inl (List.mem_of_getElem? (i := 0) rfl))
  obtain ⟨fs, hr, hrun, hended, hW, hsame⟩ := X3.leave (v := none) (fun _ => rfl)
  refine ⟨_, _, pre0 _ ?_, hrun, hended, _, _, rfl, ?_, ⟨_, rfl⟩, hW, hsame.mono (by decide) (by decide)⟩
  · show Steps p.tables e below (s₁.setTop (mkF m 0 #[.val (.ref ob0), .val (.long q0), .second, .val (.long q1), .second] [])) _
    refine XS.aloadN X0.here hx rfl (hb hby d1_0) rfl rfl ?_
    show Steps p.tables e below (s₁.setTop (mkF m 1 #[.val (.ref ob0), .val (.long q0), .second, .val (.long q1), .second] [(.ref ob0)])) _
    refine st1 _ ?_
    show Steps p.tables e below (T1.setTop (mkF m 4 #[.val (.ref ob0), .val (.long q0), .second, .val (.long q1), .second] [])) _
    refine XS.aloadN X1.here hx rfl (hb hby d1_4) rfl rfl ?_
    show Steps p.tables e below (T1.setTop (mkF m 5 #[.val (.ref ob0), .val (.long q0), .second, .val (.long q1), .second] [(.ref ob0)])) _
    refine XS.lloadN X1.here hx rfl (hb hby d1_5) rfl ?_
    show Steps p.tables e below (T1.setTop (mkF m 6 #[.val (.ref ob0), .val (.long q0), .second, .val (.long q1), .second] [(.long q0), (.ref ob0)])) _
    refine st2 _ ?_
    show Steps p.tables e below (T2.setTop (mkF m 9 #[.val (.ref ob0), .val (.long q0), .second, .val (.long q1), .second] [])) _
    refine XS.aloadN X2.here hx rfl (hb hby d1_9) rfl rfl ?_
    show Steps p.tables e below (T2.setTop (mkF m 10 #[.val (.ref ob0), .val (.long q0), .second, .val (.long q1), .second] [(.ref ob0)])) _
    refine XS.lloadN X2.here hx rfl (hb hby d1_10) rfl ?_
    show Steps p.tables e below (T2.setTop (mkF m 11 #[.val (.ref ob0), .val (.long q0), .second, .val (.long q1), .second] [(.long q1), (.ref ob0)])) _
    refine st3 _ ?_
    show Steps p.tables e below (T3.setTop (mkF m 14 #[.val (.ref ob0), .val (.long q0), .second, .val (.long q1), .second] [])) _
    exact X3.returnOut hx Bd.returns (hb hby d1_14) hr
  · have eH : (T3.setFrames fs).heap = h3 := e3; rw [eH]; exact ⟨rfl, N3, KK3, O3, ((PE_ob0.wr W2).wr W3), (Fw2.other W3 (Or.inr (slot_ne (Or.inr (hw _ (List.mem_of_getElem? (i := 10) rfl))) (Or.inr (hw _ (List.mem_of_getElem? (i := 12) rfl))) (by decide) (t := .long) (t' := .long) (by decide) (by decide)))), Fw3, trivial⟩
theorem pd12 : parseMethodDescriptor "(JJ)V" = some ⟨[.long, .long], none⟩ := by decide +kernel
theorem d3_0 : decode prog_7_method_4_code 0 = .ok (.aload_n 1, 1) := by decide +kernel
theorem d3_1 : decode prog_7_method_4_code 1 = .ok (.instanceof 8, 3) := by decide +kernel
theorem d3_4 : decode prog_7_method_4_code 4 = .ok (.ifCond .eq 36, 3) := by decide +kernel
theorem d3_7 : decode prog_7_method_4_code 7 = .ok (.aload_n 1, 1) := by decide +kernel
theorem d3_8 : decode prog_7_method_4_code 8 = .ok (.checkcast 8, 3) := by decide +kernel
theorem d3_11 : decode prog_7_method_4_code 11 = .ok (.astore_n 2, 1) := by decide +kernel
theorem d3_12 : decode prog_7_method_4_code 12 = .ok (.aload_n 2, 1) := by decide +kernel
theorem d3_13 : decode prog_7_method_4_code 13 = .ok (.getfield 7, 3) := by decide +kernel
theorem d3_16 : decode prog_7_method_4_code 16 = .ok (.aload_n 0, 1) := by decide +kernel
theorem d3_17 : decode prog_7_method_4_code 17 = .ok (.getfield 7, 3) := by decide +kernel
theorem d3_20 : decode prog_7_method_4_code 20 = .ok (.lcmp, 1) := by decide +kernel
theorem d3_21 : decode prog_7_method_4_code 21 = .ok (.ifCond .ne 19, 3) := by decide +kernel
theorem d3_24 : decode prog_7_method_4_code 24 = .ok (.aload_n 2, 1) := by decide +kernel
theorem d3_25 : decode prog_7_method_4_code 25 = .ok (.getfield 13, 3) := by decide +kernel
theorem d3_28 : decode prog_7_method_4_code 28 = .ok (.aload_n 0, 1) := by decide +kernel
theorem d3_29 : decode prog_7_method_4_code 29 = .ok (.getfield 13, 3) := by decide +kernel
theorem d3_32 : decode prog_7_method_4_code 32 = .ok (.lcmp, 1) := by decide +kernel
theorem d3_33 : decode prog_7_method_4_code 33 = .ok (.ifCond .ne 7, 3) := by decide +kernel
theorem d3_36 : decode prog_7_method_4_code 36 = .ok (.iconst 1, 1) := by decide +kernel
theorem d3_37 : decode prog_7_method_4_code 37 = .ok (.goto 4, 3) := by decide +kernel
theorem d3_41 : decode prog_7_method_4_code 41 = .ok (.ireturn, 1) := by decide +kernel
theorem ef35 (m : MethodId) (x0 : Addr) (x1 : Addr) : entryFrame m #[(.ref x0), (.ref x1)] 3 = mkF m 0 #[.val (.ref x0), .val (.ref x1), .unset] [] := by first | (simp [entryFrame, mkF, argsToLocals, Value.category]; done) | rfl
def Q3_1 (Z : State) (w_cache : Addr) (cl_w_cache : Cell) (ob0 : Addr) (ob1 : Addr) (q0 : Int64) (q1 : Int64) (q2 : Int64) (q3 : Int64) (h0 : Heap) (n0 : Nat) (v : Option Value) (h : Heap) (L : List Loc) : Prop := v = some (.int (1 : Int32)) ∧ Fr n0 L ∧ h = h0
set_option maxRecDepth 65536 in
set_option maxHeartbeats 40000000 in
theorem rm3_1 (l : Launch) (Z : State) (a0 : Array Value) (hw : ∀ d ∈ tables_1, d.before a0 Z = true) (ws : List Jvm.Cond) (w_cache : Addr) (cl_w_cache : Cell) (ob0 : Addr) (ob1 : Addr) (q0 : Int64) (q1 : Int64) (q2 : Int64) (q3 : Int64) (h0 : Heap) (n0 : Nat) (Z0 : n0 ≤ h0.size) (O0 : Old Z n0 h0) (HW : World Z w_cache cl_w_cache) (PE_ob0 : Exa Z h0 ob0 "com/example/melog/melog/model/TimestampedOffset") (PF_ob0_offset : Fld Z h0 ob0 "com/example/melog/melog/model/TimestampedOffset" "offset" "J" (.long q0)) (PF_ob0_timestamp : Fld Z h0 ob0 "com/example/melog/melog/model/TimestampedOffset" "timestamp" "J" (.long q1)) (PE_ob1 : Exa Z h0 ob1 "com/example/melog/melog/model/TimestampedOffset") (PF_ob1_offset : Fld Z h0 ob1 "com/example/melog/melog/model/TimestampedOffset" "offset" "J" (.long q2)) (PF_ob1_timestamp : Fld Z h0 ob1 "com/example/melog/melog/model/TimestampedOffset" "timestamp" "J" (.long q3)) (hd0 : q2 = q0) (hd1 : q3 = q1) :
    MetFree l (⟨"com/example/melog/melog/model/TimestampedOffset", "equals", "(Ljava/lang/Object;)Z"⟩ : MethodName) (head1 (Jvm.Cond.code (⟨"com/example/melog/melog/model/TimestampedOffset", "equals", "(Ljava/lang/Object;)Z"⟩ : MethodName) prog_7_method_4_code 3 (some .boolean) :: ws) ({ frames := 0, cells := 0, slots := 0, locals := 0 } : Room)) (fun a U => a = #[(.ref ob0), (.ref ob1)] ∧ Z.Warmed39 U.vm ∧ U.heap = h0) (fun _ _ _ _ _ => True) (fun _ U o U' => ∃ v L, o = .returned v ∧ Q3_1 Z w_cache cl_w_cache ob0 ob1 q0 q1 q2 q3 h0 n0 v U'.heap L ∧ FrameEnd U o U' L ({ frames := 0, cells := 0, slots := 0, locals := 0 } : Room).cells ({ frames := 0, cells := 0, slots := 0, locals := 0 } : Room).slots) := by
  refine MetFree.of_bodySF (plainFor_of_name pn11) hisR ?_
  intro p e s m args below meth c s₁ Bd hml0 hP hK
  obtain ⟨rfl, hZ, hh⟩ := hP
  have hx := Bd.exec
  have hby := Bd.bytes
  have hml : c.maxLocals = 3 := hml0
  have hown : s.vm.findClass "com/example/melog/melog/model/TimestampedOffset" = some m.cls := findClass_of_methodNamed Bd.named
  have hnm := (name_of_methodNamed Bd.named Bd.method).1
  have X0 : Stand p l e ({ frames := 0, cells := 0, slots := 0, locals := 0 } : Room) s m #[(.ref ob0), (.ref ob1)] below meth c s₁ [] 0 0 := Stand.of_body Bd
  have e0 : s₁.heap = h0 := by rw [← hh, Bd.state]; rfl
  have N0 := Fr.nil n0
  have pre0 : ∀ t, Steps p.tables e below (s₁.setTop (mkF m 0 #[.val (.ref ob0), .val (.ref ob1), .unset] [])) t → Steps p.tables e below (s₁.setTop (entryFrame m #[(.ref ob0), (.ref ob1)] 3)) t := fun t k => castTop (ef35 m ob0 ob1) k
  obtain ⟨S_w_cache, Ar_w_cache, Sz_w_cache, AL_w_cache, -⟩ := id HW
  obtain ⟨T1, X1, e1, st1⟩ := instY X0 hx hZ hown (hw _ (List.mem_of_getElem? (i := 18) rfl)) e0 (Ins.self PE_ob1) (g := (mkF m 1 #[.val (.ref ob0), .val (.ref ob1), .unset] [(.ref ob1)])) rfl rfl (hb hby d3_1)
  obtain ⟨T2, X2, e2, st2⟩ := castY X1 hx hZ hown (hw _ (List.mem_of_getElem? (i := 18) rfl)) e1 (Ins.self PE_ob1) (g := (mkF m 8 #[.val (.ref ob0), .val (.ref ob1), .unset] [(.ref ob1)])) rfl rfl (hb hby d3_8)
  obtain ⟨T3, X3, e3, st3⟩ := getF X2 hx hZ hown (host := "") (Or.inl (hw _ (List.mem_of_getElem? (i := 9) rfl))) Via.refl e2 PF_ob1_offset (g := (mkF m 13 #[.val (.ref ob0), .val (.ref ob1), .val (.ref ob1)] [(.ref ob1)])) rfl rfl (hb hby d3_13)
  obtain ⟨T4, X4, e4, st4⟩ := getF X3 hx hZ hown (host := "") (Or.inl (hw _ (List.mem_of_getElem? (i := 9) rfl))) Via.refl e3 PF_ob0_offset (g := (mkF m 17 #[.val (.ref ob0), .val (.ref ob1), .val (.ref ob1)] [(.ref ob0), (.long q2)])) rfl rfl (hb hby d3_17)
  obtain ⟨T5, X5, e5, st5⟩ := getF X4 hx hZ hown (host := "") (Or.inl (hw _ (List.mem_of_getElem? (i := 11) rfl))) Via.refl e4 PF_ob1_timestamp (g := (mkF m 25 #[.val (.ref ob0), .val (.ref ob1), .val (.ref ob1)] [(.ref ob1)])) rfl rfl (hb hby d3_25)
  obtain ⟨T6, X6, e6, st6⟩ := getF X5 hx hZ hown (host := "") (Or.inl (hw _ (List.mem_of_getElem? (i := 11) rfl))) Via.refl e5 PF_ob0_timestamp (g := (mkF m 29 #[.val (.ref ob0), .val (.ref ob1), .val (.ref ob1)] [(.ref ob0), (.long q3)])) rfl rfl (hb hby d3_29)
  obtain ⟨fs, hr, hrun, hended, hW, hsame⟩ := X6.leave (v := some (.int (1 : Int32))) (fun h => by rw [Bd.returns] at h; cases h)
  refine ⟨_, _, pre0 _ ?_, hrun, hended, _, _, rfl, ?_, ⟨_, rfl⟩, hW, hsame.mono (by decide) (by decide)⟩
  · show Steps p.tables e below (s₁.setTop (mkF m 0 #[.val (.ref ob0), .val (.ref ob1), .unset] [])) _
    refine XS.aloadN X0.here hx rfl (hb hby d3_0) rfl rfl ?_
    show Steps p.tables e below (s₁.setTop (mkF m 1 #[.val (.ref ob0), .val (.ref ob1), .unset] [(.ref ob1)])) _
    refine st1 _ ?_
    show Steps p.tables e below (T1.setTop (mkF m 4 #[.val (.ref ob0), .val (.ref ob1), .unset] [(.int (1 : Int32))])) _
    refine XS.ifNo X1.here hx rfl (hb hby d3_4) rfl ((if0 _ _).trans (feq (by decide : ¬ ((1 : Int32) = (0 : Int32)))).1) ?_
    show Steps p.tables e below (T1.setTop (mkF m 7 #[.val (.ref ob0), .val (.ref ob1), .unset] [])) _
    refine XS.aloadN X1.here hx rfl (hb hby d3_7) rfl rfl ?_
    show Steps p.tables e below (T1.setTop (mkF m 8 #[.val (.ref ob0), .val (.ref ob1), .unset] [(.ref ob1)])) _
    refine st2 _ ?_
    show Steps p.tables e below (T2.setTop (mkF m 11 #[.val (.ref ob0), .val (.ref ob1), .unset] [(.ref ob1)])) _
    refine XS.astoreN X2.here hx rfl (hb hby d3_11) rfl rfl (l' := #[.val (.ref ob0), .val (.ref ob1), .val (.ref ob1)]) rfl ?_
    show Steps p.tables e below (T2.setTop (mkF m 12 #[.val (.ref ob0), .val (.ref ob1), .val (.ref ob1)] [])) _
    refine XS.aloadN X2.here hx rfl (hb hby d3_12) rfl rfl ?_
    show Steps p.tables e below (T2.setTop (mkF m 13 #[.val (.ref ob0), .val (.ref ob1), .val (.ref ob1)] [(.ref ob1)])) _
    refine st3 _ ?_
    show Steps p.tables e below (T3.setTop (mkF m 16 #[.val (.ref ob0), .val (.ref ob1), .val (.ref ob1)] [(.long q2)])) _
    refine XS.aloadN X3.here hx rfl (hb hby d3_16) rfl rfl ?_
    show Steps p.tables e below (T3.setTop (mkF m 17 #[.val (.ref ob0), .val (.ref ob1), .val (.ref ob1)] [(.ref ob0), (.long q2)])) _
    refine st4 _ ?_
    show Steps p.tables e below (T4.setTop (mkF m 20 #[.val (.ref ob0), .val (.ref ob1), .val (.ref ob1)] [(.long q0), (.long q2)])) _
    refine XS.lcmp X4.here hx rfl (hb hby d3_20) rfl ?_
    show Steps p.tables e below (T4.setTop (mkF m 21 #[.val (.ref ob0), .val (.ref ob1), .val (.ref ob1)] [(.int (lcmpW q2 q0))])) _
    refine XS.ifNo X4.here hx rfl (hb hby d3_21) rfl ((if0 _ _).trans (teq ((lw_eq q2 q0).mpr hd0)).2) ?_
    show Steps p.tables e below (T4.setTop (mkF m 24 #[.val (.ref ob0), .val (.ref ob1), .val (.ref ob1)] [])) _
    refine XS.aloadN X4.here hx rfl (hb hby d3_24) rfl rfl ?_
    show Steps p.tables e below (T4.setTop (mkF m 25 #[.val (.ref ob0), .val (.ref ob1), .val (.ref ob1)] [(.ref ob1)])) _
    refine st5 _ ?_
    show Steps p.tables e below (T5.setTop (mkF m 28 #[.val (.ref ob0), .val (.ref ob1), .val (.ref ob1)] [(.long q3)])) _
    refine XS.aloadN X5.here hx rfl (hb hby d3_28) rfl rfl ?_
    show Steps p.tables e below (T5.setTop (mkF m 29 #[.val (.ref ob0), .val (.ref ob1), .val (.ref ob1)] [(.ref ob0), (.long q3)])) _
    refine st6 _ ?_
    show Steps p.tables e below (T6.setTop (mkF m 32 #[.val (.ref ob0), .val (.ref ob1), .val (.ref ob1)] [(.long q1), (.long q3)])) _
    refine XS.lcmp X6.here hx rfl (hb hby d3_32) rfl ?_
    show Steps p.tables e below (T6.setTop (mkF m 33 #[.val (.ref ob0), .val (.ref ob1), .val (.ref ob1)] [(.int (lcmpW q3 q1))])) _
    refine XS.ifNo X6.here hx rfl (hb hby d3_33) rfl ((if0 _ _).trans (teq ((lw_eq q3 q1).mpr hd1)).2) ?_
    show Steps p.tables e below (T6.setTop (mkF m 36 #[.val (.ref ob0), .val (.ref ob1), .val (.ref ob1)] [])) _
    refine XS.iconst X6.here hx rfl (hb hby d3_36) ?_
    show Steps p.tables e below (T6.setTop (mkF m 37 #[.val (.ref ob0), .val (.ref ob1), .val (.ref ob1)] [(.int (1 : Int32))])) _
    refine XS.goto X6.here hx rfl (pc0 := 37) (pc' := 41) rfl (hb hby d3_37) (by decide) (by decide) ?_
    show Steps p.tables e below (T6.setTop (mkF m 41 #[.val (.ref ob0), .val (.ref ob1), .val (.ref ob1)] [(.int (1 : Int32))])) _
    exact retN X6 hx (t := .boolean) Bd.returns (by simp) (hb hby d3_41) hr
  · exact ⟨rfl, N0, e6⟩
theorem pd36 : parseMethodDescriptor "(Ljava/lang/Object;)Z" = some ⟨[(.object "java/lang/Object")], some .boolean⟩ := by decide +kernel
theorem d3_40 : decode prog_7_method_4_code 40 = .ok (.iconst 0, 1) := by decide +kernel
def Q3_2 (Z : State) (w_cache : Addr) (cl_w_cache : Cell) (ob0 : Addr) (ob1 : Addr) (q0 : Int64) (q1 : Int64) (q2 : Int64) (q3 : Int64) (h0 : Heap) (n0 : Nat) (v : Option Value) (h : Heap) (L : List Loc) : Prop := v = some (.int (0 : Int32)) ∧ Fr n0 L ∧ h = h0
set_option maxRecDepth 65536 in
set_option maxHeartbeats 40000000 in
theorem rm3_2 (l : Launch) (Z : State) (a0 : Array Value) (hw : ∀ d ∈ tables_1, d.before a0 Z = true) (ws : List Jvm.Cond) (w_cache : Addr) (cl_w_cache : Cell) (ob0 : Addr) (ob1 : Addr) (q0 : Int64) (q1 : Int64) (q2 : Int64) (q3 : Int64) (h0 : Heap) (n0 : Nat) (Z0 : n0 ≤ h0.size) (O0 : Old Z n0 h0) (HW : World Z w_cache cl_w_cache) (PE_ob0 : Exa Z h0 ob0 "com/example/melog/melog/model/TimestampedOffset") (PF_ob0_offset : Fld Z h0 ob0 "com/example/melog/melog/model/TimestampedOffset" "offset" "J" (.long q0)) (PF_ob0_timestamp : Fld Z h0 ob0 "com/example/melog/melog/model/TimestampedOffset" "timestamp" "J" (.long q1)) (PE_ob1 : Exa Z h0 ob1 "com/example/melog/melog/model/TimestampedOffset") (PF_ob1_offset : Fld Z h0 ob1 "com/example/melog/melog/model/TimestampedOffset" "offset" "J" (.long q2)) (PF_ob1_timestamp : Fld Z h0 ob1 "com/example/melog/melog/model/TimestampedOffset" "timestamp" "J" (.long q3)) (hd0 : q2 = q0) (hd1 : ¬ (q3 = q1)) :
    MetFree l (⟨"com/example/melog/melog/model/TimestampedOffset", "equals", "(Ljava/lang/Object;)Z"⟩ : MethodName) (head1 (Jvm.Cond.code (⟨"com/example/melog/melog/model/TimestampedOffset", "equals", "(Ljava/lang/Object;)Z"⟩ : MethodName) prog_7_method_4_code 3 (some .boolean) :: ws) ({ frames := 0, cells := 0, slots := 0, locals := 0 } : Room)) (fun a U => a = #[(.ref ob0), (.ref ob1)] ∧ Z.Warmed39 U.vm ∧ U.heap = h0) (fun _ _ _ _ _ => True) (fun _ U o U' => ∃ v L, o = .returned v ∧ Q3_2 Z w_cache cl_w_cache ob0 ob1 q0 q1 q2 q3 h0 n0 v U'.heap L ∧ FrameEnd U o U' L ({ frames := 0, cells := 0, slots := 0, locals := 0 } : Room).cells ({ frames := 0, cells := 0, slots := 0, locals := 0 } : Room).slots) := by
  refine MetFree.of_bodySF (plainFor_of_name pn11) hisR ?_
  intro p e s m args below meth c s₁ Bd hml0 hP hK
  obtain ⟨rfl, hZ, hh⟩ := hP
  have hx := Bd.exec
  have hby := Bd.bytes
  have hml : c.maxLocals = 3 := hml0
  have hown : s.vm.findClass "com/example/melog/melog/model/TimestampedOffset" = some m.cls := findClass_of_methodNamed Bd.named
  have hnm := (name_of_methodNamed Bd.named Bd.method).1
  have X0 : Stand p l e ({ frames := 0, cells := 0, slots := 0, locals := 0 } : Room) s m #[(.ref ob0), (.ref ob1)] below meth c s₁ [] 0 0 := Stand.of_body Bd
  have e0 : s₁.heap = h0 := by rw [← hh, Bd.state]; rfl
  have N0 := Fr.nil n0
  have pre0 : ∀ t, Steps p.tables e below (s₁.setTop (mkF m 0 #[.val (.ref ob0), .val (.ref ob1), .unset] [])) t → Steps p.tables e below (s₁.setTop (entryFrame m #[(.ref ob0), (.ref ob1)] 3)) t := fun t k => castTop (ef35 m ob0 ob1) k
  obtain ⟨S_w_cache, Ar_w_cache, Sz_w_cache, AL_w_cache, -⟩ := id HW
  obtain ⟨T1, X1, e1, st1⟩ := instY X0 hx hZ hown (hw _ (List.mem_of_getElem? (i := 18) rfl)) e0 (Ins.self PE_ob1) (g := (mkF m 1 #[.val (.ref ob0), .val (.ref ob1), .unset] [(.ref ob1)])) rfl rfl (hb hby d3_1)
  obtain ⟨T2, X2, e2, st2⟩ := castY X1 hx hZ hown (hw _ (List.mem_of_getElem? (i := 18) rfl)) e1 (Ins.self PE_ob1) (g := (mkF m 8 #[.val (.ref ob0), .val (.ref ob1), .unset] [(.ref ob1)])) rfl rfl (hb hby d3_8)
  obtain ⟨T3, X3, e3, st3⟩ := getF X2 hx hZ hown (host := "") (Or.inl (hw _ (List.mem_of_getElem? (i := 9) rfl))) Via.refl e2 PF_ob1_offset (g := (mkF m 13 #[.val (.ref ob0), .val (.ref ob1), .val (.ref ob1)] [(.ref ob1)])) rfl rfl (hb hby d3_13)
  obtain ⟨T4, X4, e4, st4⟩ := getF X3 hx hZ hown (host := "") (Or.inl (hw _ (List.mem_of_getElem? (i := 9) rfl))) Via.refl e3 PF_ob0_offset (g := (mkF m 17 #[.val (.ref ob0), .val (.ref ob1), .val (.ref ob1)] [(.ref ob0), (.long q2)])) rfl rfl (hb hby d3_17)
  obtain ⟨T5, X5, e5, st5⟩ := getF X4 hx hZ hown (host := "") (Or.inl (hw _ (List.mem_of_getElem? (i := 11) rfl))) Via.refl e4 PF_ob1_timestamp (g := (mkF m 25 #[.val (.ref ob0), .val (.ref ob1), .val (.ref ob1)] [(.ref ob1)])) rfl rfl (hb hby d3_25)
  obtain ⟨T6, X6, e6, st6⟩ := getF X5 hx hZ hown (host := "") (Or.inl (hw _ (List.mem_of_getElem? (i := 11) rfl))) Via.refl e5 PF_ob0_timestamp (g := (mkF m 29 #[.val (.ref ob0), .val (.ref ob1), .val (.ref ob1)] [(.ref ob0), (.long q3)])) rfl rfl (hb hby d3_29)
  obtain ⟨fs, hr, hrun, hended, hW, hsame⟩ := X6.leave (v := some (.int (0 : Int32))) (fun h => by rw [Bd.returns] at h; cases h)
  refine ⟨_, _, pre0 _ ?_, hrun, hended, _, _, rfl, ?_, ⟨_, rfl⟩, hW, hsame.mono (by decide) (by decide)⟩
  · show Steps p.tables e below (s₁.setTop (mkF m 0 #[.val (.ref ob0), .val (.ref ob1), .unset] [])) _
    refine XS.aloadN X0.here hx rfl (hb hby d3_0) rfl rfl ?_
    show Steps p.tables e below (s₁.setTop (mkF m 1 #[.val (.ref ob0), .val (.ref ob1), .unset] [(.ref ob1)])) _
    refine st1 _ ?_
    show Steps p.tables e below (T1.setTop (mkF m 4 #[.val (.ref ob0), .val (.ref ob1), .unset] [(.int (1 : Int32))])) _
    refine XS.ifNo X1.here hx rfl (hb hby d3_4) rfl ((if0 _ _).trans (feq (by decide : ¬ ((1 : Int32) = (0 : Int32)))).1) ?_
    show Steps p.tables e below (T1.setTop (mkF m 7 #[.val (.ref ob0), .val (.ref ob1), .unset] [])) _
    refine XS.aloadN X1.here hx rfl (hb hby d3_7) rfl rfl ?_
    show Steps p.tables e below (T1.setTop (mkF m 8 #[.val (.ref ob0), .val (.ref ob1), .unset] [(.ref ob1)])) _
    refine st2 _ ?_
    show Steps p.tables e below (T2.setTop (mkF m 11 #[.val (.ref ob0), .val (.ref ob1), .unset] [(.ref ob1)])) _
    refine XS.astoreN X2.here hx rfl (hb hby d3_11) rfl rfl (l' := #[.val (.ref ob0), .val (.ref ob1), .val (.ref ob1)]) rfl ?_
    show Steps p.tables e below (T2.setTop (mkF m 12 #[.val (.ref ob0), .val (.ref ob1), .val (.ref ob1)] [])) _
    refine XS.aloadN X2.here hx rfl (hb hby d3_12) rfl rfl ?_
    show Steps p.tables e below (T2.setTop (mkF m 13 #[.val (.ref ob0), .val (.ref ob1), .val (.ref ob1)] [(.ref ob1)])) _
    refine st3 _ ?_
    show Steps p.tables e below (T3.setTop (mkF m 16 #[.val (.ref ob0), .val (.ref ob1), .val (.ref ob1)] [(.long q2)])) _
    refine XS.aloadN X3.here hx rfl (hb hby d3_16) rfl rfl ?_
    show Steps p.tables e below (T3.setTop (mkF m 17 #[.val (.ref ob0), .val (.ref ob1), .val (.ref ob1)] [(.ref ob0), (.long q2)])) _
    refine st4 _ ?_
    show Steps p.tables e below (T4.setTop (mkF m 20 #[.val (.ref ob0), .val (.ref ob1), .val (.ref ob1)] [(.long q0), (.long q2)])) _
    refine XS.lcmp X4.here hx rfl (hb hby d3_20) rfl ?_
    show Steps p.tables e below (T4.setTop (mkF m 21 #[.val (.ref ob0), .val (.ref ob1), .val (.ref ob1)] [(.int (lcmpW q2 q0))])) _
    refine XS.ifNo X4.here hx rfl (hb hby d3_21) rfl ((if0 _ _).trans (teq ((lw_eq q2 q0).mpr hd0)).2) ?_
    show Steps p.tables e below (T4.setTop (mkF m 24 #[.val (.ref ob0), .val (.ref ob1), .val (.ref ob1)] [])) _
    refine XS.aloadN X4.here hx rfl (hb hby d3_24) rfl rfl ?_
    show Steps p.tables e below (T4.setTop (mkF m 25 #[.val (.ref ob0), .val (.ref ob1), .val (.ref ob1)] [(.ref ob1)])) _
    refine st5 _ ?_
    show Steps p.tables e below (T5.setTop (mkF m 28 #[.val (.ref ob0), .val (.ref ob1), .val (.ref ob1)] [(.long q3)])) _
    refine XS.aloadN X5.here hx rfl (hb hby d3_28) rfl rfl ?_
    show Steps p.tables e below (T5.setTop (mkF m 29 #[.val (.ref ob0), .val (.ref ob1), .val (.ref ob1)] [(.ref ob0), (.long q3)])) _
    refine st6 _ ?_
    show Steps p.tables e below (T6.setTop (mkF m 32 #[.val (.ref ob0), .val (.ref ob1), .val (.ref ob1)] [(.long q1), (.long q3)])) _
    refine XS.lcmp X6.here hx rfl (hb hby d3_32) rfl ?_
    show Steps p.tables e below (T6.setTop (mkF m 33 #[.val (.ref ob0), .val (.ref ob1), .val (.ref ob1)] [(.int (lcmpW q3 q1))])) _
    refine XS.ifYes X6.here hx rfl (pc0 := 33) (pc' := 40) rfl (hb hby d3_33) rfl ((if0 _ _).trans (feq (fun q => hd1 ((lw_eq q3 q1).mp q))).2) (by decide) (by decide) ?_
    show Steps p.tables e below (T6.setTop (mkF m 40 #[.val (.ref ob0), .val (.ref ob1), .val (.ref ob1)] [])) _
    refine XS.iconst X6.here hx rfl (hb hby d3_40) ?_
    show Steps p.tables e below (T6.setTop (mkF m 41 #[.val (.ref ob0), .val (.ref ob1), .val (.ref ob1)] [(.int (0 : Int32))])) _
    exact retN X6 hx (t := .boolean) Bd.returns (by simp) (hb hby d3_41) hr
  · exact ⟨rfl, N0, e6⟩
def Q3_3 (Z : State) (w_cache : Addr) (cl_w_cache : Cell) (ob0 : Addr) (ob1 : Addr) (q0 : Int64) (q1 : Int64) (q2 : Int64) (q3 : Int64) (h0 : Heap) (n0 : Nat) (v : Option Value) (h : Heap) (L : List Loc) : Prop := v = some (.int (0 : Int32)) ∧ Fr n0 L ∧ h = h0
set_option maxRecDepth 65536 in
set_option maxHeartbeats 40000000 in
theorem rm3_3 (l : Launch) (Z : State) (a0 : Array Value) (hw : ∀ d ∈ tables_1, d.before a0 Z = true) (ws : List Jvm.Cond) (w_cache : Addr) (cl_w_cache : Cell) (ob0 : Addr) (ob1 : Addr) (q0 : Int64) (q1 : Int64) (q2 : Int64) (q3 : Int64) (h0 : Heap) (n0 : Nat) (Z0 : n0 ≤ h0.size) (O0 : Old Z n0 h0) (HW : World Z w_cache cl_w_cache) (PE_ob0 : Exa Z h0 ob0 "com/example/melog/melog/model/TimestampedOffset") (PF_ob0_offset : Fld Z h0 ob0 "com/example/melog/melog/model/TimestampedOffset" "offset" "J" (.long q0)) (PF_ob0_timestamp : Fld Z h0 ob0 "com/example/melog/melog/model/TimestampedOffset" "timestamp" "J" (.long q1)) (PE_ob1 : Exa Z h0 ob1 "com/example/melog/melog/model/TimestampedOffset") (PF_ob1_offset : Fld Z h0 ob1 "com/example/melog/melog/model/TimestampedOffset" "offset" "J" (.long q2)) (PF_ob1_timestamp : Fld Z h0 ob1 "com/example/melog/melog/model/TimestampedOffset" "timestamp" "J" (.long q3)) (hd0 : ¬ (q2 = q0)) :
    MetFree l (⟨"com/example/melog/melog/model/TimestampedOffset", "equals", "(Ljava/lang/Object;)Z"⟩ : MethodName) (head1 (Jvm.Cond.code (⟨"com/example/melog/melog/model/TimestampedOffset", "equals", "(Ljava/lang/Object;)Z"⟩ : MethodName) prog_7_method_4_code 3 (some .boolean) :: ws) ({ frames := 0, cells := 0, slots := 0, locals := 0 } : Room)) (fun a U => a = #[(.ref ob0), (.ref ob1)] ∧ Z.Warmed39 U.vm ∧ U.heap = h0) (fun _ _ _ _ _ => True) (fun _ U o U' => ∃ v L, o = .returned v ∧ Q3_3 Z w_cache cl_w_cache ob0 ob1 q0 q1 q2 q3 h0 n0 v U'.heap L ∧ FrameEnd U o U' L ({ frames := 0, cells := 0, slots := 0, locals := 0 } : Room).cells ({ frames := 0, cells := 0, slots := 0, locals := 0 } : Room).slots) := by
  refine MetFree.of_bodySF (plainFor_of_name pn11) hisR ?_
  intro p e s m args below meth c s₁ Bd hml0 hP hK
  obtain ⟨rfl, hZ, hh⟩ := hP
  have hx := Bd.exec
  have hby := Bd.bytes
  have hml : c.maxLocals = 3 := hml0
  have hown : s.vm.findClass "com/example/melog/melog/model/TimestampedOffset" = some m.cls := findClass_of_methodNamed Bd.named
  have hnm := (name_of_methodNamed Bd.named Bd.method).1
  have X0 : Stand p l e ({ frames := 0, cells := 0, slots := 0, locals := 0 } : Room) s m #[(.ref ob0), (.ref ob1)] below meth c s₁ [] 0 0 := Stand.of_body Bd
  have e0 : s₁.heap = h0 := by rw [← hh, Bd.state]; rfl
  have N0 := Fr.nil n0
  have pre0 : ∀ t, Steps p.tables e below (s₁.setTop (mkF m 0 #[.val (.ref ob0), .val (.ref ob1), .unset] [])) t → Steps p.tables e below (s₁.setTop (entryFrame m #[(.ref ob0), (.ref ob1)] 3)) t := fun t k => castTop (ef35 m ob0 ob1) k
  obtain ⟨S_w_cache, Ar_w_cache, Sz_w_cache, AL_w_cache, -⟩ := id HW
  obtain ⟨T1, X1, e1, st1⟩ := instY X0 hx hZ hown (hw _ (List.mem_of_getElem? (i := 18) rfl)) e0 (Ins.self PE_ob1) (g := (mkF m 1 #[.val (.ref ob0), .val (.ref ob1), .unset] [(.ref ob1)])) rfl rfl (hb hby d3_1)
  obtain ⟨T2, X2, e2, st2⟩ := castY X1 hx hZ hown (hw _ (List.mem_of_getElem? (i := 18) rfl)) e1 (Ins.self PE_ob1) (g := (mkF m 8 #[.val (.ref ob0), .val (.ref ob1), .unset] [(.ref ob1)])) rfl rfl (hb hby d3_8)
  obtain ⟨T3, X3, e3, st3⟩ := getF X2 hx hZ hown (host := "") (Or.inl (hw _ (List.mem_of_getElem? (i := 9) rfl))) Via.refl e2 PF_ob1_offset (g := (mkF m 13 #[.val (.ref ob0), .val (.ref ob1), .val (.ref ob1)] [(.ref ob1)])) rfl rfl (hb hby d3_13)
  obtain ⟨T4, X4, e4, st4⟩ := getF X3 hx hZ hown (host := "") (Or.inl (hw _ (List.mem_of_getElem? (i := 9) rfl))) Via.refl e3 PF_ob0_offset (g := (mkF m 17 #[.val (.ref ob0), .val (.ref ob1), .val (.ref ob1)] [(.ref ob0), (.long q2)])) rfl rfl (hb hby d3_17)
  obtain ⟨fs, hr, hrun, hended, hW, hsame⟩ := X4.leave (v := some (.int (0 : Int32))) (fun h => by rw [Bd.returns] at h; cases h)
  refine ⟨_, _, pre0 _ ?_, hrun, hended, _, _, rfl, ?_, ⟨_, rfl⟩, hW, hsame.mono (by decide) (by decide)⟩
  · show Steps p.tables e below (s₁.setTop (mkF m 0 #[.val (.ref ob0), .val (.ref ob1), .unset] [])) _
    refine XS.aloadN X0.here hx rfl (hb hby d3_0) rfl rfl ?_
    show Steps p.tables e below (s₁.setTop (mkF m 1 #[.val (.ref ob0), .val (.ref ob1), .unset] [(.ref ob1)])) _
    refine st1 _ ?_
    show Steps p.tables e below (T1.setTop (mkF m 4 #[.val (.ref ob0), .val (.ref ob1), .unset] [(.int (1 : Int32))])) _
    refine XS.ifNo X1.here hx rfl (hb hby d3_4) rfl ((if0 _ _).trans (feq (by decide : ¬ ((1 : Int32) = (0 : Int32)))).1) ?_
    show Steps p.tables e below (T1.setTop (mkF m 7 #[.val (.ref ob0), .val (.ref ob1), .unset] [])) _
    refine XS.aloadN X1.here hx rfl (hb hby d3_7) rfl rfl ?_
    show Steps p.tables e below (T1.setTop (mkF m 8 #[.val (.ref ob0), .val (.ref ob1), .unset] [(.ref ob1)])) _
    refine st2 _ ?_
    show Steps p.tables e below (T2.setTop (mkF m 11 #[.val (.ref ob0), .val (.ref ob1), .unset] [(.ref ob1)])) _
    refine XS.astoreN X2.here hx rfl (hb hby d3_11) rfl rfl (l' := #[.val (.ref ob0), .val (.ref ob1), .val (.ref ob1)]) rfl ?_
    show Steps p.tables e below (T2.setTop (mkF m 12 #[.val (.ref ob0), .val (.ref ob1), .val (.ref ob1)] [])) _
    refine XS.aloadN X2.here hx rfl (hb hby d3_12) rfl rfl ?_
    show Steps p.tables e below (T2.setTop (mkF m 13 #[.val (.ref ob0), .val (.ref ob1), .val (.ref ob1)] [(.ref ob1)])) _
    refine st3 _ ?_
    show Steps p.tables e below (T3.setTop (mkF m 16 #[.val (.ref ob0), .val (.ref ob1), .val (.ref ob1)] [(.long q2)])) _
    refine XS.aloadN X3.here hx rfl (hb hby d3_16) rfl rfl ?_
    show Steps p.tables e below (T3.setTop (mkF m 17 #[.val (.ref ob0), .val (.ref ob1), .val (.ref ob1)] [(.ref ob0), (.long q2)])) _
    refine st4 _ ?_
    show Steps p.tables e below (T4.setTop (mkF m 20 #[.val (.ref ob0), .val (.ref ob1), .val (.ref ob1)] [(.long q0), (.long q2)])) _
    refine XS.lcmp X4.here hx rfl (hb hby d3_20) rfl ?_
    show Steps p.tables e below (T4.setTop (mkF m 21 #[.val (.ref ob0), .val (.ref ob1), .val (.ref ob1)] [(.int (lcmpW q2 q0))])) _
    refine XS.ifYes X4.here hx rfl (pc0 := 21) (pc' := 40) rfl (hb hby d3_21) rfl ((if0 _ _).trans (feq (fun q => hd0 ((lw_eq q2 q0).mp q))).2) (by decide) (by decide) ?_
    show Steps p.tables e below (T4.setTop (mkF m 40 #[.val (.ref ob0), .val (.ref ob1), .val (.ref ob1)] [])) _
    refine XS.iconst X4.here hx rfl (hb hby d3_40) ?_
    show Steps p.tables e below (T4.setTop (mkF m 41 #[.val (.ref ob0), .val (.ref ob1), .val (.ref ob1)] [(.int (0 : Int32))])) _
    exact retN X4 hx (t := .boolean) Bd.returns (by simp) (hb hby d3_41) hr
  · exact ⟨rfl, N0, e4⟩
def Q3_4 (Z : State) (w_cache : Addr) (cl_w_cache : Cell) (ob0 : Addr) (ob1 : Addr) (q0 : Int64) (q1 : Int64) (q2 : Int64) (h0 : Heap) (n0 : Nat) (v : Option Value) (h : Heap) (L : List Loc) : Prop := v = some (.int (1 : Int32)) ∧ Fr n0 L ∧ h = h0
set_option maxRecDepth 65536 in
set_option maxHeartbeats 40000000 in
theorem rm3_4 (l : Launch) (Z : State) (a0 : Array Value) (hw : ∀ d ∈ tables_1, d.before a0 Z = true) (ws : List Jvm.Cond) (w_cache : Addr) (cl_w_cache : Cell) (ob0 : Addr) (ob1 : Addr) (q0 : Int64) (q1 : Int64) (q2 : Int64) (h0 : Heap) (n0 : Nat) (Z0 : n0 ≤ h0.size) (O0 : Old Z n0 h0) (HW : World Z w_cache cl_w_cache) (PE_ob0 : Exa Z h0 ob0 "com/example/melog/melog/model/TimestampedOffset") (PF_ob0_offset : Fld Z h0 ob0 "com/example/melog/melog/model/TimestampedOffset" "offset" "J" (.long q0)) (PF_ob0_timestamp : Fld Z h0 ob0 "com/example/melog/melog/model/TimestampedOffset" "timestamp" "J" (.long q1)) (PE_ob1 : Exa Z h0 ob1 "com/example/melog/melog/model/TimestampedOffset") (PF_ob1_offset : Fld Z h0 ob1 "com/example/melog/melog/model/TimestampedOffset" "offset" "J" (.long q2)) (PF_ob1_timestamp : Fld Z h0 ob1 "com/example/melog/melog/model/TimestampedOffset" "timestamp" "J" (.long q1)) (hd0 : q2 = q0) :
    MetFree l (⟨"com/example/melog/melog/model/TimestampedOffset", "equals", "(Ljava/lang/Object;)Z"⟩ : MethodName) (head1 (Jvm.Cond.code (⟨"com/example/melog/melog/model/TimestampedOffset", "equals", "(Ljava/lang/Object;)Z"⟩ : MethodName) prog_7_method_4_code 3 (some .boolean) :: ws) ({ frames := 0, cells := 0, slots := 0, locals := 0 } : Room)) (fun a U => a = #[(.ref ob0), (.ref ob1)] ∧ Z.Warmed39 U.vm ∧ U.heap = h0) (fun _ _ _ _ _ => True) (fun _ U o U' => ∃ v L, o = .returned v ∧ Q3_4 Z w_cache cl_w_cache ob0 ob1 q0 q1 q2 h0 n0 v U'.heap L ∧ FrameEnd U o U' L ({ frames := 0, cells := 0, slots := 0, locals := 0 } : Room).cells ({ frames := 0, cells := 0, slots := 0, locals := 0 } : Room).slots) := by
  refine MetFree.of_bodySF (plainFor_of_name pn11) hisR ?_
  intro p e s m args below meth c s₁ Bd hml0 hP hK
  obtain ⟨rfl, hZ, hh⟩ := hP
  have hx := Bd.exec
  have hby := Bd.bytes
  have hml : c.maxLocals = 3 := hml0
  have hown : s.vm.findClass "com/example/melog/melog/model/TimestampedOffset" = some m.cls := findClass_of_methodNamed Bd.named
  have hnm := (name_of_methodNamed Bd.named Bd.method).1
  have X0 : Stand p l e ({ frames := 0, cells := 0, slots := 0, locals := 0 } : Room) s m #[(.ref ob0), (.ref ob1)] below meth c s₁ [] 0 0 := Stand.of_body Bd
  have e0 : s₁.heap = h0 := by rw [← hh, Bd.state]; rfl
  have N0 := Fr.nil n0
  have pre0 : ∀ t, Steps p.tables e below (s₁.setTop (mkF m 0 #[.val (.ref ob0), .val (.ref ob1), .unset] [])) t → Steps p.tables e below (s₁.setTop (entryFrame m #[(.ref ob0), (.ref ob1)] 3)) t := fun t k => castTop (ef35 m ob0 ob1) k
  obtain ⟨S_w_cache, Ar_w_cache, Sz_w_cache, AL_w_cache, -⟩ := id HW
  obtain ⟨T1, X1, e1, st1⟩ := instY X0 hx hZ hown (hw _ (List.mem_of_getElem? (i := 18) rfl)) e0 (Ins.self PE_ob1) (g := (mkF m 1 #[.val (.ref ob0), .val (.ref ob1), .unset] [(.ref ob1)])) rfl rfl (hb hby d3_1)
  obtain ⟨T2, X2, e2, st2⟩ := castY X1 hx hZ hown (hw _ (List.mem_of_getElem? (i := 18) rfl)) e1 (Ins.self PE_ob1) (g := (mkF m 8 #[.val (.ref ob0), .val (.ref ob1), .unset] [(.ref ob1)])) rfl rfl (hb hby d3_8)
  obtain ⟨T3, X3, e3, st3⟩ := getF X2 hx hZ hown (host := "") (Or.inl (hw _ (List.mem_of_getElem? (i := 9) rfl))) Via.refl e2 PF_ob1_offset (g := (mkF m 13 #[.val (.ref ob0), .val (.ref ob1), .val (.ref ob1)] [(.ref ob1)])) rfl rfl (hb hby d3_13)
  obtain ⟨T4, X4, e4, st4⟩ := getF X3 hx hZ hown (host := "") (Or.inl (hw _ (List.mem_of_getElem? (i := 9) rfl))) Via.refl e3 PF_ob0_offset (g := (mkF m 17 #[.val (.ref ob0), .val (.ref ob1), .val (.ref ob1)] [(.ref ob0), (.long q2)])) rfl rfl (hb hby d3_17)
  obtain ⟨T5, X5, e5, st5⟩ := getF X4 hx hZ hown (host := "") (Or.inl (hw _ (List.mem_of_getElem? (i := 11) rfl))) Via.refl e4 PF_ob1_timestamp (g := (mkF m 25 #[.val (.ref ob0), .val (.ref ob1), .val (.ref ob1)] [(.ref ob1)])) rfl rfl (hb hby d3_25)
  obtain ⟨T6, X6, e6, st6⟩ := getF X5 hx hZ hown (host := "") (Or.inl (hw _ (List.mem_of_getElem? (i := 11) rfl))) Via.refl e5 PF_ob0_timestamp (g := (mkF m 29 #[.val (.ref ob0), .val (.ref ob1), .val (.ref ob1)] [(.ref ob0), (.long q1)])) rfl rfl (hb hby d3_29)
  obtain ⟨fs, hr, hrun, hended, hW, hsame⟩ := X6.leave (v := some (.int (1 : Int32))) (fun h => by rw [Bd.returns] at h; cases h)
  refine ⟨_, _, pre0 _ ?_, hrun, hended, _, _, rfl, ?_, ⟨_, rfl⟩, hW, hsame.mono (by decide) (by decide)⟩
  · show Steps p.tables e below (s₁.setTop (mkF m 0 #[.val (.ref ob0), .val (.ref ob1), .unset] [])) _
    refine XS.aloadN X0.here hx rfl (hb hby d3_0) rfl rfl ?_
    show Steps p.tables e below (s₁.setTop (mkF m 1 #[.val (.ref ob0), .val (.ref ob1), .unset] [(.ref ob1)])) _
    refine st1 _ ?_
    show Steps p.tables e below (T1.setTop (mkF m 4 #[.val (.ref ob0), .val (.ref ob1), .unset] [(.int (1 : Int32))])) _
    refine XS.ifNo X1.here hx rfl (hb hby d3_4) rfl ((if0 _ _).trans (feq (by decide : ¬ ((1 : Int32) = (0 : Int32)))).1) ?_
    show Steps p.tables e below (T1.setTop (mkF m 7 #[.val (.ref ob0), .val (.ref ob1), .unset] [])) _
    refine XS.aloadN X1.here hx rfl (hb hby d3_7) rfl rfl ?_
    show Steps p.tables e below (T1.setTop (mkF m 8 #[.val (.ref ob0), .val (.ref ob1), .unset] [(.ref ob1)])) _
    refine st2 _ ?_
    show Steps p.tables e below (T2.setTop (mkF m 11 #[.val (.ref ob0), .val (.ref ob1), .unset] [(.ref ob1)])) _
    refine XS.astoreN X2.here hx rfl (hb hby d3_11) rfl rfl (l' := #[.val (.ref ob0), .val (.ref ob1), .val (.ref ob1)]) rfl ?_
    show Steps p.tables e below (T2.setTop (mkF m 12 #[.val (.ref ob0), .val (.ref ob1), .val (.ref ob1)] [])) _
    refine XS.aloadN X2.here hx rfl (hb hby d3_12) rfl rfl ?_
    show Steps p.tables e below (T2.setTop (mkF m 13 #[.val (.ref ob0), .val (.ref ob1), .val (.ref ob1)] [(.ref ob1)])) _
    refine st3 _ ?_
    show Steps p.tables e below (T3.setTop (mkF m 16 #[.val (.ref ob0), .val (.ref ob1), .val (.ref ob1)] [(.long q2)])) _
    refine XS.aloadN X3.here hx rfl (hb hby d3_16) rfl rfl ?_
    show Steps p.tables e below (T3.setTop (mkF m 17 #[.val (.ref ob0), .val (.ref ob1), .val (.ref ob1)] [(.ref ob0), (.long q2)])) _
    refine st4 _ ?_
    show Steps p.tables e below (T4.setTop (mkF m 20 #[.val (.ref ob0), .val (.ref ob1), .val (.ref ob1)] [(.long q0), (.long q2)])) _
    refine XS.lcmp X4.here hx rfl (hb hby d3_20) rfl ?_
    show Steps p.tables e below (T4.setTop (mkF m 21 #[.val (.ref ob0), .val (.ref ob1), .val (.ref ob1)] [(.int (lcmpW q2 q0))])) _
    refine XS.ifNo X4.here hx rfl (hb hby d3_21) rfl ((if0 _ _).trans (teq ((lw_eq q2 q0).mpr hd0)).2) ?_
    show Steps p.tables e below (T4.setTop (mkF m 24 #[.val (.ref ob0), .val (.ref ob1), .val (.ref ob1)] [])) _
    refine XS.aloadN X4.here hx rfl (hb hby d3_24) rfl rfl ?_
    show Steps p.tables e below (T4.setTop (mkF m 25 #[.val (.ref ob0), .val (.ref ob1), .val (.ref ob1)] [(.ref ob1)])) _
    refine st5 _ ?_
    show Steps p.tables e below (T5.setTop (mkF m 28 #[.val (.ref ob0), .val (.ref ob1), .val (.ref ob1)] [(.long q1)])) _
    refine XS.aloadN X5.here hx rfl (hb hby d3_28) rfl rfl ?_
    show Steps p.tables e below (T5.setTop (mkF m 29 #[.val (.ref ob0), .val (.ref ob1), .val (.ref ob1)] [(.ref ob0), (.long q1)])) _
    refine st6 _ ?_
    show Steps p.tables e below (T6.setTop (mkF m 32 #[.val (.ref ob0), .val (.ref ob1), .val (.ref ob1)] [(.long q1), (.long q1)])) _
    refine XS.lcmp X6.here hx rfl (hb hby d3_32) rfl ?_
    show Steps p.tables e below (T6.setTop (mkF m 33 #[.val (.ref ob0), .val (.ref ob1), .val (.ref ob1)] [(.int (lcmpW q1 q1))])) _
    refine XS.ifNo X6.here hx rfl (hb hby d3_33) rfl ((if0 _ _).trans (teq ((lw_eq q1 q1).mpr (rfl : q1 = q1))).2) ?_
    show Steps p.tables e below (T6.setTop (mkF m 36 #[.val (.ref ob0), .val (.ref ob1), .val (.ref ob1)] [])) _
    refine XS.iconst X6.here hx rfl (hb hby d3_36) ?_
    show Steps p.tables e below (T6.setTop (mkF m 37 #[.val (.ref ob0), .val (.ref ob1), .val (.ref ob1)] [(.int (1 : Int32))])) _
    refine XS.goto X6.here hx rfl (pc0 := 37) (pc' := 41) rfl (hb hby d3_37) (by decide) (by decide) ?_
    show Steps p.tables e below (T6.setTop (mkF m 41 #[.val (.ref ob0), .val (.ref ob1), .val (.ref ob1)] [(.int (1 : Int32))])) _
    exact retN X6 hx (t := .boolean) Bd.returns (by simp) (hb hby d3_41) hr
  · exact ⟨rfl, N0, e6⟩
def Q3_5 (Z : State) (w_cache : Addr) (cl_w_cache : Cell) (ob0 : Addr) (ob1 : Addr) (q0 : Int64) (q1 : Int64) (q2 : Int64) (h0 : Heap) (n0 : Nat) (v : Option Value) (h : Heap) (L : List Loc) : Prop := v = some (.int (0 : Int32)) ∧ Fr n0 L ∧ h = h0
set_option maxRecDepth 65536 in
set_option maxHeartbeats 40000000 in
theorem rm3_5 (l : Launch) (Z : State) (a0 : Array Value) (hw : ∀ d ∈ tables_1, d.before a0 Z = true) (ws : List Jvm.Cond) (w_cache : Addr) (cl_w_cache : Cell) (ob0 : Addr) (ob1 : Addr) (q0 : Int64) (q1 : Int64) (q2 : Int64) (h0 : Heap) (n0 : Nat) (Z0 : n0 ≤ h0.size) (O0 : Old Z n0 h0) (HW : World Z w_cache cl_w_cache) (PE_ob0 : Exa Z h0 ob0 "com/example/melog/melog/model/TimestampedOffset") (PF_ob0_offset : Fld Z h0 ob0 "com/example/melog/melog/model/TimestampedOffset" "offset" "J" (.long q0)) (PF_ob0_timestamp : Fld Z h0 ob0 "com/example/melog/melog/model/TimestampedOffset" "timestamp" "J" (.long q1)) (PE_ob1 : Exa Z h0 ob1 "com/example/melog/melog/model/TimestampedOffset") (PF_ob1_offset : Fld Z h0 ob1 "com/example/melog/melog/model/TimestampedOffset" "offset" "J" (.long q2)) (PF_ob1_timestamp : Fld Z h0 ob1 "com/example/melog/melog/model/TimestampedOffset" "timestamp" "J" (.long q1)) (hd0 : ¬ (q2 = q0)) :
    MetFree l (⟨"com/example/melog/melog/model/TimestampedOffset", "equals", "(Ljava/lang/Object;)Z"⟩ : MethodName) (head1 (Jvm.Cond.code (⟨"com/example/melog/melog/model/TimestampedOffset", "equals", "(Ljava/lang/Object;)Z"⟩ : MethodName) prog_7_method_4_code 3 (some .boolean) :: ws) ({ frames := 0, cells := 0, slots := 0, locals := 0 } : Room)) (fun a U => a = #[(.ref ob0), (.ref ob1)] ∧ Z.Warmed39 U.vm ∧ U.heap = h0) (fun _ _ _ _ _ => True) (fun _ U o U' => ∃ v L, o = .returned v ∧ Q3_5 Z w_cache cl_w_cache ob0 ob1 q0 q1 q2 h0 n0 v U'.heap L ∧ FrameEnd U o U' L ({ frames := 0, cells := 0, slots := 0, locals := 0 } : Room).cells ({ frames := 0, cells := 0, slots := 0, locals := 0 } : Room).slots) := by
  refine MetFree.of_bodySF (plainFor_of_name pn11) hisR ?_
  intro p e s m args below meth c s₁ Bd hml0 hP hK
  obtain ⟨rfl, hZ, hh⟩ := hP
  have hx := Bd.exec
  have hby := Bd.bytes
  have hml : c.maxLocals = 3 := hml0
  have hown : s.vm.findClass "com/example/melog/melog/model/TimestampedOffset" = some m.cls := findClass_of_methodNamed Bd.named
  have hnm := (name_of_methodNamed Bd.named Bd.method).1
  have X0 : Stand p l e ({ frames := 0, cells := 0, slots := 0, locals := 0 } : Room) s m #[(.ref ob0), (.ref ob1)] below meth c s₁ [] 0 0 := Stand.of_body Bd
  have e0 : s₁.heap = h0 := by rw [← hh, Bd.state]; rfl
  have N0 := Fr.nil n0
  have pre0 : ∀ t, Steps p.tables e below (s₁.setTop (mkF m 0 #[.val (.ref ob0), .val (.ref ob1), .unset] [])) t → Steps p.tables e below (s₁.setTop (entryFrame m #[(.ref ob0), (.ref ob1)] 3)) t := fun t k => castTop (ef35 m ob0 ob1) k
  obtain ⟨S_w_cache, Ar_w_cache, Sz_w_cache, AL_w_cache, -⟩ := id HW
  obtain ⟨T1, X1, e1, st1⟩ := instY X0 hx hZ hown (hw _ (List.mem_of_getElem? (i := 18) rfl)) e0 (Ins.self PE_ob1) (g := (mkF m 1 #[.val (.ref ob0), .val (.ref ob1), .unset] [(.ref ob1)])) rfl rfl (hb hby d3_1)
  obtain ⟨T2, X2, e2, st2⟩ := castY X1 hx hZ hown (hw _ (List.mem_of_getElem? (i := 18) rfl)) e1 (Ins.self PE_ob1) (g := (mkF m 8 #[.val (.ref ob0), .val (.ref ob1), .unset] [(.ref ob1)])) rfl rfl (hb hby d3_8)
  obtain ⟨T3, X3, e3, st3⟩ := getF X2 hx hZ hown (host := "") (Or.inl (hw _ (List.mem_of_getElem? (i := 9) rfl))) Via.refl e2 PF_ob1_offset (g := (mkF m 13 #[.val (.ref ob0), .val (.ref ob1), .val (.ref ob1)] [(.ref ob1)])) rfl rfl (hb hby d3_13)
  obtain ⟨T4, X4, e4, st4⟩ := getF X3 hx hZ hown (host := "") (Or.inl (hw _ (List.mem_of_getElem? (i := 9) rfl))) Via.refl e3 PF_ob0_offset (g := (mkF m 17 #[.val (.ref ob0), .val (.ref ob1), .val (.ref ob1)] [(.ref ob0), (.long q2)])) rfl rfl (hb hby d3_17)
  obtain ⟨fs, hr, hrun, hended, hW, hsame⟩ := X4.leave (v := some (.int (0 : Int32))) (fun h => by rw [Bd.returns] at h; cases h)
  refine ⟨_, _, pre0 _ ?_, hrun, hended, _, _, rfl, ?_, ⟨_, rfl⟩, hW, hsame.mono (by decide) (by decide)⟩
  · show Steps p.tables e below (s₁.setTop (mkF m 0 #[.val (.ref ob0), .val (.ref ob1), .unset] [])) _
    refine XS.aloadN X0.here hx rfl (hb hby d3_0) rfl rfl ?_
    show Steps p.tables e below (s₁.setTop (mkF m 1 #[.val (.ref ob0), .val (.ref ob1), .unset] [(.ref ob1)])) _
    refine st1 _ ?_
    show Steps p.tables e below (T1.setTop (mkF m 4 #[.val (.ref ob0), .val (.ref ob1), .unset] [(.int (1 : Int32))])) _
    refine XS.ifNo X1.here hx rfl (hb hby d3_4) rfl ((if0 _ _).trans (feq (by decide : ¬ ((1 : Int32) = (0 : Int32)))).1) ?_
    show Steps p.tables e below (T1.setTop (mkF m 7 #[.val (.ref ob0), .val (.ref ob1), .unset] [])) _
    refine XS.aloadN X1.here hx rfl (hb hby d3_7) rfl rfl ?_
    show Steps p.tables e below (T1.setTop (mkF m 8 #[.val (.ref ob0), .val (.ref ob1), .unset] [(.ref ob1)])) _
    refine st2 _ ?_
    show Steps p.tables e below (T2.setTop (mkF m 11 #[.val (.ref ob0), .val (.ref ob1), .unset] [(.ref ob1)])) _
    refine XS.astoreN X2.here hx rfl (hb hby d3_11) rfl rfl (l' := #[.val (.ref ob0), .val (.ref ob1), .val (.ref ob1)]) rfl ?_
    show Steps p.tables e below (T2.setTop (mkF m 12 #[.val (.ref ob0), .val (.ref ob1), .val (.ref ob1)] [])) _
    refine XS.aloadN X2.here hx rfl (hb hby d3_12) rfl rfl ?_
    show Steps p.tables e below (T2.setTop (mkF m 13 #[.val (.ref ob0), .val (.ref ob1), .val (.ref ob1)] [(.ref ob1)])) _
    refine st3 _ ?_
    show Steps p.tables e below (T3.setTop (mkF m 16 #[.val (.ref ob0), .val (.ref ob1), .val (.ref ob1)] [(.long q2)])) _
    refine XS.aloadN X3.here hx rfl (hb hby d3_16) rfl rfl ?_
    show Steps p.tables e below (T3.setTop (mkF m 17 #[.val (.ref ob0), .val (.ref ob1), .val (.ref ob1)] [(.ref ob0), (.long q2)])) _
    refine st4 _ ?_
    show Steps p.tables e below (T4.setTop (mkF m 20 #[.val (.ref ob0), .val (.ref ob1), .val (.ref ob1)] [(.long q0), (.long q2)])) _
    refine XS.lcmp X4.here hx rfl (hb hby d3_20) rfl ?_
    show Steps p.tables e below (T4.setTop (mkF m 21 #[.val (.ref ob0), .val (.ref ob1), .val (.ref ob1)] [(.int (lcmpW q2 q0))])) _
    refine XS.ifYes X4.here hx rfl (pc0 := 21) (pc' := 40) rfl (hb hby d3_21) rfl ((if0 _ _).trans (feq (fun q => hd0 ((lw_eq q2 q0).mp q))).2) (by decide) (by decide) ?_
    show Steps p.tables e below (T4.setTop (mkF m 40 #[.val (.ref ob0), .val (.ref ob1), .val (.ref ob1)] [])) _
    refine XS.iconst X4.here hx rfl (hb hby d3_40) ?_
    show Steps p.tables e below (T4.setTop (mkF m 41 #[.val (.ref ob0), .val (.ref ob1), .val (.ref ob1)] [(.int (0 : Int32))])) _
    exact retN X4 hx (t := .boolean) Bd.returns (by simp) (hb hby d3_41) hr
  · exact ⟨rfl, N0, e4⟩
def Q3_6 (Z : State) (w_cache : Addr) (cl_w_cache : Cell) (ob0 : Addr) (ob1 : Addr) (q0 : Int64) (q1 : Int64) (q2 : Int64) (h0 : Heap) (n0 : Nat) (v : Option Value) (h : Heap) (L : List Loc) : Prop := v = some (.int (1 : Int32)) ∧ Fr n0 L ∧ h = h0
set_option maxRecDepth 65536 in
set_option maxHeartbeats 40000000 in
theorem rm3_6 (l : Launch) (Z : State) (a0 : Array Value) (hw : ∀ d ∈ tables_1, d.before a0 Z = true) (ws : List Jvm.Cond) (w_cache : Addr) (cl_w_cache : Cell) (ob0 : Addr) (ob1 : Addr) (q0 : Int64) (q1 : Int64) (q2 : Int64) (h0 : Heap) (n0 : Nat) (Z0 : n0 ≤ h0.size) (O0 : Old Z n0 h0) (HW : World Z w_cache cl_w_cache) (PE_ob0 : Exa Z h0 ob0 "com/example/melog/melog/model/TimestampedOffset") (PF_ob0_offset : Fld Z h0 ob0 "com/example/melog/melog/model/TimestampedOffset" "offset" "J" (.long q0)) (PF_ob0_timestamp : Fld Z h0 ob0 "com/example/melog/melog/model/TimestampedOffset" "timestamp" "J" (.long q1)) (PE_ob1 : Exa Z h0 ob1 "com/example/melog/melog/model/TimestampedOffset") (PF_ob1_offset : Fld Z h0 ob1 "com/example/melog/melog/model/TimestampedOffset" "offset" "J" (.long q0)) (PF_ob1_timestamp : Fld Z h0 ob1 "com/example/melog/melog/model/TimestampedOffset" "timestamp" "J" (.long q2)) (hd0 : q2 = q1) :
    MetFree l (⟨"com/example/melog/melog/model/TimestampedOffset", "equals", "(Ljava/lang/Object;)Z"⟩ : MethodName) (head1 (Jvm.Cond.code (⟨"com/example/melog/melog/model/TimestampedOffset", "equals", "(Ljava/lang/Object;)Z"⟩ : MethodName) prog_7_method_4_code 3 (some .boolean) :: ws) ({ frames := 0, cells := 0, slots := 0, locals := 0 } : Room)) (fun a U => a = #[(.ref ob0), (.ref ob1)] ∧ Z.Warmed39 U.vm ∧ U.heap = h0) (fun _ _ _ _ _ => True) (fun _ U o U' => ∃ v L, o = .returned v ∧ Q3_6 Z w_cache cl_w_cache ob0 ob1 q0 q1 q2 h0 n0 v U'.heap L ∧ FrameEnd U o U' L ({ frames := 0, cells := 0, slots := 0, locals := 0 } : Room).cells ({ frames := 0, cells := 0, slots := 0, locals := 0 } : Room).slots) := by
  refine MetFree.of_bodySF (plainFor_of_name pn11) hisR ?_
  intro p e s m args below meth c s₁ Bd hml0 hP hK
  obtain ⟨rfl, hZ, hh⟩ := hP
  have hx := Bd.exec
  have hby := Bd.bytes
  have hml : c.maxLocals = 3 := hml0
  have hown : s.vm.findClass "com/example/melog/melog/model/TimestampedOffset" = some m.cls := findClass_of_methodNamed Bd.named
  have hnm := (name_of_methodNamed Bd.named Bd.method).1
  have X0 : Stand p l e ({ frames := 0, cells := 0, slots := 0, locals := 0 } : Room) s m #[(.ref ob0), (.ref ob1)] below meth c s₁ [] 0 0 := Stand.of_body Bd
  have e0 : s₁.heap = h0 := by rw [← hh, Bd.state]; rfl
  have N0 := Fr.nil n0
  have pre0 : ∀ t, Steps p.tables e below (s₁.setTop (mkF m 0 #[.val (.ref ob0), .val (.ref ob1), .unset] [])) t → Steps p.tables e below (s₁.setTop (entryFrame m #[(.ref ob0), (.ref ob1)] 3)) t := fun t k => castTop (ef35 m ob0 ob1) k
  obtain ⟨S_w_cache, Ar_w_cache, Sz_w_cache, AL_w_cache, -⟩ := id HW
  obtain ⟨T1, X1, e1, st1⟩ := instY X0 hx hZ hown (hw _ (List.mem_of_getElem? (i := 18) rfl)) e0 (Ins.self PE_ob1) (g := (mkF m 1 #[.val (.ref ob0), .val (.ref ob1), .unset] [(.ref ob1)])) rfl rfl (hb hby d3_1)
  obtain ⟨T2, X2, e2, st2⟩ := castY X1 hx hZ hown (hw _ (List.mem_of_getElem? (i := 18) rfl)) e1 (Ins.self PE_ob1) (g := (mkF m 8 #[.val (.ref ob0), .val (.ref ob1), .unset] [(.ref ob1)])) rfl rfl (hb hby d3_8)
  obtain ⟨T3, X3, e3, st3⟩ := getF X2 hx hZ hown (host := "") (Or.inl (hw _ (List.mem_of_getElem? (i := 9) rfl))) Via.refl e2 PF_ob1_offset (g := (mkF m 13 #[.val (.ref ob0), .val (.ref ob1), .val (.ref ob1)] [(.ref ob1)])) rfl rfl (hb hby d3_13)
  obtain ⟨T4, X4, e4, st4⟩ := getF X3 hx hZ hown (host := "") (Or.inl (hw _ (List.mem_of_getElem? (i := 9) rfl))) Via.refl e3 PF_ob0_offset (g := (mkF m 17 #[.val (.ref ob0), .val (.ref ob1), .val (.ref ob1)] [(.ref ob0), (.long q0)])) rfl rfl (hb hby d3_17)
  obtain ⟨T5, X5, e5, st5⟩ := getF X4 hx hZ hown (host := "") (Or.inl (hw _ (List.mem_of_getElem? (i := 11) rfl))) Via.refl e4 PF_ob1_timestamp (g := (mkF m 25 #[.val (.ref ob0), .val (.ref ob1), .val (.ref ob1)] [(.ref ob1)])) rfl rfl (hb hby d3_25)
  obtain ⟨T6, X6, e6, st6⟩ := getF X5 hx hZ hown (host := "") (Or.inl (hw _ (List.mem_of_getElem? (i := 11) rfl))) Via.refl e5 PF_ob0_timestamp (g := (mkF m 29 #[.val (.ref ob0), .val (.ref ob1), .val (.ref ob1)] [(.ref ob0), (.long q2)])) rfl rfl (hb hby d3_29)
  obtain ⟨fs, hr, hrun, hended, hW, hsame⟩ := X6.leave (v := some (.int (1 : Int32))) (fun h => by rw [Bd.returns] at h; cases h)
  refine ⟨_, _, pre0 _ ?_, hrun, hended, _, _, rfl, ?_, ⟨_, rfl⟩, hW, hsame.mono (by decide) (by decide)⟩
  · show Steps p.tables e below (s₁.setTop (mkF m 0 #[.val (.ref ob0), .val (.ref ob1), .unset] [])) _
    refine XS.aloadN X0.here hx rfl (hb hby d3_0) rfl rfl ?_
    show Steps p.tables e below (s₁.setTop (mkF m 1 #[.val (.ref ob0), .val (.ref ob1), .unset] [(.ref ob1)])) _
    refine st1 _ ?_
    show Steps p.tables e below (T1.setTop (mkF m 4 #[.val (.ref ob0), .val (.ref ob1), .unset] [(.int (1 : Int32))])) _
    refine XS.ifNo X1.here hx rfl (hb hby d3_4) rfl ((if0 _ _).trans (feq (by decide : ¬ ((1 : Int32) = (0 : Int32)))).1) ?_
    show Steps p.tables e below (T1.setTop (mkF m 7 #[.val (.ref ob0), .val (.ref ob1), .unset] [])) _
    refine XS.aloadN X1.here hx rfl (hb hby d3_7) rfl rfl ?_
    show Steps p.tables e below (T1.setTop (mkF m 8 #[.val (.ref ob0), .val (.ref ob1), .unset] [(.ref ob1)])) _
    refine st2 _ ?_
    show Steps p.tables e below (T2.setTop (mkF m 11 #[.val (.ref ob0), .val (.ref ob1), .unset] [(.ref ob1)])) _
    refine XS.astoreN X2.here hx rfl (hb hby d3_11) rfl rfl (l' := #[.val (.ref ob0), .val (.ref ob1), .val (.ref ob1)]) rfl ?_
    show Steps p.tables e below (T2.setTop (mkF m 12 #[.val (.ref ob0), .val (.ref ob1), .val (.ref ob1)] [])) _
    refine XS.aloadN X2.here hx rfl (hb hby d3_12) rfl rfl ?_
    show Steps p.tables e below (T2.setTop (mkF m 13 #[.val (.ref ob0), .val (.ref ob1), .val (.ref ob1)] [(.ref ob1)])) _
    refine st3 _ ?_
    show Steps p.tables e below (T3.setTop (mkF m 16 #[.val (.ref ob0), .val (.ref ob1), .val (.ref ob1)] [(.long q0)])) _
    refine XS.aloadN X3.here hx rfl (hb hby d3_16) rfl rfl ?_
    show Steps p.tables e below (T3.setTop (mkF m 17 #[.val (.ref ob0), .val (.ref ob1), .val (.ref ob1)] [(.ref ob0), (.long q0)])) _
    refine st4 _ ?_
    show Steps p.tables e below (T4.setTop (mkF m 20 #[.val (.ref ob0), .val (.ref ob1), .val (.ref ob1)] [(.long q0), (.long q0)])) _
    refine XS.lcmp X4.here hx rfl (hb hby d3_20) rfl ?_
    show Steps p.tables e below (T4.setTop (mkF m 21 #[.val (.ref ob0), .val (.ref ob1), .val (.ref ob1)] [(.int (lcmpW q0 q0))])) _
    refine XS.ifNo X4.here hx rfl (hb hby d3_21) rfl ((if0 _ _).trans (teq ((lw_eq q0 q0).mpr (rfl : q0 = q0))).2) ?_
    show Steps p.tables e below (T4.setTop (mkF m 24 #[.val (.ref ob0), .val (.ref ob1), .val (.ref ob1)] [])) _
    refine XS.aloadN X4.here hx rfl (hb hby d3_24) rfl rfl ?_
    show Steps p.tables e below (T4.setTop (mkF m 25 #[.val (.ref ob0), .val (.ref ob1), .val (.ref ob1)] [(.ref ob1)])) _
    refine st5 _ ?_
    show Steps p.tables e below (T5.setTop (mkF m 28 #[.val (.ref ob0), .val (.ref ob1), .val (.ref ob1)] [(.long q2)])) _
    refine XS.aloadN X5.here hx rfl (hb hby d3_28) rfl rfl ?_
    show Steps p.tables e below (T5.setTop (mkF m 29 #[.val (.ref ob0), .val (.ref ob1), .val (.ref ob1)] [(.ref ob0), (.long q2)])) _
    refine st6 _ ?_
    show Steps p.tables e below (T6.setTop (mkF m 32 #[.val (.ref ob0), .val (.ref ob1), .val (.ref ob1)] [(.long q1), (.long q2)])) _
    refine XS.lcmp X6.here hx rfl (hb hby d3_32) rfl ?_
    show Steps p.tables e below (T6.setTop (mkF m 33 #[.val (.ref ob0), .val (.ref ob1), .val (.ref ob1)] [(.int (lcmpW q2 q1))])) _
    refine XS.ifNo X6.here hx rfl (hb hby d3_33) rfl ((if0 _ _).trans (teq ((lw_eq q2 q1).mpr hd0)).2) ?_
    show Steps p.tables e below (T6.setTop (mkF m 36 #[.val (.ref ob0), .val (.ref ob1), .val (.ref ob1)] [])) _
    refine XS.iconst X6.here hx rfl (hb hby d3_36) ?_
    show Steps p.tables e below (T6.setTop (mkF m 37 #[.val (.ref ob0), .val (.ref ob1), .val (.ref ob1)] [(.int (1 : Int32))])) _
    refine XS.goto X6.here hx rfl (pc0 := 37) (pc' := 41) rfl (hb hby d3_37) (by decide) (by decide) ?_
    show Steps p.tables e below (T6.setTop (mkF m 41 #[.val (.ref ob0), .val (.ref ob1), .val (.ref ob1)] [(.int (1 : Int32))])) _
    exact retN X6 hx (t := .boolean) Bd.returns (by simp) (hb hby d3_41) hr
  · exact ⟨rfl, N0, e6⟩
def Q3_7 (Z : State) (w_cache : Addr) (cl_w_cache : Cell) (ob0 : Addr) (ob1 : Addr) (q0 : Int64) (q1 : Int64) (q2 : Int64) (h0 : Heap) (n0 : Nat) (v : Option Value) (h : Heap) (L : List Loc) : Prop := v = some (.int (0 : Int32)) ∧ Fr n0 L ∧ h = h0
set_option maxRecDepth 65536 in
set_option maxHeartbeats 40000000 in
theorem rm3_7 (l : Launch) (Z : State) (a0 : Array Value) (hw : ∀ d ∈ tables_1, d.before a0 Z = true) (ws : List Jvm.Cond) (w_cache : Addr) (cl_w_cache : Cell) (ob0 : Addr) (ob1 : Addr) (q0 : Int64) (q1 : Int64) (q2 : Int64) (h0 : Heap) (n0 : Nat) (Z0 : n0 ≤ h0.size) (O0 : Old Z n0 h0) (HW : World Z w_cache cl_w_cache) (PE_ob0 : Exa Z h0 ob0 "com/example/melog/melog/model/TimestampedOffset") (PF_ob0_offset : Fld Z h0 ob0 "com/example/melog/melog/model/TimestampedOffset" "offset" "J" (.long q0)) (PF_ob0_timestamp : Fld Z h0 ob0 "com/example/melog/melog/model/TimestampedOffset" "timestamp" "J" (.long q1)) (PE_ob1 : Exa Z h0 ob1 "com/example/melog/melog/model/TimestampedOffset") (PF_ob1_offset : Fld Z h0 ob1 "com/example/melog/melog/model/TimestampedOffset" "offset" "J" (.long q0)) (PF_ob1_timestamp : Fld Z h0 ob1 "com/example/melog/melog/model/TimestampedOffset" "timestamp" "J" (.long q2)) (hd0 : ¬ (q2 = q1)) :
    MetFree l (⟨"com/example/melog/melog/model/TimestampedOffset", "equals", "(Ljava/lang/Object;)Z"⟩ : MethodName) (head1 (Jvm.Cond.code (⟨"com/example/melog/melog/model/TimestampedOffset", "equals", "(Ljava/lang/Object;)Z"⟩ : MethodName) prog_7_method_4_code 3 (some .boolean) :: ws) ({ frames := 0, cells := 0, slots := 0, locals := 0 } : Room)) (fun a U => a = #[(.ref ob0), (.ref ob1)] ∧ Z.Warmed39 U.vm ∧ U.heap = h0) (fun _ _ _ _ _ => True) (fun _ U o U' => ∃ v L, o = .returned v ∧ Q3_7 Z w_cache cl_w_cache ob0 ob1 q0 q1 q2 h0 n0 v U'.heap L ∧ FrameEnd U o U' L ({ frames := 0, cells := 0, slots := 0, locals := 0 } : Room).cells ({ frames := 0, cells := 0, slots := 0, locals := 0 } : Room).slots) := by
  refine MetFree.of_bodySF (plainFor_of_name pn11) hisR ?_
  intro p e s m args below meth c s₁ Bd hml0 hP hK
  obtain ⟨rfl, hZ, hh⟩ := hP
  have hx := Bd.exec
  have hby := Bd.bytes
  have hml : c.maxLocals = 3 := hml0
  have hown : s.vm.findClass "com/example/melog/melog/model/TimestampedOffset" = some m.cls := findClass_of_methodNamed Bd.named
  have hnm := (name_of_methodNamed Bd.named Bd.method).1
  have X0 : Stand p l e ({ frames := 0, cells := 0, slots := 0, locals := 0 } : Room) s m #[(.ref ob0), (.ref ob1)] below meth c s₁ [] 0 0 := Stand.of_body Bd
  have e0 : s₁.heap = h0 := by rw [← hh, Bd.state]; rfl
  have N0 := Fr.nil n0
  have pre0 : ∀ t, Steps p.tables e below (s₁.setTop (mkF m 0 #[.val (.ref ob0), .val (.ref ob1), .unset] [])) t → Steps p.tables e below (s₁.setTop (entryFrame m #[(.ref ob0), (.ref ob1)] 3)) t := fun t k => castTop (ef35 m ob0 ob1) k
  obtain ⟨S_w_cache, Ar_w_cache, Sz_w_cache, AL_w_cache, -⟩ := id HW
  obtain ⟨T1, X1, e1, st1⟩ := instY X0 hx hZ hown (hw _ (List.mem_of_getElem? (i := 18) rfl)) e0 (Ins.self PE_ob1) (g := (mkF m 1 #[.val (.ref ob0), .val (.ref ob1), .unset] [(.ref ob1)])) rfl rfl (hb hby d3_1)
  obtain ⟨T2, X2, e2, st2⟩ := castY X1 hx hZ hown (hw _ (List.mem_of_getElem? (i := 18) rfl)) e1 (Ins.self PE_ob1) (g := (mkF m 8 #[.val (.ref ob0), .val (.ref ob1), .unset] [(.ref ob1)])) rfl rfl (hb hby d3_8)
  obtain ⟨T3, X3, e3, st3⟩ := getF X2 hx hZ hown (host := "") (Or.inl (hw _ (List.mem_of_getElem? (i := 9) rfl))) Via.refl e2 PF_ob1_offset (g := (mkF m 13 #[.val (.ref ob0), .val (.ref ob1), .val (.ref ob1)] [(.ref ob1)])) rfl rfl (hb hby d3_13)
  obtain ⟨T4, X4, e4, st4⟩ := getF X3 hx hZ hown (host := "") (Or.inl (hw _ (List.mem_of_getElem? (i := 9) rfl))) Via.refl e3 PF_ob0_offset (g := (mkF m 17 #[.val (.ref ob0), .val (.ref ob1), .val (.ref ob1)] [(.ref ob0), (.long q0)])) rfl rfl (hb hby d3_17)
  obtain ⟨T5, X5, e5, st5⟩ := getF X4 hx hZ hown (host := "") (Or.inl (hw _ (List.mem_of_getElem? (i := 11) rfl))) Via.refl e4 PF_ob1_timestamp (g := (mkF m 25 #[.val (.ref ob0), .val (.ref ob1), .val (.ref ob1)] [(.ref ob1)])) rfl rfl (hb hby d3_25)
  obtain ⟨T6, X6, e6, st6⟩ := getF X5 hx hZ hown (host := "") (Or.inl (hw _ (List.mem_of_getElem? (i := 11) rfl))) Via.refl e5 PF_ob0_timestamp (g := (mkF m 29 #[.val (.ref ob0), .val (.ref ob1), .val (.ref ob1)] [(.ref ob0), (.long q2)])) rfl rfl (hb hby d3_29)
  obtain ⟨fs, hr, hrun, hended, hW, hsame⟩ := X6.leave (v := some (.int (0 : Int32))) (fun h => by rw [Bd.returns] at h; cases h)
  refine ⟨_, _, pre0 _ ?_, hrun, hended, _, _, rfl, ?_, ⟨_, rfl⟩, hW, hsame.mono (by decide) (by decide)⟩
  · show Steps p.tables e below (s₁.setTop (mkF m 0 #[.val (.ref ob0), .val (.ref ob1), .unset] [])) _
    refine XS.aloadN X0.here hx rfl (hb hby d3_0) rfl rfl ?_
    show Steps p.tables e below (s₁.setTop (mkF m 1 #[.val (.ref ob0), .val (.ref ob1), .unset] [(.ref ob1)])) _
    refine st1 _ ?_
    show Steps p.tables e below (T1.setTop (mkF m 4 #[.val (.ref ob0), .val (.ref ob1), .unset] [(.int (1 : Int32))])) _
    refine XS.ifNo X1.here hx rfl (hb hby d3_4) rfl ((if0 _ _).trans (feq (by decide : ¬ ((1 : Int32) = (0 : Int32)))).1) ?_
    show Steps p.tables e below (T1.setTop (mkF m 7 #[.val (.ref ob0), .val (.ref ob1), .unset] [])) _
    refine XS.aloadN X1.here hx rfl (hb hby d3_7) rfl rfl ?_
    show Steps p.tables e below (T1.setTop (mkF m 8 #[.val (.ref ob0), .val (.ref ob1), .unset] [(.ref ob1)])) _
    refine st2 _ ?_
    show Steps p.tables e below (T2.setTop (mkF m 11 #[.val (.ref ob0), .val (.ref ob1), .unset] [(.ref ob1)])) _
    refine XS.astoreN X2.here hx rfl (hb hby d3_11) rfl rfl (l' := #[.val (.ref ob0), .val (.ref ob1), .val (.ref ob1)]) rfl ?_
    show Steps p.tables e below (T2.setTop (mkF m 12 #[.val (.ref ob0), .val (.ref ob1), .val (.ref ob1)] [])) _
    refine XS.aloadN X2.here hx rfl (hb hby d3_12) rfl rfl ?_
    show Steps p.tables e below (T2.setTop (mkF m 13 #[.val (.ref ob0), .val (.ref ob1), .val (.ref ob1)] [(.ref ob1)])) _
    refine st3 _ ?_
    show Steps p.tables e below (T3.setTop (mkF m 16 #[.val (.ref ob0), .val (.ref ob1), .val (.ref ob1)] [(.long q0)])) _
    refine XS.aloadN X3.here hx rfl (hb hby d3_16) rfl rfl ?_
    show Steps p.tables e below (T3.setTop (mkF m 17 #[.val (.ref ob0), .val (.ref ob1), .val (.ref ob1)] [(.ref ob0), (.long q0)])) _
    refine st4 _ ?_
    show Steps p.tables e below (T4.setTop (mkF m 20 #[.val (.ref ob0), .val (.ref ob1), .val (.ref ob1)] [(.long q0), (.long q0)])) _
    refine XS.lcmp X4.here hx rfl (hb hby d3_20) rfl ?_
    show Steps p.tables e below (T4.setTop (mkF m 21 #[.val (.ref ob0), .val (.ref ob1), .val (.ref ob1)] [(.int (lcmpW q0 q0))])) _
    refine XS.ifNo X4.here hx rfl (hb hby d3_21) rfl ((if0 _ _).trans (teq ((lw_eq q0 q0).mpr (rfl : q0 = q0))).2) ?_
    show Steps p.tables e below (T4.setTop (mkF m 24 #[.val (.ref ob0), .val (.ref ob1), .val (.ref ob1)] [])) _
    refine XS.aloadN X4.here hx rfl (hb hby d3_24) rfl rfl ?_
    show Steps p.tables e below (T4.setTop (mkF m 25 #[.val (.ref ob0), .val (.ref ob1), .val (.ref ob1)] [(.ref ob1)])) _
    refine st5 _ ?_
    show Steps p.tables e below (T5.setTop (mkF m 28 #[.val (.ref ob0), .val (.ref ob1), .val (.ref ob1)] [(.long q2)])) _
    refine XS.aloadN X5.here hx rfl (hb hby d3_28) rfl rfl ?_
    show Steps p.tables e below (T5.setTop (mkF m 29 #[.val (.ref ob0), .val (.ref ob1), .val (.ref ob1)] [(.ref ob0), (.long q2)])) _
    refine st6 _ ?_
    show Steps p.tables e below (T6.setTop (mkF m 32 #[.val (.ref ob0), .val (.ref ob1), .val (.ref ob1)] [(.long q1), (.long q2)])) _
    refine XS.lcmp X6.here hx rfl (hb hby d3_32) rfl ?_
    show Steps p.tables e below (T6.setTop (mkF m 33 #[.val (.ref ob0), .val (.ref ob1), .val (.ref ob1)] [(.int (lcmpW q2 q1))])) _
    refine XS.ifYes X6.here hx rfl (pc0 := 33) (pc' := 40) rfl (hb hby d3_33) rfl ((if0 _ _).trans (feq (fun q => hd0 ((lw_eq q2 q1).mp q))).2) (by decide) (by decide) ?_
    show Steps p.tables e below (T6.setTop (mkF m 40 #[.val (.ref ob0), .val (.ref ob1), .val (.ref ob1)] [])) _
    refine XS.iconst X6.here hx rfl (hb hby d3_40) ?_
    show Steps p.tables e below (T6.setTop (mkF m 41 #[.val (.ref ob0), .val (.ref ob1), .val (.ref ob1)] [(.int (0 : Int32))])) _
    exact retN X6 hx (t := .boolean) Bd.returns (by simp) (hb hby d3_41) hr
  · exact ⟨rfl, N0, e6⟩
def Q3_8 (Z : State) (w_cache : Addr) (cl_w_cache : Cell) (ob0 : Addr) (ob1 : Addr) (q0 : Int64) (q1 : Int64) (h0 : Heap) (n0 : Nat) (v : Option Value) (h : Heap) (L : List Loc) : Prop := v = some (.int (1 : Int32)) ∧ Fr n0 L ∧ h = h0
set_option maxRecDepth 65536 in
set_option maxHeartbeats 40000000 in
theorem rm3_8 (l : Launch) (Z : State) (a0 : Array Value) (hw : ∀ d ∈ tables_1, d.before a0 Z = true) (ws : List Jvm.Cond) (w_cache : Addr) (cl_w_cache : Cell) (ob0 : Addr) (ob1 : Addr) (q0 : Int64) (q1 : Int64) (h0 : Heap) (n0 : Nat) (Z0 : n0 ≤ h0.size) (O0 : Old Z n0 h0) (HW : World Z w_cache cl_w_cache) (PE_ob0 : Exa Z h0 ob0 "com/example/melog/melog/model/TimestampedOffset") (PF_ob0_offset : Fld Z h0 ob0 "com/example/melog/melog/model/TimestampedOffset" "offset" "J" (.long q0)) (PF_ob0_timestamp : Fld Z h0 ob0 "com/example/melog/melog/model/TimestampedOffset" "timestamp" "J" (.long q1)) (PE_ob1 : Exa Z h0 ob1 "com/example/melog/melog/model/TimestampedOffset") (PF_ob1_offset : Fld Z h0 ob1 "com/example/melog/melog/model/TimestampedOffset" "offset" "J" (.long q0)) (PF_ob1_timestamp : Fld Z h0 ob1 "com/example/melog/melog/model/TimestampedOffset" "timestamp" "J" (.long q1)) :
    MetFree l (⟨"com/example/melog/melog/model/TimestampedOffset", "equals", "(Ljava/lang/Object;)Z"⟩ : MethodName) (head1 (Jvm.Cond.code (⟨"com/example/melog/melog/model/TimestampedOffset", "equals", "(Ljava/lang/Object;)Z"⟩ : MethodName) prog_7_method_4_code 3 (some .boolean) :: ws) ({ frames := 0, cells := 0, slots := 0, locals := 0 } : Room)) (fun a U => a = #[(.ref ob0), (.ref ob1)] ∧ Z.Warmed39 U.vm ∧ U.heap = h0) (fun _ _ _ _ _ => True) (fun _ U o U' => ∃ v L, o = .returned v ∧ Q3_8 Z w_cache cl_w_cache ob0 ob1 q0 q1 h0 n0 v U'.heap L ∧ FrameEnd U o U' L ({ frames := 0, cells := 0, slots := 0, locals := 0 } : Room).cells ({ frames := 0, cells := 0, slots := 0, locals := 0 } : Room).slots) := by
  refine MetFree.of_bodySF (plainFor_of_name pn11) hisR ?_
  intro p e s m args below meth c s₁ Bd hml0 hP hK
  obtain ⟨rfl, hZ, hh⟩ := hP
  have hx := Bd.exec
  have hby := Bd.bytes
  have hml : c.maxLocals = 3 := hml0
  have hown : s.vm.findClass "com/example/melog/melog/model/TimestampedOffset" = some m.cls := findClass_of_methodNamed Bd.named
  have hnm := (name_of_methodNamed Bd.named Bd.method).1
  have X0 : Stand p l e ({ frames := 0, cells := 0, slots := 0, locals := 0 } : Room) s m #[(.ref ob0), (.ref ob1)] below meth c s₁ [] 0 0 := Stand.of_body Bd
  have e0 : s₁.heap = h0 := by rw [← hh, Bd.state]; rfl
  have N0 := Fr.nil n0
  have pre0 : ∀ t, Steps p.tables e below (s₁.setTop (mkF m 0 #[.val (.ref ob0), .val (.ref ob1), .unset] [])) t → Steps p.tables e below (s₁.setTop (entryFrame m #[(.ref ob0), (.ref ob1)] 3)) t := fun t k => castTop (ef35 m ob0 ob1) k
  obtain ⟨S_w_cache, Ar_w_cache, Sz_w_cache, AL_w_cache, -⟩ := id HW
  obtain ⟨T1, X1, e1, st1⟩ := instY X0 hx hZ hown (hw _ (List.mem_of_getElem? (i := 18) rfl)) e0 (Ins.self PE_ob1) (g := (mkF m 1 #[.val (.ref ob0), .val (.ref ob1), .unset] [(.ref ob1)])) rfl rfl (hb hby d3_1)
  obtain ⟨T2, X2, e2, st2⟩ := castY X1 hx hZ hown (hw _ (List.mem_of_getElem? (i := 18) rfl)) e1 (Ins.self PE_ob1) (g := (mkF m 8 #[.val (.ref ob0), .val (.ref ob1), .unset] [(.ref ob1)])) rfl rfl (hb hby d3_8)
  obtain ⟨T3, X3, e3, st3⟩ := getF X2 hx hZ hown (host := "") (Or.inl (hw _ (List.mem_of_getElem? (i := 9) rfl))) Via.refl e2 PF_ob1_offset (g := (mkF m 13 #[.val (.ref ob0), .val (.ref ob1), .val (.ref ob1)] [(.ref ob1)])) rfl rfl (hb hby d3_13)
  obtain ⟨T4, X4, e4, st4⟩ := getF X3 hx hZ hown (host := "") (Or.inl (hw _ (List.mem_of_getElem? (i := 9) rfl))) Via.refl e3 PF_ob0_offset (g := (mkF m 17 #[.val (.ref ob0), .val (.ref ob1), .val (.ref ob1)] [(.ref ob0), (.long q0)])) rfl rfl (hb hby d3_17)
  obtain ⟨T5, X5, e5, st5⟩ := getF X4 hx hZ hown (host := "") (Or.inl (hw _ (List.mem_of_getElem? (i := 11) rfl))) Via.refl e4 PF_ob1_timestamp (g := (mkF m 25 #[.val (.ref ob0), .val (.ref ob1), .val (.ref ob1)] [(.ref ob1)])) rfl rfl (hb hby d3_25)
  obtain ⟨T6, X6, e6, st6⟩ := getF X5 hx hZ hown (host := "") (Or.inl (hw _ (List.mem_of_getElem? (i := 11) rfl))) Via.refl e5 PF_ob0_timestamp (g := (mkF m 29 #[.val (.ref ob0), .val (.ref ob1), .val (.ref ob1)] [(.ref ob0), (.long q1)])) rfl rfl (hb hby d3_29)
  obtain ⟨fs, hr, hrun, hended, hW, hsame⟩ := X6.leave (v := some (.int (1 : Int32))) (fun h => by rw [Bd.returns] at h; cases h)
  refine ⟨_, _, pre0 _ ?_, hrun, hended, _, _, rfl, ?_, ⟨_, rfl⟩, hW, hsame.mono (by decide) (by decide)⟩
  · show Steps p.tables e below (s₁.setTop (mkF m 0 #[.val (.ref ob0), .val (.ref ob1), .unset] [])) _
    refine XS.aloadN X0.here hx rfl (hb hby d3_0) rfl rfl ?_
    show Steps p.tables e below (s₁.setTop (mkF m 1 #[.val (.ref ob0), .val (.ref ob1), .unset] [(.ref ob1)])) _
    refine st1 _ ?_
    show Steps p.tables e below (T1.setTop (mkF m 4 #[.val (.ref ob0), .val (.ref ob1), .unset] [(.int (1 : Int32))])) _
    refine XS.ifNo X1.here hx rfl (hb hby d3_4) rfl ((if0 _ _).trans (feq (by decide : ¬ ((1 : Int32) = (0 : Int32)))).1) ?_
    show Steps p.tables e below (T1.setTop (mkF m 7 #[.val (.ref ob0), .val (.ref ob1), .unset] [])) _
    refine XS.aloadN X1.here hx rfl (hb hby d3_7) rfl rfl ?_
    show Steps p.tables e below (T1.setTop (mkF m 8 #[.val (.ref ob0), .val (.ref ob1), .unset] [(.ref ob1)])) _
    refine st2 _ ?_
    show Steps p.tables e below (T2.setTop (mkF m 11 #[.val (.ref ob0), .val (.ref ob1), .unset] [(.ref ob1)])) _
    refine XS.astoreN X2.here hx rfl (hb hby d3_11) rfl rfl (l' := #[.val (.ref ob0), .val (.ref ob1), .val (.ref ob1)]) rfl ?_
    show Steps p.tables e below (T2.setTop (mkF m 12 #[.val (.ref ob0), .val (.ref ob1), .val (.ref ob1)] [])) _
    refine XS.aloadN X2.here hx rfl (hb hby d3_12) rfl rfl ?_
    show Steps p.tables e below (T2.setTop (mkF m 13 #[.val (.ref ob0), .val (.ref ob1), .val (.ref ob1)] [(.ref ob1)])) _
    refine st3 _ ?_
    show Steps p.tables e below (T3.setTop (mkF m 16 #[.val (.ref ob0), .val (.ref ob1), .val (.ref ob1)] [(.long q0)])) _
    refine XS.aloadN X3.here hx rfl (hb hby d3_16) rfl rfl ?_
    show Steps p.tables e below (T3.setTop (mkF m 17 #[.val (.ref ob0), .val (.ref ob1), .val (.ref ob1)] [(.ref ob0), (.long q0)])) _
    refine st4 _ ?_
    show Steps p.tables e below (T4.setTop (mkF m 20 #[.val (.ref ob0), .val (.ref ob1), .val (.ref ob1)] [(.long q0), (.long q0)])) _
    refine XS.lcmp X4.here hx rfl (hb hby d3_20) rfl ?_
    show Steps p.tables e below (T4.setTop (mkF m 21 #[.val (.ref ob0), .val (.ref ob1), .val (.ref ob1)] [(.int (lcmpW q0 q0))])) _
    refine XS.ifNo X4.here hx rfl (hb hby d3_21) rfl ((if0 _ _).trans (teq ((lw_eq q0 q0).mpr (rfl : q0 = q0))).2) ?_
    show Steps p.tables e below (T4.setTop (mkF m 24 #[.val (.ref ob0), .val (.ref ob1), .val (.ref ob1)] [])) _
    refine XS.aloadN X4.here hx rfl (hb hby d3_24) rfl rfl ?_
    show Steps p.tables e below (T4.setTop (mkF m 25 #[.val (.ref ob0), .val (.ref ob1), .val (.ref ob1)] [(.ref ob1)])) _
    refine st5 _ ?_
    show Steps p.tables e below (T5.setTop (mkF m 28 #[.val (.ref ob0), .val (.ref ob1), .val (.ref ob1)] [(.long q1)])) _
    refine XS.aloadN X5.here hx rfl (hb hby d3_28) rfl rfl ?_
    show Steps p.tables e below (T5.setTop (mkF m 29 #[.val (.ref ob0), .val (.ref ob1), .val (.ref ob1)] [(.ref ob0), (.long q1)])) _
    refine st6 _ ?_
    show Steps p.tables e below (T6.setTop (mkF m 32 #[.val (.ref ob0), .val (.ref ob1), .val (.ref ob1)] [(.long q1), (.long q1)])) _
    refine XS.lcmp X6.here hx rfl (hb hby d3_32) rfl ?_
    show Steps p.tables e below (T6.setTop (mkF m 33 #[.val (.ref ob0), .val (.ref ob1), .val (.ref ob1)] [(.int (lcmpW q1 q1))])) _
    refine XS.ifNo X6.here hx rfl (hb hby d3_33) rfl ((if0 _ _).trans (teq ((lw_eq q1 q1).mpr (rfl : q1 = q1))).2) ?_
    show Steps p.tables e below (T6.setTop (mkF m 36 #[.val (.ref ob0), .val (.ref ob1), .val (.ref ob1)] [])) _
    refine XS.iconst X6.here hx rfl (hb hby d3_36) ?_
    show Steps p.tables e below (T6.setTop (mkF m 37 #[.val (.ref ob0), .val (.ref ob1), .val (.ref ob1)] [(.int (1 : Int32))])) _
    refine XS.goto X6.here hx rfl (pc0 := 37) (pc' := 41) rfl (hb hby d3_37) (by decide) (by decide) ?_
    show Steps p.tables e below (T6.setTop (mkF m 41 #[.val (.ref ob0), .val (.ref ob1), .val (.ref ob1)] [(.int (1 : Int32))])) _
    exact retN X6 hx (t := .boolean) Bd.returns (by simp) (hb hby d3_41) hr
  · exact ⟨rfl, N0, e6⟩
theorem ef46 (m : MethodId) (x0 : Addr) : entryFrame m #[(.ref x0), .null] 3 = mkF m 0 #[.val (.ref x0), .val .null, .unset] [] := by first | (simp [entryFrame, mkF, argsToLocals, Value.category]; done) | rfl
def Q3_9 (Z : State) (w_cache : Addr) (cl_w_cache : Cell) (ob0 : Addr) (q0 : Int64) (q1 : Int64) (h0 : Heap) (n0 : Nat) (v : Option Value) (h : Heap) (L : List Loc) : Prop := v = some (.int (0 : Int32)) ∧ Fr n0 L ∧ h = h0
set_option maxRecDepth 65536 in
set_option maxHeartbeats 40000000 in
theorem rm3_9 (l : Launch) (Z : State) (a0 : Array Value) (hw : ∀ d ∈ tables_1, d.before a0 Z = true) (ws : List Jvm.Cond) (w_cache : Addr) (cl_w_cache : Cell) (ob0 : Addr) (q0 : Int64) (q1 : Int64) (h0 : Heap) (n0 : Nat) (Z0 : n0 ≤ h0.size) (O0 : Old Z n0 h0) (HW : World Z w_cache cl_w_cache) (PE_ob0 : Exa Z h0 ob0 "com/example/melog/melog/model/TimestampedOffset") (PF_ob0_offset : Fld Z h0 ob0 "com/example/melog/melog/model/TimestampedOffset" "offset" "J" (.long q0)) (PF_ob0_timestamp : Fld Z h0 ob0 "com/example/melog/melog/model/TimestampedOffset" "timestamp" "J" (.long q1)) :
    MetFree l (⟨"com/example/melog/melog/model/TimestampedOffset", "equals", "(Ljava/lang/Object;)Z"⟩ : MethodName) (head1 (Jvm.Cond.code (⟨"com/example/melog/melog/model/TimestampedOffset", "equals", "(Ljava/lang/Object;)Z"⟩ : MethodName) prog_7_method_4_code 3 (some .boolean) :: ws) ({ frames := 0, cells := 0, slots := 0, locals := 0 } : Room)) (fun a U => a = #[(.ref ob0), .null] ∧ Z.Warmed39 U.vm ∧ U.heap = h0) (fun _ _ _ _ _ => True) (fun _ U o U' => ∃ v L, o = .returned v ∧ Q3_9 Z w_cache cl_w_cache ob0 q0 q1 h0 n0 v U'.heap L ∧ FrameEnd U o U' L ({ frames := 0, cells := 0, slots := 0, locals := 0 } : Room).cells ({ frames := 0, cells := 0, slots := 0, locals := 0 } : Room).slots) := by
  refine MetFree.of_bodySF (plainFor_of_name pn11) hisR ?_
  intro p e s m args below meth c s₁ Bd hml0 hP hK
  obtain ⟨rfl, hZ, hh⟩ := hP
  have hx := Bd.exec
  have hby := Bd.bytes
  have hml : c.maxLocals = 3 := hml0
  have hown : s.vm.findClass "com/example/melog/melog/model/TimestampedOffset" = some m.cls := findClass_of_methodNamed Bd.named
  have hnm := (name_of_methodNamed Bd.named Bd.method).1
  have X0 : Stand p l e ({ frames := 0, cells := 0, slots := 0, locals := 0 } : Room) s m #[(.ref ob0), .null] below meth c s₁ [] 0 0 := Stand.of_body Bd
  have e0 : s₁.heap = h0 := by rw [← hh, Bd.state]; rfl
  have N0 := Fr.nil n0
  have pre0 : ∀ t, Steps p.tables e below (s₁.setTop (mkF m 0 #[.val (.ref ob0), .val .null, .unset] [])) t → Steps p.tables e below (s₁.setTop (entryFrame m #[(.ref ob0), .null] 3)) t := fun t k => castTop (ef46 m ob0) k
  obtain ⟨S_w_cache, Ar_w_cache, Sz_w_cache, AL_w_cache, -⟩ := id HW
  obtain ⟨fs, hr, hrun, hended, hW, hsame⟩ := X0.leave (v := some (.int (0 : Int32))) (fun h => by rw [Bd.returns] at h; cases h)
  refine ⟨_, _, pre0 _ ?_, hrun, hended, _, _, rfl, ?_, ⟨_, rfl⟩, hW, hsame.mono (by decide) (by decide)⟩
  · show Steps p.tables e below (s₁.setTop (mkF m 0 #[.val (.ref ob0), .val .null, .unset] [])) _
    refine XS.aloadN X0.here hx rfl (hb hby d3_0) rfl rfl ?_
    show Steps p.tables e below (s₁.setTop (mkF m 1 #[.val (.ref ob0), .val .null, .unset] [.null])) _
    refine X0.instanceofNull hx (g := (mkF m 1 #[.val (.ref ob0), .val .null, .unset] [.null])) rfl rfl (hb hby d3_1) _ ?_
    show Steps p.tables e below (s₁.setTop (mkF m 4 #[.val (.ref ob0), .val .null, .unset] [(.int (0 : Int32))])) _
    refine XS.ifYes X0.here hx rfl (pc0 := 4) (pc' := 40) rfl (hb hby d3_4) rfl ((if0 _ _).trans (teq (by decide : (0 : Int32) = (0 : Int32))).1) (by decide) (by decide) ?_
    show Steps p.tables e below (s₁.setTop (mkF m 40 #[.val (.ref ob0), .val .null, .unset] [])) _
    refine XS.iconst X0.here hx rfl (hb hby d3_40) ?_
    show Steps p.tables e below (s₁.setTop (mkF m 41 #[.val (.ref ob0), .val .null, .unset] [(.int (0 : Int32))])) _
    exact retN X0 hx (t := .boolean) Bd.returns (by simp) (hb hby d3_41) hr
  · exact ⟨rfl, N0, e0⟩
theorem d4_0 : decode jdk_35_method_24_code 0 = .ok (.sipush 128, 3) := by decide +kernel
theorem d4_3 : decode jdk_35_method_24_code 3 = .ok (.istore_n 2, 1) := by decide +kernel
theorem d4_4 : decode jdk_35_method_24_code 4 = .ok (.lload_n 0, 1) := by decide +kernel
theorem d4_5 : decode jdk_35_method_24_code 5 = .ok (.ldc2_w 230, 3) := by decide +kernel
theorem d4_8 : decode jdk_35_method_24_code 8 = .ok (.lcmp, 1) := by decide +kernel
theorem d4_9 : decode jdk_35_method_24_code 9 = .ok (.ifCond .lt 22, 3) := by decide +kernel
theorem d4_31 : decode jdk_35_method_24_code 31 = .ok (.new 1, 3) := by decide +kernel
theorem d4_34 : decode jdk_35_method_24_code 34 = .ok (.dup, 1) := by decide +kernel
theorem d4_35 : decode jdk_35_method_24_code 35 = .ok (.lload_n 0, 1) := by decide +kernel
theorem d5_0 : decode jdk_35_method_26_code 0 = .ok (.aload_n 0, 1) := by decide +kernel
theorem d6_0 : decode jdk_18_method_1_code 0 = .ok (.aload_n 0, 1) := by decide +kernel
theorem d6_1 : decode jdk_18_method_1_code 1 = .ok (.invokespecial 1, 3) := by decide +kernel
theorem d6_4 : decode jdk_18_method_1_code 4 = .ok (.return_, 1) := by decide +kernel
theorem ef61 (m : MethodId) (x0 : Addr) : entryFrame m #[(.ref x0)] 1 = mkF m 0 #[.val (.ref x0)] [] := by first | (simp [entryFrame, mkF, argsToLocals, Value.category]; done) | rfl
theorem pn62 : plainName "java/lang/Number" = true := by first | (simp [plainName, overriddenIn]; done) | decide +kernel
def Q6_10 (Z : State) (w_cache : Addr) (cl_w_cache : Cell) (ob0 : Addr) (h0 : Heap) (n0 : Nat) (v : Option Value) (h : Heap) (L : List Loc) : Prop := v = none ∧ Fr n0 L ∧ h = h0
set_option maxRecDepth 65536 in
set_option maxHeartbeats 40000000 in
theorem rm6_10 (l : Launch) (Z : State) (a0 : Array Value) (hw : ∀ d ∈ tables_1, d.before a0 Z = true) (ws : List Jvm.Cond) (w_cache : Addr) (cl_w_cache : Cell) (ob0 : Addr) (h0 : Heap) (n0 : Nat) (Z0 : n0 ≤ h0.size) (O0 : Old Z n0 h0) (HW : World Z w_cache cl_w_cache) (PE_ob0 : Exa Z h0 ob0 "java/lang/Long") (PF_ob0_value : Fld Z h0 ob0 "java/lang/Long" "value" "J" (.long (0 : Int64))) :
    MetFree l (⟨"java/lang/Number", "<init>", "()V"⟩ : MethodName) (head1 (Jvm.Cond.code (⟨"java/lang/Number", "<init>", "()V"⟩ : MethodName) jdk_18_method_1_code 1 none :: ws) ({ frames := 1, cells := 0, slots := 0, locals := 12 } : Room)) (fun a U => a = #[(.ref ob0)] ∧ Z.Warmed39 U.vm ∧ U.heap = h0) (fun _ _ _ _ _ => True) (fun _ U o U' => ∃ v L, o = .returned v ∧ Q6_10 Z w_cache cl_w_cache ob0 h0 n0 v U'.heap L ∧ FrameEnd U o U' L ({ frames := 1, cells := 0, slots := 0, locals := 12 } : Room).cells ({ frames := 1, cells := 0, slots := 0, locals := 12 } : Room).slots) := by
  refine MetFree.of_bodySF (plainFor_of_name pn62) hisR ?_
  intro p e s m args below meth c s₁ Bd hml0 hP hK
  obtain ⟨rfl, hZ, hh⟩ := hP
  have hx := Bd.exec
  have hby := Bd.bytes
  have hml : c.maxLocals = 1 := hml0
  have hown : s.vm.findClass "java/lang/Number" = some m.cls := findClass_of_methodNamed Bd.named
  have hnm := (name_of_methodNamed Bd.named Bd.method).1
  have X0 : Stand p l e ({ frames := 1, cells := 0, slots := 0, locals := 12 } : Room) s m #[(.ref ob0)] below meth c s₁ [] 0 0 := Stand.of_body Bd
  have e0 : s₁.heap = h0 := by rw [← hh, Bd.state]; rfl
  have N0 := Fr.nil n0
  have pre0 : ∀ t, Steps p.tables e below (s₁.setTop (mkF m 0 #[.val (.ref ob0)] [])) t → Steps p.tables e below (s₁.setTop (entryFrame m #[(.ref ob0)] 1)) t := fun t k => castTop (ef61 m ob0) k
  obtain ⟨S_w_cache, Ar_w_cache, Sz_w_cache, AL_w_cache, -⟩ := id HW
  obtain ⟨T1, X1, e1, st1⟩ := initO X0 hx hZ hown (hw _ (List.mem_of_getElem? (i := 38) rfl)) (hw _ (List.mem_of_getElem? (i := 7) rfl)) (hw _ (List.mem_of_getElem? (i := 8) rfl)) e0 (g := (mkF m 1 #[.val (.ref ob0)] [(.ref ob0)])) rfl (by rw [hml]; rfl) rfl (hb hby d6_1) (by decide) (W := 0) (by show 2 * 0 + _ ≤ _; exact Nat.le_of_eq rfl) (by decide)
  obtain ⟨fs, hr, hrun, hended, hW, hsame⟩ := X1.leave (v := none) (fun _ => rfl)
  refine ⟨_, _, pre0 _ ?_, hrun, hended, _, _, rfl, ?_, ⟨_, rfl⟩, hW, hsame.mono (by decide) (by decide)⟩
  · show Steps p.tables e below (s₁.setTop (mkF m 0 #[.val (.ref ob0)] [])) _
    refine XS.aloadN X0.here hx rfl (hb hby d6_0) rfl rfl ?_
    show Steps p.tables e below (s₁.setTop (mkF m 1 #[.val (.ref ob0)] [(.ref ob0)])) _
    refine st1 _ ?_
    show Steps p.tables e below (T1.setTop (mkF m 4 #[.val (.ref ob0)] [])) _
    exact X1.returnOut hx Bd.returns (hb hby d6_4) hr
  · exact ⟨rfl, N0, e1⟩
theorem pd63 : parseMethodDescriptor "()V" = some ⟨[], none⟩ := by decide +kernel
theorem d5_1 : decode jdk_35_method_26_code 1 = .ok (.invokespecial 270, 3) := by decide +kernel
theorem d5_4 : decode jdk_35_method_26_code 4 = .ok (.aload_n 0, 1) := by decide +kernel
theorem d5_5 : decode jdk_35_method_26_code 5 = .ok (.lload_n 1, 1) := by decide +kernel
theorem d5_6 : decode jdk_35_method_26_code 6 = .ok (.putfield 273, 3) := by decide +kernel
theorem d5_9 : decode jdk_35_method_26_code 9 = .ok (.return_, 1) := by decide +kernel
theorem ef70 (m : MethodId) (x0 : Addr) (x1 : Int64) : entryFrame m #[(.ref x0), (.long x1)] 3 = mkF m 0 #[.val (.ref x0), .val (.long x1), .second] [] := by first | (simp [entryFrame, mkF, argsToLocals, Value.category]; done) | rfl
theorem pn71 : plainName "java/lang/Long" = true := by first | (simp [plainName, overriddenIn]; done) | decide +kernel
def Q5_11 (Z : State) (w_cache : Addr) (cl_w_cache : Cell) (ob0 : Addr) (q0 : Int64) (h0 : Heap) (n0 : Nat) (v : Option Value) (h : Heap) (L : List Loc) : Prop := v = none ∧ Fr n0 L ∧ Keep h0 h [ob0] ∧ Old Z n0 h ∧ Exa Z h ob0 "java/lang/Long" ∧ Fld Z h ob0 "java/lang/Long" "value" "J" (.long q0) ∧ True
set_option maxRecDepth 65536 in
set_option maxHeartbeats 40000000 in
theorem rm5_11 (l : Launch) (Z : State) (a0 : Array Value) (hw : ∀ d ∈ tables_1, d.before a0 Z = true) (ws : List Jvm.Cond) (w_cache : Addr) (cl_w_cache : Cell) (ob0 : Addr) (q0 : Int64) (h0 : Heap) (n0 : Nat) (Z0 : n0 ≤ h0.size) (O0 : Old Z n0 h0) (HW : World Z w_cache cl_w_cache) (PE_ob0 : Exa Z h0 ob0 "java/lang/Long") (PF_ob0_value : Fld Z h0 ob0 "java/lang/Long" "value" "J" (.long (0 : Int64))) (g_ob0 : n0 ≤ ob0) :
    MetFree l (⟨"java/lang/Long", "<init>", "(J)V"⟩ : MethodName) (head1 (Jvm.Cond.code (⟨"java/lang/Long", "<init>", "(J)V"⟩ : MethodName) jdk_35_method_26_code 3 none :: ws) ({ frames := 2, cells := 0, slots := 0, locals := 24 } : Room)) (fun a U => a = #[(.ref ob0), (.long q0)] ∧ Z.Warmed39 U.vm ∧ U.heap = h0) (fun _ _ _ _ _ => True) (fun _ U o U' => ∃ v L, o = .returned v ∧ Q5_11 Z w_cache cl_w_cache ob0 q0 h0 n0 v U'.heap L ∧ FrameEnd U o U' L ({ frames := 2, cells := 0, slots := 0, locals := 24 } : Room).cells ({ frames := 2, cells := 0, slots := 0, locals := 24 } : Room).slots) := by
  refine MetFree.of_bodySF (plainFor_of_name pn71) hisR ?_
  intro p e s m args below meth c s₁ Bd hml0 hP hK
  obtain ⟨rfl, hZ, hh⟩ := hP
  have hx := Bd.exec
  have hby := Bd.bytes
  have hml : c.maxLocals = 3 := hml0
  have hown : s.vm.findClass "java/lang/Long" = some m.cls := findClass_of_methodNamed Bd.named
  have hnm := (name_of_methodNamed Bd.named Bd.method).1
  have X0 : Stand p l e ({ frames := 2, cells := 0, slots := 0, locals := 24 } : Room) s m #[(.ref ob0), (.long q0)] below meth c s₁ [] 0 0 := Stand.of_body Bd
  have e0 : s₁.heap = h0 := by rw [← hh, Bd.state]; rfl
  have N0 := Fr.nil n0
  have pre0 : ∀ t, Steps p.tables e below (s₁.setTop (mkF m 0 #[.val (.ref ob0), .val (.long q0), .second] [])) t → Steps p.tables e below (s₁.setTop (entryFrame m #[(.ref ob0), (.long q0)] 3)) t := fun t k => castTop (ef70 m ob0 q0) k
  obtain ⟨S_w_cache, Ar_w_cache, Sz_w_cache, AL_w_cache, -⟩ := id HW
  obtain ⟨_, _, ⟨T1, L1, k1, n1⟩, -, X1, ⟨Lc1, hQ1, l1, y1, z1⟩, st1⟩ := X0.specialBack hx (y := (⟨"java/lang/Number", "<init>", "()V"⟩ : MethodName)) rfl hown (mvT hZ (hw _ (List.mem_of_getElem? (i := 32) rfl))) (mvT hZ (hw _ (List.mem_of_getElem? (i := 33) rfl))) (mvT hZ (hw _ (List.mem_of_getElem? (i := 37) rfl))) (by decide) (backOf (W := 0) (rm6_10 l Z a0 hw [] w_cache cl_w_cache ob0 h0 n0 (own_n0 O0) O0 HW PE_ob0 PF_ob0_value) hZ (hw _ (List.mem_of_getElem? (i := 37) rfl)) (hw _ (List.mem_of_getElem? (i := 36) rfl)) (by decide) (by decide)) (g := (mkF m 1 #[.val (.ref ob0), .val (.long q0), .second] [(.ref ob0)])) rfl (by rw [hml]; rfl) (Steps.refl _) (a := ob0) (argsL := []) (rest := []) (lenOf pd63 rfl) rfl (by show 2 * 0 + _ ≤ _; exact Nat.le_of_eq rfl) (hb hby d5_1) (fun _ _ => ⟨rfl, e0, (by decide : 0 + 0 ≤ _), (by decide : 0 + 0 ≤ _)⟩)
  dsimp only [Pt.U, Pt.locs, Pt.cells, Pt.slots] at X1 l1 y1 z1 st1 hQ1
  subst l1 y1 z1
  obtain ⟨rfl, N1q, e1⟩ := hQ1
  have N1 := Fr.app N0 N1q
  obtain ⟨T2, h2, X2, e2, W2, st2⟩ := putF X1 hx hZ hown (host := "") (Or.inl (hw _ (List.mem_of_getElem? (i := 39) rfl))) Via.refl e1 PF_ob0_value PE_ob0 (Or.inr ⟨(hw _ (List.mem_of_getElem? (i := 40) rfl)), rfl, hnm⟩) (hw _ (List.mem_of_getElem? (i := 27) rfl)) (ty := .long) (by decide) rfl rfl (g := (mkF m 6 #[.val (.ref ob0), .val (.long q0), .second] [(.long q0), (.ref ob0)])) rfl rfl (hb hby d5_6)
  have Fw2 := PF_ob0_value.same W2
  have N2 := Fr.snoc X2 N1 g_ob0
  have O2 := O0.wr W2 g_ob0
  have KK2 : Keep h0 h2 [ob0] := (Keep.refl h0 [ob0]).wr W2 (Or.inl (List.mem_of_getElem? (i := 0) rfl))
  obtain ⟨fs, hr, hrun, hended, hW, hsame⟩ := X2.leave (v := none) (fun _ => rfl)
  refine ⟨_, _, pre0 _ ?_, hrun, hended, _, _, rfl, ?_, ⟨_, rfl⟩, hW, hsame.mono (by decide) (by decide)⟩
  · show Steps p.tables e below (s₁.setTop (mkF m 0 #[.val (.ref ob0), .val (.long q0), .second] [])) _
    refine XS.aloadN X0.here hx rfl (hb hby d5_0) rfl rfl ?_
    show Steps p.tables e below (s₁.setTop (mkF m 1 #[.val (.ref ob0), .val (.long q0), .second] [(.ref ob0)])) _
    refine st1.trans ?_
    show Steps p.tables e below (T1.setTop (mkF m 4 #[.val (.ref ob0), .val (.long q0), .second] [])) _
    refine XS.aloadN X1.here hx rfl (hb hby d5_4) rfl rfl ?_
    show Steps p.tables e below (T1.setTop (mkF m 5 #[.val (.ref ob0), .val (.long q0), .second] [(.ref ob0)])) _
    refine XS.lloadN X1.here hx rfl (hb hby d5_5) rfl ?_
    show Steps p.tables e below (T1.setTop (mkF m 6 #[.val (.ref ob0), .val (.long q0), .second] [(.long q0), (.ref ob0)])) _
    refine st2 _ ?_
    show Steps p.tables e below (T2.setTop (mkF m 9 #[.val (.ref ob0), .val (.long q0), .second] [])) _
    exact X2.returnOut hx Bd.returns (hb hby d5_9) hr
  · have eH : (T2.setFrames fs).heap = h2 := e2; rw [eH]; exact ⟨rfl, N2, KK2, O2, (PE_ob0.wr W2), Fw2, trivial⟩
theorem pd72 : parseMethodDescriptor "(J)V" = some ⟨[.long], none⟩ := by decide +kernel
theorem d4_36 : decode jdk_35_method_24_code 36 = .ok (.invokespecial 240, 3) := by decide +kernel
theorem d4_39 : decode jdk_35_method_24_code 39 = .ok (.areturn, 1) := by decide +kernel
theorem ef76 (m : MethodId) (x0 : Int64) : entryFrame m #[(.long x0)] 3 = mkF m 0 #[.val (.long x0), .second, .unset] [] := by first | (simp [entryFrame, mkF, argsToLocals, Value.category]; done) | rfl
def Q4_12 (Z : State) (w_cache : Addr) (cl_w_cache : Cell) (q0 : Int64) (h0 : Heap) (n0 : Nat) (v : Option Value) (h : Heap) (L : List Loc) : Prop := ∃ b1 : Addr, v = some (.ref b1) ∧ Fr n0 L ∧ Keep h0 h [] ∧ Old Z n0 h ∧ h0.size ≤ b1 ∧ Exa Z h b1 "java/lang/Long" ∧ Fld Z h b1 "java/lang/Long" "value" "J" (.long q0) ∧ True
set_option maxRecDepth 65536 in
set_option maxHeartbeats 40000000 in
theorem rm4_12 (l : Launch) (Z : State) (a0 : Array Value) (hw : ∀ d ∈ tables_1, d.before a0 Z = true) (ws : List Jvm.Cond) (w_cache : Addr) (cl_w_cache : Cell) (q0 : Int64) (h0 : Heap) (n0 : Nat) (Z0 : n0 ≤ h0.size) (O0 : Old Z n0 h0) (HW : World Z w_cache cl_w_cache) (hd0 : q0 < (-128 : Int64)) :
    MetFree l (⟨"java/lang/Long", "valueOf", "(J)Ljava/lang/Long;"⟩ : MethodName) (head1 (Jvm.Cond.code (⟨"java/lang/Long", "valueOf", "(J)Ljava/lang/Long;"⟩ : MethodName) jdk_35_method_24_code 3 (some (.object "java/lang/Long")) :: ws) ({ frames := 3, cells := 1, slots := 1, locals := 39 } : Room)) (fun a U => a = #[(.long q0)] ∧ Z.Warmed39 U.vm ∧ U.heap = h0) (fun _ _ _ _ _ => True) (fun _ U o U' => ∃ v L, o = .returned v ∧ Q4_12 Z w_cache cl_w_cache q0 h0 n0 v U'.heap L ∧ FrameEnd U o U' L ({ frames := 3, cells := 1, slots := 1, locals := 39 } : Room).cells ({ frames := 3, cells := 1, slots := 1, locals := 39 } : Room).slots) := by
  refine MetFree.of_bodySF (plainFor_of_name pn71) hisR ?_
  intro p e s m args below meth c s₁ Bd hml0 hP hK
  obtain ⟨rfl, hZ, hh⟩ := hP
  have hx := Bd.exec
  have hby := Bd.bytes
  have hml : c.maxLocals = 3 := hml0
  have hown : s.vm.findClass "java/lang/Long" = some m.cls := findClass_of_methodNamed Bd.named
  have hnm := (name_of_methodNamed Bd.named Bd.method).1
  have X0 : Stand p l e ({ frames := 3, cells := 1, slots := 1, locals := 39 } : Room) s m #[(.long q0)] below meth c s₁ [] 0 0 := Stand.of_body Bd
  have e0 : s₁.heap = h0 := by rw [← hh, Bd.state]; rfl
  have N0 := Fr.nil n0
  have pre0 : ∀ t, Steps p.tables e below (s₁.setTop (mkF m 0 #[.val (.long q0), .second, .unset] [])) t → Steps p.tables e below (s₁.setTop (entryFrame m #[(.long q0)] 3)) t := fun t k => castTop (ef76 m q0) k
  obtain ⟨S_w_cache, Ar_w_cache, Sz_w_cache, AL_w_cache, -⟩ := id HW
  obtain ⟨T1, h1, X1, e1, E1, A1, D1, -, st1⟩ := newO X0 hx hZ hown (hw _ (List.mem_of_getElem? (i := 26) rfl)) (hw _ (List.mem_of_getElem? (i := 27) rfl)) (hw _ (List.mem_of_getElem? (i := 22) rfl)) e0 (g := (mkF m 31 #[.val (.long q0), .second, .val (.int (128 : Int32))] [])) rfl (hb hby d4_31) (by decide) (by decide)
  obtain ⟨b1, gg1⟩ : ∃ z, z = h0.size := ⟨_, rfl⟩
  rw [← gg1] at A1 D1 st1
  have bo_b1 : h0.size ≤ b1 := Nat.le_of_eq gg1.symm
  have g_b1 : n0 ≤ b1 := Nat.le_trans (own_n0 O0) bo_b1
  have sz_b1 : h0.size ≤ b1 := Nat.le_trans (Keep.refl h0 []).1 bo_b1
  have KK1 : Keep h0 h1 [] := (Keep.refl h0 []).ext E1
  have O1 := O0.ext E1
  have F_value_b1 : Fld Z h1 b1 "java/lang/Long" "value" "J" (.long (0 : Int64)) := D1 (Or.inr (hw _ (List.mem_of_getElem? (i := 40) rfl))) (ty := .long) (by decide)
  obtain ⟨_, _, ⟨T2, L2, k2, n2⟩, -, X2, ⟨Lc2, hQ2, l2, y2, z2⟩, st2⟩ := X1.specialBack hx (y := (⟨"java/lang/Long", "<init>", "(J)V"⟩ : MethodName)) rfl hown (mvT hZ (hw _ (List.mem_of_getElem? (i := 28) rfl))) (mvT hZ (hw _ (List.mem_of_getElem? (i := 29) rfl))) (mvT hZ (hw _ (List.mem_of_getElem? (i := 31) rfl))) (by decide) (backOf (W := 1) (rm5_11 l Z a0 hw [] w_cache cl_w_cache b1 q0 h1 n0 (own_n0 O1) O1 HW A1 F_value_b1 g_b1) hZ (hw _ (List.mem_of_getElem? (i := 31) rfl)) (hw _ (List.mem_of_getElem? (i := 22) rfl)) (by decide) (by decide)) (g := (mkF m 36 #[.val (.long q0), .second, .val (.int (128 : Int32))] [(.long q0), (.ref b1), (.ref b1)])) rfl (by rw [hml]; rfl) (Steps.refl _) (a := b1) (argsL := [(.long q0)]) (rest := [(.ref b1)]) (lenOf pd72 rfl) rfl (by show 2 * 0 + _ ≤ _; exact Nat.le_of_eq rfl) (hb hby d4_36) (fun _ _ => ⟨rfl, e1, (by decide : 1 + 0 ≤ _), (by decide : 1 + 0 ≤ _)⟩)
  dsimp only [Pt.U, Pt.locs, Pt.cells, Pt.slots] at X2 l2 y2 z2 st2 hQ2
  subst l2 y2 z2
  obtain ⟨rfl, N2q, K2, O2, pf2_0, pf2_1, -⟩ := hQ2
  have KK2 : Keep h0 T2.heap [] := KK1.trans K2 (allS (Or.inr sz_b1) all0)
  have N2 := Fr.app N0 N2q
  obtain ⟨fs, hr, hrun, hended, hW, hsame⟩ := X2.leave (v := some (.ref b1)) (fun h => by rw [Bd.returns] at h; cases h)
  refine ⟨_, _, pre0 _ ?_, hrun, hended, _, _, rfl, ?_, ⟨_, rfl⟩, hW, hsame.mono (by decide) (by decide)⟩
  · show Steps p.tables e below (s₁.setTop (mkF m 0 #[.val (.long q0), .second, .unset] [])) _
    refine XS.sipush X0.here hx rfl (hb hby d4_0) ?_
    show Steps p.tables e below (s₁.setTop (mkF m 3 #[.val (.long q0), .second, .unset] [(.int (128 : Int32))])) _
    refine XS.istoreN X0.here hx rfl (hb hby d4_3) rfl (l' := #[.val (.long q0), .second, .val (.int (128 : Int32))]) rfl ?_
    show Steps p.tables e below (s₁.setTop (mkF m 4 #[.val (.long q0), .second, .val (.int (128 : Int32))] [])) _
    refine XS.lloadN X0.here hx rfl (hb hby d4_4) rfl ?_
    show Steps p.tables e below (s₁.setTop (mkF m 5 #[.val (.long q0), .second, .val (.int (128 : Int32))] [(.long q0)])) _
    refine X0.ldc2Long hx hown (mvT hZ (hw _ (List.mem_of_getElem? (i := 24) rfl))) (g := (mkF m 5 #[.val (.long q0), .second, .val (.int (128 : Int32))] [(.long q0)])) rfl (hb hby d4_5) _ ?_
    show Steps p.tables e below (s₁.setTop (mkF m 8 #[.val (.long q0), .second, .val (.int (128 : Int32))] [(.long (-128 : Int64)), (.long q0)])) _
    refine XS.lcmp X0.here hx rfl (hb hby d4_8) rfl ?_
    show Steps p.tables e below (s₁.setTop (mkF m 9 #[.val (.long q0), .second, .val (.int (128 : Int32))] [(.int (lcmpW q0 (-128 : Int64)))])) _
    refine XS.ifYes X0.here hx rfl (pc0 := 9) (pc' := 31) rfl (hb hby d4_9) rfl ((if0 _ _).trans (tlt ((lw_lt q0 (-128 : Int64)).mpr hd0)).1) (by decide) (by decide) ?_
    show Steps p.tables e below (s₁.setTop (mkF m 31 #[.val (.long q0), .second, .val (.int (128 : Int32))] [])) _
    refine st1 _ ?_
    show Steps p.tables e below (T1.setTop (mkF m 34 #[.val (.long q0), .second, .val (.int (128 : Int32))] [(.ref b1)])) _
    refine XS.dup X1.here hx rfl (hb hby d4_34) rfl rfl ?_
    show Steps p.tables e below (T1.setTop (mkF m 35 #[.val (.long q0), .second, .val (.int (128 : Int32))] [(.ref b1), (.ref b1)])) _
    refine XS.lloadN X1.here hx rfl (hb hby d4_35) rfl ?_
    show Steps p.tables e below (T1.setTop (mkF m 36 #[.val (.long q0), .second, .val (.int (128 : Int32))] [(.long q0), (.ref b1), (.ref b1)])) _
    refine st2.trans ?_
    show Steps p.tables e below (T2.setTop (mkF m 39 #[.val (.long q0), .second, .val (.int (128 : Int32))] [(.ref b1)])) _
    jvm_step X2.here [X2.here.top, hx, (hb hby d4_39), X2.method', Bd.returns, Value.isRef, FieldType.isReference]
    first | (intro acts; rw [hr _ acts rfl rfl rfl]) | rw [hr _ _ rfl rfl rfl]
    exact Steps.refl _
  · exact ⟨b1, rfl, N2, KK2, O2, sz_b1, pf2_0, pf2_1, trivial⟩
theorem pd77 : parseMethodDescriptor "(J)Ljava/lang/Long;" = some ⟨[.long], some (.object "java/lang/Long")⟩ := by decide +kernel
theorem own_nsroot {Z : State} {a0 : Array Value} {O K : String} {n : Nat} (w : (Jvm.Cond.noSuperclass O).before a0 Z = true) (wk : (Jvm.Cond.instantiable K n).before a0 Z = true) (hn : O ≠ K) : NS Z O K := by
  obtain ⟨c, k, h1, h2, h3, -, -⟩ := Cond.noSuperclass_spec w
  obtain ⟨t, kt, g1, -⟩ := Cond.instantiable_spec wk
  have ne := ids_ne h1 g1 hn
  refine ⟨c, t, h1, g1, fun fuel => ?_⟩
  cases fuel <;> simp [Vm.isSubclassAux, ne, h2, h3]
theorem own_nsno {Z : State} {a0 : Array Value} {C S K : String} {n : Nat} (w : (Jvm.Cond.superclass C S).before a0 Z = true) (wk : (Jvm.Cond.instantiable K n).before a0 Z = true) (N : NS Z C K) (hn : C ≠ K) : ∃ c t, Z.vm.findClass C = some c ∧ Z.vm.findClass K = some t ∧ Z.vm.assignable c t = false := by
  obtain ⟨c, t, h0, g0, n3⟩ := N
  obtain ⟨p, k, kp, h1, h2, h3, h4, h5, -, h7⟩ := Cond.superclass_spec h0 w
  obtain ⟨t', kt, g1, g2, g3, g4, -⟩ := Cond.instantiable_spec wk
  cases g0.symm.trans g1
  have ne := ids_ne h0 g0 hn
  have g5 : kt.isInterface = false := by revert g4; cases kt.isInterface <;> simp
  refine ⟨c, t, h0, g0, ?_⟩
  show Z.vm.assignableAux (255 + 1) c t = false
  simp [Vm.assignableAux, ne, h2, g2, h5, g3, g5, Vm.isSubclass, n3]
def Q3_13 (Z : State) (w_cache : Addr) (cl_w_cache : Cell) (ob0 : Addr) (ob1 : Addr) (q0 : Int64) (q1 : Int64) (h0 : Heap) (n0 : Nat) (v : Option Value) (h : Heap) (L : List Loc) : Prop := v = some (.int (0 : Int32)) ∧ Fr n0 L ∧ h = h0
set_option maxRecDepth 65536 in
set_option maxHeartbeats 40000000 in
theorem rm3_13 (l : Launch) (Z : State) (a0 : Array Value) (hw : ∀ d ∈ tables_1, d.before a0 Z = true) (ws : List Jvm.Cond) (w_cache : Addr) (cl_w_cache : Cell) (ob0 : Addr) (ob1 : Addr) (q0 : Int64) (q1 : Int64) (h0 : Heap) (n0 : Nat) (Z0 : n0 ≤ h0.size) (O0 : Old Z n0 h0) (HW : World Z w_cache cl_w_cache) (PE_ob0 : Exa Z h0 ob0 "com/example/melog/melog/model/TimestampedOffset") (PF_ob0_offset : Fld Z h0 ob0 "com/example/melog/melog/model/TimestampedOffset" "offset" "J" (.long q0)) (PF_ob0_timestamp : Fld Z h0 ob0 "com/example/melog/melog/model/TimestampedOffset" "timestamp" "J" (.long q1)) (PE_ob1 : Exa Z h0 ob1 "java/lang/Long") (PF_ob1_value : Fld Z h0 ob1 "java/lang/Long" "value" "J" (.long q0)) :
    MetFree l (⟨"com/example/melog/melog/model/TimestampedOffset", "equals", "(Ljava/lang/Object;)Z"⟩ : MethodName) (head1 (Jvm.Cond.code (⟨"com/example/melog/melog/model/TimestampedOffset", "equals", "(Ljava/lang/Object;)Z"⟩ : MethodName) prog_7_method_4_code 3 (some .boolean) :: ws) ({ frames := 0, cells := 0, slots := 0, locals := 0 } : Room)) (fun a U => a = #[(.ref ob0), (.ref ob1)] ∧ Z.Warmed39 U.vm ∧ U.heap = h0) (fun _ _ _ _ _ => True) (fun _ U o U' => ∃ v L, o = .returned v ∧ Q3_13 Z w_cache cl_w_cache ob0 ob1 q0 q1 h0 n0 v U'.heap L ∧ FrameEnd U o U' L ({ frames := 0, cells := 0, slots := 0, locals := 0 } : Room).cells ({ frames := 0, cells := 0, slots := 0, locals := 0 } : Room).slots) := by
  refine MetFree.of_bodySF (plainFor_of_name pn11) hisR ?_
  intro p e s m args below meth c s₁ Bd hml0 hP hK
  obtain ⟨rfl, hZ, hh⟩ := hP
  have hx := Bd.exec
  have hby := Bd.bytes
  have hml : c.maxLocals = 3 := hml0
  have hown : s.vm.findClass "com/example/melog/melog/model/TimestampedOffset" = some m.cls := findClass_of_methodNamed Bd.named
  have hnm := (name_of_methodNamed Bd.named Bd.method).1
  have X0 : Stand p l e ({ frames := 0, cells := 0, slots := 0, locals := 0 } : Room) s m #[(.ref ob0), (.ref ob1)] below meth c s₁ [] 0 0 := Stand.of_body Bd
  have e0 : s₁.heap = h0 := by rw [← hh, Bd.state]; rfl
  have N0 := Fr.nil n0
  have pre0 : ∀ t, Steps p.tables e below (s₁.setTop (mkF m 0 #[.val (.ref ob0), .val (.ref ob1), .unset] [])) t → Steps p.tables e below (s₁.setTop (entryFrame m #[(.ref ob0), (.ref ob1)] 3)) t := fun t k => castTop (ef35 m ob0 ob1) k
  obtain ⟨S_w_cache, Ar_w_cache, Sz_w_cache, AL_w_cache, -⟩ := id HW
  obtain ⟨T1, X1, e1, st1⟩ := instNo X0 hx hZ hown (hw _ (List.mem_of_getElem? (i := 18) rfl)) e0 PE_ob1 (own_nsno (hw _ (List.mem_of_getElem? (i := 41) rfl)) (hw _ (List.mem_of_getElem? (i := 1) rfl)) (NS.step (hw _ (List.mem_of_getElem? (i := 41) rfl)) (NS.step (hw _ (List.mem_of_getElem? (i := 42) rfl)) (own_nsroot (hw _ (List.mem_of_getElem? (i := 43) rfl)) (hw _ (List.mem_of_getElem? (i := 1) rfl)) (by decide)) (by decide)) (by decide)) (by decide)) (g := (mkF m 1 #[.val (.ref ob0), .val (.ref ob1), .unset] [(.ref ob1)])) rfl rfl (hb hby d3_1)
  obtain ⟨fs, hr, hrun, hended, hW, hsame⟩ := X1.leave (v := some (.int (0 : Int32))) (fun h => by rw [Bd.returns] at h; cases h)
  refine ⟨_, _, pre0 _ ?_, hrun, hended, _, _, rfl, ?_, ⟨_, rfl⟩, hW, hsame.mono (by decide) (by decide)⟩
  · show Steps p.tables e below (s₁.setTop (mkF m 0 #[.val (.ref ob0), .val (.ref ob1), .unset] [])) _
    refine XS.aloadN X0.here hx rfl (hb hby d3_0) rfl rfl ?_
    show Steps p.tables e below (s₁.setTop (mkF m 1 #[.val (.ref ob0), .val (.ref ob1), .unset] [(.ref ob1)])) _
    refine st1 _ ?_
    show Steps p.tables e below (T1.setTop (mkF m 4 #[.val (.ref ob0), .val (.ref ob1), .unset] [(.int (0 : Int32))])) _
    refine XS.ifYes X1.here hx rfl (pc0 := 4) (pc' := 40) rfl (hb hby d3_4) rfl ((if0 _ _).trans (teq (by decide : (0 : Int32) = (0 : Int32))).1) (by decide) (by decide) ?_
    show Steps p.tables e below (T1.setTop (mkF m 40 #[.val (.ref ob0), .val (.ref ob1), .unset] [])) _
    refine XS.iconst X1.here hx rfl (hb hby d3_40) ?_
    show Steps p.tables e below (T1.setTop (mkF m 41 #[.val (.ref ob0), .val (.ref ob1), .unset] [(.int (0 : Int32))])) _
    exact retN X1 hx (t := .boolean) Bd.returns (by simp) (hb hby d3_41) hr
  · exact ⟨rfl, N0, e1⟩
theorem d4_12 : decode jdk_35_method_24_code 12 = .ok (.lload_n 0, 1) := by decide +kernel
theorem d4_13 : decode jdk_35_method_24_code 13 = .ok (.ldc2_w 232, 3) := by decide +kernel
theorem d4_16 : decode jdk_35_method_24_code 16 = .ok (.lcmp, 1) := by decide +kernel
theorem d4_17 : decode jdk_35_method_24_code 17 = .ok (.ifCond .gt 14, 3) := by decide +kernel
def Q4_14 (Z : State) (w_cache : Addr) (cl_w_cache : Cell) (q0 : Int64) (h0 : Heap) (n0 : Nat) (v : Option Value) (h : Heap) (L : List Loc) : Prop := ∃ b1 : Addr, v = some (.ref b1) ∧ Fr n0 L ∧ Keep h0 h [] ∧ Old Z n0 h ∧ h0.size ≤ b1 ∧ Exa Z h b1 "java/lang/Long" ∧ Fld Z h b1 "java/lang/Long" "value" "J" (.long q0) ∧ True
set_option maxRecDepth 65536 in
set_option maxHeartbeats 40000000 in
theorem rm4_14 (l : Launch) (Z : State) (a0 : Array Value) (hw : ∀ d ∈ tables_1, d.before a0 Z = true) (ws : List Jvm.Cond) (w_cache : Addr) (cl_w_cache : Cell) (q0 : Int64) (h0 : Heap) (n0 : Nat) (Z0 : n0 ≤ h0.size) (O0 : Old Z n0 h0) (HW : World Z w_cache cl_w_cache) (hd0 : ¬ (q0 < (-128 : Int64))) (hd1 : (127 : Int64) < q0) :
    MetFree l (⟨"java/lang/Long", "valueOf", "(J)Ljava/lang/Long;"⟩ : MethodName) (head1 (Jvm.Cond.code (⟨"java/lang/Long", "valueOf", "(J)Ljava/lang/Long;"⟩ : MethodName) jdk_35_method_24_code 3 (some (.object "java/lang/Long")) :: ws) ({ frames := 3, cells := 1, slots := 1, locals := 39 } : Room)) (fun a U => a = #[(.long q0)] ∧ Z.Warmed39 U.vm ∧ U.heap = h0) (fun _ _ _ _ _ => True) (fun _ U o U' => ∃ v L, o = .returned v ∧ Q4_14 Z w_cache cl_w_cache q0 h0 n0 v U'.heap L ∧ FrameEnd U o U' L ({ frames := 3, cells := 1, slots := 1, locals := 39 } : Room).cells ({ frames := 3, cells := 1, slots := 1, locals := 39 } : Room).slots) := by
  refine MetFree.of_bodySF (plainFor_of_name pn71) hisR ?_
  intro p e s m args below meth c s₁ Bd hml0 hP hK
  obtain ⟨rfl, hZ, hh⟩ := hP
  have hx := Bd.exec
  have hby := Bd.bytes
  have hml : c.maxLocals = 3 := hml0
  have hown : s.vm.findClass "java/lang/Long" = some m.cls := findClass_of_methodNamed Bd.named
  have hnm := (name_of_methodNamed Bd.named Bd.method).1
  have X0 : Stand p l e ({ frames := 3, cells := 1, slots := 1, locals := 39 } : Room) s m #[(.long q0)] below meth c s₁ [] 0 0 := Stand.of_body Bd
  have e0 : s₁.heap = h0 := by rw [← hh, Bd.state]; rfl
  have N0 := Fr.nil n0
  have pre0 : ∀ t, Steps p.tables e below (s₁.setTop (mkF m 0 #[.val (.long q0), .second, .unset] [])) t → Steps p.tables e below (s₁.setTop (entryFrame m #[(.long q0)] 3)) t := fun t k => castTop (ef76 m q0) k
  obtain ⟨S_w_cache, Ar_w_cache, Sz_w_cache, AL_w_cache, -⟩ := id HW
  obtain ⟨T1, h1, X1, e1, E1, A1, D1, -, st1⟩ := newO X0 hx hZ hown (hw _ (List.mem_of_getElem? (i := 26) rfl)) (hw _ (List.mem_of_getElem? (i := 27) rfl)) (hw _ (List.mem_of_getElem? (i := 22) rfl)) e0 (g := (mkF m 31 #[.val (.long q0), .second, .val (.int (128 : Int32))] [])) rfl (hb hby d4_31) (by decide) (by decide)
  obtain ⟨b1, gg1⟩ : ∃ z, z = h0.size := ⟨_, rfl⟩
  rw [← gg1] at A1 D1 st1
  have bo_b1 : h0.size ≤ b1 := Nat.le_of_eq gg1.symm
  have g_b1 : n0 ≤ b1 := Nat.le_trans (own_n0 O0) bo_b1
  have sz_b1 : h0.size ≤ b1 := Nat.le_trans (Keep.refl h0 []).1 bo_b1
  have KK1 : Keep h0 h1 [] := (Keep.refl h0 []).ext E1
  have O1 := O0.ext E1
  have F_value_b1 : Fld Z h1 b1 "java/lang/Long" "value" "J" (.long (0 : Int64)) := D1 (Or.inr (hw _ (List.mem_of_getElem? (i := 40) rfl))) (ty := .long) (by decide)
  obtain ⟨_, _, ⟨T2, L2, k2, n2⟩, -, X2, ⟨Lc2, hQ2, l2, y2, z2⟩, st2⟩ := X1.specialBack hx (y := (⟨"java/lang/Long", "<init>", "(J)V"⟩ : MethodName)) rfl hown (mvT hZ (hw _ (List.mem_of_getElem? (i := 28) rfl))) (mvT hZ (hw _ (List.mem_of_getElem? (i := 29) rfl))) (mvT hZ (hw _ (List.mem_of_getElem? (i := 31) rfl))) (by decide) (backOf (W := 1) (rm5_11 l Z a0 hw [] w_cache cl_w_cache b1 q0 h1 n0 (own_n0 O1) O1 HW A1 F_value_b1 g_b1) hZ (hw _ (List.mem_of_getElem? (i := 31) rfl)) (hw _ (List.mem_of_getElem? (i := 22) rfl)) (by decide) (by decide)) (g := (mkF m 36 #[.val (.long q0), .second, .val (.int (128 : Int32))] [(.long q0), (.ref b1), (.ref b1)])) rfl (by rw [hml]; rfl) (Steps.refl _) (a := b1) (argsL := [(.long q0)]) (rest := [(.ref b1)]) (lenOf pd72 rfl) rfl (by show 2 * 0 + _ ≤ _; exact Nat.le_of_eq rfl) (hb hby d4_36) (fun _ _ => ⟨rfl, e1, (by decide : 1 + 0 ≤ _), (by decide : 1 + 0 ≤ _)⟩)
  dsimp only [Pt.U, Pt.locs, Pt.cells, Pt.slots] at X2 l2 y2 z2 st2 hQ2
  subst l2 y2 z2
  obtain ⟨rfl, N2q, K2, O2, pf2_0, pf2_1, -⟩ := hQ2
  have KK2 : Keep h0 T2.heap [] := KK1.trans K2 (allS (Or.inr sz_b1) all0)
  have N2 := Fr.app N0 N2q
  obtain ⟨fs, hr, hrun, hended, hW, hsame⟩ := X2.leave (v := some (.ref b1)) (fun h => by rw [Bd.returns] at h; cases h)
  refine ⟨_, _, pre0 _ ?_, hrun, hended, _, _, rfl, ?_, ⟨_, rfl⟩, hW, hsame.mono (by decide) (by decide)⟩
  · show Steps p.tables e below (s₁.setTop (mkF m 0 #[.val (.long q0), .second, .unset] [])) _
    refine XS.sipush X0.here hx rfl (hb hby d4_0) ?_
    show Steps p.tables e below (s₁.setTop (mkF m 3 #[.val (.long q0), .second, .unset] [(.int (128 : Int32))])) _
    refine XS.istoreN X0.here hx rfl (hb hby d4_3) rfl (l' := #[.val (.long q0), .second, .val (.int (128 : Int32))]) rfl ?_
    show Steps p.tables e below (s₁.setTop (mkF m 4 #[.val (.long q0), .second, .val (.int (128 : Int32))] [])) _
    refine XS.lloadN X0.here hx rfl (hb hby d4_4) rfl ?_
    show Steps p.tables e below (s₁.setTop (mkF m 5 #[.val (.long q0), .second, .val (.int (128 : Int32))] [(.long q0)])) _
    refine X0.ldc2Long hx hown (mvT hZ (hw _ (List.mem_of_getElem? (i := 24) rfl))) (g := (mkF m 5 #[.val (.long q0), .second, .val (.int (128 : Int32))] [(.long q0)])) rfl (hb hby d4_5) _ ?_
    show Steps p.tables e below (s₁.setTop (mkF m 8 #[.val (.long q0), .second, .val (.int (128 : Int32))] [(.long (-128 : Int64)), (.long q0)])) _
    refine XS.lcmp X0.here hx rfl (hb hby d4_8) rfl ?_
    show Steps p.tables e below (s₁.setTop (mkF m 9 #[.val (.long q0), .second, .val (.int (128 : Int32))] [(.int (lcmpW q0 (-128 : Int64)))])) _
    refine XS.ifNo X0.here hx rfl (hb hby d4_9) rfl ((if0 _ _).trans (flt (fun q => hd0 ((lw_lt q0 (-128 : Int64)).mp q))).1) ?_
    show Steps p.tables e below (s₁.setTop (mkF m 12 #[.val (.long q0), .second, .val (.int (128 : Int32))] [])) _
    refine XS.lloadN X0.here hx rfl (hb hby d4_12) rfl ?_
    show Steps p.tables e below (s₁.setTop (mkF m 13 #[.val (.long q0), .second, .val (.int (128 : Int32))] [(.long q0)])) _
    refine X0.ldc2Long hx hown (mvT hZ (hw _ (List.mem_of_getElem? (i := 25) rfl))) (g := (mkF m 13 #[.val (.long q0), .second, .val (.int (128 : Int32))] [(.long q0)])) rfl (hb hby d4_13) _ ?_
    show Steps p.tables e below (s₁.setTop (mkF m 16 #[.val (.long q0), .second, .val (.int (128 : Int32))] [(.long (127 : Int64)), (.long q0)])) _
    refine XS.lcmp X0.here hx rfl (hb hby d4_16) rfl ?_
    show Steps p.tables e below (s₁.setTop (mkF m 17 #[.val (.long q0), .second, .val (.int (128 : Int32))] [(.int (lcmpW q0 (127 : Int64)))])) _
    refine XS.ifYes X0.here hx rfl (pc0 := 17) (pc' := 31) rfl (hb hby d4_17) rfl ((if0 _ _).trans (tlt ((lw_gt q0 (127 : Int64)).mpr hd1)).2.2.1) (by decide) (by decide) ?_
    show Steps p.tables e below (s₁.setTop (mkF m 31 #[.val (.long q0), .second, .val (.int (128 : Int32))] [])) _
    refine st1 _ ?_
    show Steps p.tables e below (T1.setTop (mkF m 34 #[.val (.long q0), .second, .val (.int (128 : Int32))] [(.ref b1)])) _
    refine XS.dup X1.here hx rfl (hb hby d4_34) rfl rfl ?_
    show Steps p.tables e below (T1.setTop (mkF m 35 #[.val (.long q0), .second, .val (.int (128 : Int32))] [(.ref b1), (.ref b1)])) _
    refine XS.lloadN X1.here hx rfl (hb hby d4_35) rfl ?_
    show Steps p.tables e below (T1.setTop (mkF m 36 #[.val (.long q0), .second, .val (.int (128 : Int32))] [(.long q0), (.ref b1), (.ref b1)])) _
    refine st2.trans ?_
    show Steps p.tables e below (T2.setTop (mkF m 39 #[.val (.long q0), .second, .val (.int (128 : Int32))] [(.ref b1)])) _
    jvm_step X2.here [X2.here.top, hx, (hb hby d4_39), X2.method', Bd.returns, Value.isRef, FieldType.isReference]
    first | (intro acts; rw [hr _ acts rfl rfl rfl]) | rw [hr _ _ rfl rfl rfl]
    exact Steps.refl _
  · exact ⟨b1, rfl, N2, KK2, O2, sz_b1, pf2_0, pf2_1, trivial⟩
theorem d4_20 : decode jdk_35_method_24_code 20 = .ok (.getstatic 234, 3) := by decide +kernel
theorem d4_23 : decode jdk_35_method_24_code 23 = .ok (.lload_n 0, 1) := by decide +kernel
theorem d4_24 : decode jdk_35_method_24_code 24 = .ok (.l2i, 1) := by decide +kernel
theorem d4_25 : decode jdk_35_method_24_code 25 = .ok (.sipush 128, 3) := by decide +kernel
theorem d4_28 : decode jdk_35_method_24_code 28 = .ok (.iadd, 1) := by decide +kernel
theorem d4_29 : decode jdk_35_method_24_code 29 = .ok (.aaload, 1) := by decide +kernel
theorem d4_30 : decode jdk_35_method_24_code 30 = .ok (.areturn, 1) := by decide +kernel
def Q4_15 (Z : State) (w_cache : Addr) (cl_w_cache : Cell) (q0 : Int64) (h0 : Heap) (n0 : Nat) (v : Option Value) (h : Heap) (L : List Loc) : Prop := ∃ o2 : Addr, v = some (.ref o2) ∧ Fr n0 L ∧ h = h0 ∧ Exa Z Z.heap o2 "java/lang/Long"
set_option maxRecDepth 65536 in
set_option maxHeartbeats 40000000 in
theorem rm4_15 (l : Launch) (Z : State) (a0 : Array Value) (hw : ∀ d ∈ tables_1, d.before a0 Z = true) (ws : List Jvm.Cond) (w_cache : Addr) (cl_w_cache : Cell) (q0 : Int64) (h0 : Heap) (n0 : Nat) (Z0 : n0 ≤ h0.size) (O0 : Old Z n0 h0) (HW : World Z w_cache cl_w_cache) (hd0 : ¬ (q0 < (-128 : Int64))) (hd1 : ¬ ((127 : Int64) < q0)) :
    MetFree l (⟨"java/lang/Long", "valueOf", "(J)Ljava/lang/Long;"⟩ : MethodName) (head1 (Jvm.Cond.code (⟨"java/lang/Long", "valueOf", "(J)Ljava/lang/Long;"⟩ : MethodName) jdk_35_method_24_code 3 (some (.object "java/lang/Long")) :: ws) ({ frames := 0, cells := 0, slots := 0, locals := 0 } : Room)) (fun a U => a = #[(.long q0)] ∧ Z.Warmed39 U.vm ∧ U.heap = h0) (fun _ _ _ _ _ => True) (fun _ U o U' => ∃ v L, o = .returned v ∧ Q4_15 Z w_cache cl_w_cache q0 h0 n0 v U'.heap L ∧ FrameEnd U o U' L ({ frames := 0, cells := 0, slots := 0, locals := 0 } : Room).cells ({ frames := 0, cells := 0, slots := 0, locals := 0 } : Room).slots) := by
  refine MetFree.of_bodySF (plainFor_of_name pn71) hisR ?_
  intro p e s m args below meth c s₁ Bd hml0 hP hK
  obtain ⟨rfl, hZ, hh⟩ := hP
  have hx := Bd.exec
  have hby := Bd.bytes
  have hml : c.maxLocals = 3 := hml0
  have hown : s.vm.findClass "java/lang/Long" = some m.cls := findClass_of_methodNamed Bd.named
  have hnm := (name_of_methodNamed Bd.named Bd.method).1
  have X0 : Stand p l e ({ frames := 0, cells := 0, slots := 0, locals := 0 } : Room) s m #[(.long q0)] below meth c s₁ [] 0 0 := Stand.of_body Bd
  have e0 : s₁.heap = h0 := by rw [← hh, Bd.state]; rfl
  have N0 := Fr.nil n0
  have pre0 : ∀ t, Steps p.tables e below (s₁.setTop (mkF m 0 #[.val (.long q0), .second, .unset] [])) t → Steps p.tables e below (s₁.setTop (entryFrame m #[(.long q0)] 3)) t := fun t k => castTop (ef76 m q0) k
  obtain ⟨S_w_cache, Ar_w_cache, Sz_w_cache, AL_w_cache, -⟩ := id HW
  obtain ⟨T1, X1, e1, st1⟩ := getS2 X0 hx hZ hown (host := "") (Or.inl (hw _ (List.mem_of_getElem? (i := 44) rfl))) Via.refl e0 (S_w_cache.ext O0.2) (g := (mkF m 20 #[.val (.long q0), .second, .val (.int (128 : Int32))] [])) rfl (hb hby d4_20)
  obtain ⟨o2, oI2, oA2, oE2⟩ := AL_w_cache ((q0.toInt32) + (128 : Int32)) (own_plL q0 hd0 hd1)
  obtain ⟨fs, hr, hrun, hended, hW, hsame⟩ := X1.leave (v := some (.ref o2)) (fun h => by rw [Bd.returns] at h; cases h)
  refine ⟨_, _, pre0 _ ?_, hrun, hended, _, _, rfl, ?_, ⟨_, rfl⟩, hW, hsame.mono (by decide) (by decide)⟩
  · show Steps p.tables e below (s₁.setTop (mkF m 0 #[.val (.long q0), .second, .unset] [])) _
    refine XS.sipush X0.here hx rfl (hb hby d4_0) ?_
    show Steps p.tables e below (s₁.setTop (mkF m 3 #[.val (.long q0), .second, .unset] [(.int (128 : Int32))])) _
    refine XS.istoreN X0.here hx rfl (hb hby d4_3) rfl (l' := #[.val (.long q0), .second, .val (.int (128 : Int32))]) rfl ?_
    show Steps p.tables e below (s₁.setTop (mkF m 4 #[.val (.long q0), .second, .val (.int (128 : Int32))] [])) _
    refine XS.lloadN X0.here hx rfl (hb hby d4_4) rfl ?_
    show Steps p.tables e below (s₁.setTop (mkF m 5 #[.val (.long q0), .second, .val (.int (128 : Int32))] [(.long q0)])) _
    refine X0.ldc2Long hx hown (mvT hZ (hw _ (List.mem_of_getElem? (i := 24) rfl))) (g := (mkF m 5 #[.val (.long q0), .second, .val (.int (128 : Int32))] [(.long q0)])) rfl (hb hby d4_5) _ ?_
    show Steps p.tables e below (s₁.setTop (mkF m 8 #[.val (.long q0), .second, .val (.int (128 : Int32))] [(.long (-128 : Int64)), (.long q0)])) _
    refine XS.lcmp X0.here hx rfl (hb hby d4_8) rfl ?_
    show Steps p.tables e below (s₁.setTop (mkF m 9 #[.val (.long q0), .second, .val (.int (128 : Int32))] [(.int (lcmpW q0 (-128 : Int64)))])) _
    refine XS.ifNo X0.here hx rfl (hb hby d4_9) rfl ((if0 _ _).trans (flt (fun q => hd0 ((lw_lt q0 (-128 : Int64)).mp q))).1) ?_
    show Steps p.tables e below (s₁.setTop (mkF m 12 #[.val (.long q0), .second, .val (.int (128 : Int32))] [])) _
    refine XS.lloadN X0.here hx rfl (hb hby d4_12) rfl ?_
    show Steps p.tables e below (s₁.setTop (mkF m 13 #[.val (.long q0), .second, .val (.int (128 : Int32))] [(.long q0)])) _
    refine X0.ldc2Long hx hown (mvT hZ (hw _ (List.mem_of_getElem? (i := 25) rfl))) (g := (mkF m 13 #[.val (.long q0), .second, .val (.int (128 : Int32))] [(.long q0)])) rfl (hb hby d4_13) _ ?_
    show Steps p.tables e below (s₁.setTop (mkF m 16 #[.val (.long q0), .second, .val (.int (128 : Int32))] [(.long (127 : Int64)), (.long q0)])) _
    refine XS.lcmp X0.here hx rfl (hb hby d4_16) rfl ?_
    show Steps p.tables e below (s₁.setTop (mkF m 17 #[.val (.long q0), .second, .val (.int (128 : Int32))] [(.int (lcmpW q0 (127 : Int64)))])) _
    refine XS.ifNo X0.here hx rfl (hb hby d4_17) rfl ((if0 _ _).trans (flt (fun q => hd1 ((lw_gt q0 (127 : Int64)).mp q))).2.2.1) ?_
    show Steps p.tables e below (s₁.setTop (mkF m 20 #[.val (.long q0), .second, .val (.int (128 : Int32))] [])) _
    refine st1 _ ?_
    show Steps p.tables e below (T1.setTop (mkF m 23 #[.val (.long q0), .second, .val (.int (128 : Int32))] [(.ref w_cache)])) _
    refine XS.lloadN X1.here hx rfl (hb hby d4_23) rfl ?_
    show Steps p.tables e below (T1.setTop (mkF m 24 #[.val (.long q0), .second, .val (.int (128 : Int32))] [(.long q0), (.ref w_cache)])) _
    refine XS.l2i X1.here hx rfl (hb hby d4_24) rfl ?_
    show Steps p.tables e below (T1.setTop (mkF m 25 #[.val (.long q0), .second, .val (.int (128 : Int32))] [(.int (q0.toInt32)), (.ref w_cache)])) _
    refine XS.sipush X1.here hx rfl (hb hby d4_25) ?_
    show Steps p.tables e below (T1.setTop (mkF m 28 #[.val (.long q0), .second, .val (.int (128 : Int32))] [(.int (128 : Int32)), (.int (q0.toInt32)), (.ref w_cache)])) _
    refine XS.iadd X1.here hx rfl (hb hby d4_28) rfl ?_
    show Steps p.tables e below (T1.setTop (mkF m 29 #[.val (.long q0), .second, .val (.int (128 : Int32))] [(.int ((q0.toInt32) + (128 : Int32))), (.ref w_cache)])) _
    refine X1.aaload hx (j := ((q0.toInt32) + (128 : Int32))) (v := (.ref o2)) (by rw [e1]; exact (Ar_w_cache.ext O0.2).1) (State.isArrayOf_alike hZ.alike Ar_w_cache.2.1) rfl Ar_w_cache.2.2 oI2 oA2 (g := (mkF m 29 #[.val (.long q0), .second, .val (.int (128 : Int32))] [(.int ((q0.toInt32) + (128 : Int32))), (.ref w_cache)])) rfl rfl (hb hby d4_29) _ ?_
    show Steps p.tables e below (T1.setTop (mkF m 30 #[.val (.long q0), .second, .val (.int (128 : Int32))] [(.ref o2)])) _
    jvm_step X1.here [X1.here.top, hx, (hb hby d4_30), X1.method', Bd.returns, Value.isRef, FieldType.isReference]
    first | (intro acts; rw [hr _ acts rfl rfl rfl]) | rw [hr _ _ rfl rfl rfl]
    exact Steps.refl _
  · exact ⟨o2, rfl, N0, e1, oE2⟩
def Q3_16 (Z : State) (w_cache : Addr) (cl_w_cache : Cell) (ob0 : Addr) (ob1 : Addr) (q0 : Int64) (q1 : Int64) (h0 : Heap) (n0 : Nat) (v : Option Value) (h : Heap) (L : List Loc) : Prop := v = some (.int (0 : Int32)) ∧ Fr n0 L ∧ h = h0
set_option maxRecDepth 65536 in
set_option maxHeartbeats 40000000 in
theorem rm3_16 (l : Launch) (Z : State) (a0 : Array Value) (hw : ∀ d ∈ tables_1, d.before a0 Z = true) (ws : List Jvm.Cond) (w_cache : Addr) (cl_w_cache : Cell) (ob0 : Addr) (ob1 : Addr) (q0 : Int64) (q1 : Int64) (h0 : Heap) (n0 : Nat) (Z0 : n0 ≤ h0.size) (O0 : Old Z n0 h0) (HW : World Z w_cache cl_w_cache) (PE_ob0 : Exa Z h0 ob0 "com/example/melog/melog/model/TimestampedOffset") (PF_ob0_offset : Fld Z h0 ob0 "com/example/melog/melog/model/TimestampedOffset" "offset" "J" (.long q0)) (PF_ob0_timestamp : Fld Z h0 ob0 "com/example/melog/melog/model/TimestampedOffset" "timestamp" "J" (.long q1)) (PE_ob1 : Exa Z h0 ob1 "java/lang/Long") :
    MetFree l (⟨"com/example/melog/melog/model/TimestampedOffset", "equals", "(Ljava/lang/Object;)Z"⟩ : MethodName) (head1 (Jvm.Cond.code (⟨"com/example/melog/melog/model/TimestampedOffset", "equals", "(Ljava/lang/Object;)Z"⟩ : MethodName) prog_7_method_4_code 3 (some .boolean) :: ws) ({ frames := 0, cells := 0, slots := 0, locals := 0 } : Room)) (fun a U => a = #[(.ref ob0), (.ref ob1)] ∧ Z.Warmed39 U.vm ∧ U.heap = h0) (fun _ _ _ _ _ => True) (fun _ U o U' => ∃ v L, o = .returned v ∧ Q3_16 Z w_cache cl_w_cache ob0 ob1 q0 q1 h0 n0 v U'.heap L ∧ FrameEnd U o U' L ({ frames := 0, cells := 0, slots := 0, locals := 0 } : Room).cells ({ frames := 0, cells := 0, slots := 0, locals := 0 } : Room).slots) := by
  refine MetFree.of_bodySF (plainFor_of_name pn11) hisR ?_
  intro p e s m args below meth c s₁ Bd hml0 hP hK
  obtain ⟨rfl, hZ, hh⟩ := hP
  have hx := Bd.exec
  have hby := Bd.bytes
  have hml : c.maxLocals = 3 := hml0
  have hown : s.vm.findClass "com/example/melog/melog/model/TimestampedOffset" = some m.cls := findClass_of_methodNamed Bd.named
  have hnm := (name_of_methodNamed Bd.named Bd.method).1
  have X0 : Stand p l e ({ frames := 0, cells := 0, slots := 0, locals := 0 } : Room) s m #[(.ref ob0), (.ref ob1)] below meth c s₁ [] 0 0 := Stand.of_body Bd
  have e0 : s₁.heap = h0 := by rw [← hh, Bd.state]; rfl
  have N0 := Fr.nil n0
  have pre0 : ∀ t, Steps p.tables e below (s₁.setTop (mkF m 0 #[.val (.ref ob0), .val (.ref ob1), .unset] [])) t → Steps p.tables e below (s₁.setTop (entryFrame m #[(.ref ob0), (.ref ob1)] 3)) t := fun t k => castTop (ef35 m ob0 ob1) k
  obtain ⟨S_w_cache, Ar_w_cache, Sz_w_cache, AL_w_cache, -⟩ := id HW
  obtain ⟨T1, X1, e1, st1⟩ := instNo X0 hx hZ hown (hw _ (List.mem_of_getElem? (i := 18) rfl)) e0 PE_ob1 (own_nsno (hw _ (List.mem_of_getElem? (i := 41) rfl)) (hw _ (List.mem_of_getElem? (i := 1) rfl)) (NS.step (hw _ (List.mem_of_getElem? (i := 41) rfl)) (NS.step (hw _ (List.mem_of_getElem? (i := 42) rfl)) (own_nsroot (hw _ (List.mem_of_getElem? (i := 43) rfl)) (hw _ (List.mem_of_getElem? (i := 1) rfl)) (by decide)) (by decide)) (by decide)) (by decide)) (g := (mkF m 1 #[.val (.ref ob0), .val (.ref ob1), .unset] [(.ref ob1)])) rfl rfl (hb hby d3_1)
  obtain ⟨fs, hr, hrun, hended, hW, hsame⟩ := X1.leave (v := some (.int (0 : Int32))) (fun h => by rw [Bd.returns] at h; cases h)
  refine ⟨_, _, pre0 _ ?_, hrun, hended, _, _, rfl, ?_, ⟨_, rfl⟩, hW, hsame.mono (by decide) (by decide)⟩
  · show Steps p.tables e below (s₁.setTop (mkF m 0 #[.val (.ref ob0), .val (.ref ob1), .unset] [])) _
    refine XS.aloadN X0.here hx rfl (hb hby d3_0) rfl rfl ?_
    show Steps p.tables e below (s₁.setTop (mkF m 1 #[.val (.ref ob0), .val (.ref ob1), .unset] [(.ref ob1)])) _
    refine st1 _ ?_
    show Steps p.tables e below (T1.setTop (mkF m 4 #[.val (.ref ob0), .val (.ref ob1), .unset] [(.int (0 : Int32))])) _
    refine XS.ifYes X1.here hx rfl (pc0 := 4) (pc' := 40) rfl (hb hby d3_4) rfl ((if0 _ _).trans (teq (by decide : (0 : Int32) = (0 : Int32))).1) (by decide) (by decide) ?_
    show Steps p.tables e below (T1.setTop (mkF m 40 #[.val (.ref ob0), .val (.ref ob1), .unset] [])) _
    refine XS.iconst X1.here hx rfl (hb hby d3_40) ?_
    show Steps p.tables e below (T1.setTop (mkF m 41 #[.val (.ref ob0), .val (.ref ob1), .unset] [(.int (0 : Int32))])) _
    exact retN X1 hx (t := .boolean) Bd.returns (by simp) (hb hby d3_41) hr
  · exact ⟨rfl, N0, e1⟩
def Q3_17 (Z : State) (w_cache : Addr) (cl_w_cache : Cell) (ob0 : Addr) (q0 : Int64) (q1 : Int64) (h0 : Heap) (n0 : Nat) (v : Option Value) (h : Heap) (L : List Loc) : Prop := v = some (.int (1 : Int32)) ∧ Fr n0 L ∧ h = h0
set_option maxRecDepth 65536 in
set_option maxHeartbeats 40000000 in
theorem rm3_17 (l : Launch) (Z : State) (a0 : Array Value) (hw : ∀ d ∈ tables_1, d.before a0 Z = true) (ws : List Jvm.Cond) (w_cache : Addr) (cl_w_cache : Cell) (ob0 : Addr) (q0 : Int64) (q1 : Int64) (h0 : Heap) (n0 : Nat) (Z0 : n0 ≤ h0.size) (O0 : Old Z n0 h0) (HW : World Z w_cache cl_w_cache) (PE_ob0 : Exa Z h0 ob0 "com/example/melog/melog/model/TimestampedOffset") (PF_ob0_offset : Fld Z h0 ob0 "com/example/melog/melog/model/TimestampedOffset" "offset" "J" (.long q0)) (PF_ob0_timestamp : Fld Z h0 ob0 "com/example/melog/melog/model/TimestampedOffset" "timestamp" "J" (.long q1)) :
    MetFree l (⟨"com/example/melog/melog/model/TimestampedOffset", "equals", "(Ljava/lang/Object;)Z"⟩ : MethodName) (head1 (Jvm.Cond.code (⟨"com/example/melog/melog/model/TimestampedOffset", "equals", "(Ljava/lang/Object;)Z"⟩ : MethodName) prog_7_method_4_code 3 (some .boolean) :: ws) ({ frames := 0, cells := 0, slots := 0, locals := 0 } : Room)) (fun a U => a = #[(.ref ob0), (.ref ob0)] ∧ Z.Warmed39 U.vm ∧ U.heap = h0) (fun _ _ _ _ _ => True) (fun _ U o U' => ∃ v L, o = .returned v ∧ Q3_17 Z w_cache cl_w_cache ob0 q0 q1 h0 n0 v U'.heap L ∧ FrameEnd U o U' L ({ frames := 0, cells := 0, slots := 0, locals := 0 } : Room).cells ({ frames := 0, cells := 0, slots := 0, locals := 0 } : Room).slots) := by
  refine MetFree.of_bodySF (plainFor_of_name pn11) hisR ?_
  intro p e s m args below meth c s₁ Bd hml0 hP hK
  obtain ⟨rfl, hZ, hh⟩ := hP
  have hx := Bd.exec
  have hby := Bd.bytes
  have hml : c.maxLocals = 3 := hml0
  have hown : s.vm.findClass "com/example/melog/melog/model/TimestampedOffset" = some m.cls := findClass_of_methodNamed Bd.named
  have hnm := (name_of_methodNamed Bd.named Bd.method).1
  have X0 : Stand p l e ({ frames := 0, cells := 0, slots := 0, locals := 0 } : Room) s m #[(.ref ob0), (.ref ob0)] below meth c s₁ [] 0 0 := Stand.of_body Bd
  have e0 : s₁.heap = h0 := by rw [← hh, Bd.state]; rfl
  have N0 := Fr.nil n0
  have pre0 : ∀ t, Steps p.tables e below (s₁.setTop (mkF m 0 #[.val (.ref ob0), .val (.ref ob0), .unset] [])) t → Steps p.tables e below (s₁.setTop (entryFrame m #[(.ref ob0), (.ref ob0)] 3)) t := fun t k => castTop (ef35 m ob0 ob0) k
  obtain ⟨S_w_cache, Ar_w_cache, Sz_w_cache, AL_w_cache, -⟩ := id HW
  obtain ⟨T1, X1, e1, st1⟩ := instY X0 hx hZ hown (hw _ (List.mem_of_getElem? (i := 18) rfl)) e0 (Ins.self PE_ob0) (g := (mkF m 1 #[.val (.ref ob0), .val (.ref ob0), .unset] [(.ref ob0)])) rfl rfl (hb hby d3_1)
  obtain ⟨T2, X2, e2, st2⟩ := castY X1 hx hZ hown (hw _ (List.mem_of_getElem? (i := 18) rfl)) e1 (Ins.self PE_ob0) (g := (mkF m 8 #[.val (.ref ob0), .val (.ref ob0), .unset] [(.ref ob0)])) rfl rfl (hb hby d3_8)
  obtain ⟨T3, X3, e3, st3⟩ := getF X2 hx hZ hown (host := "") (Or.inl (hw _ (List.mem_of_getElem? (i := 9) rfl))) Via.refl e2 PF_ob0_offset (g := (mkF m 13 #[.val (.ref ob0), .val (.ref ob0), .val (.ref ob0)] [(.ref ob0)])) rfl rfl (hb hby d3_13)
  obtain ⟨T4, X4, e4, st4⟩ := getF X3 hx hZ hown (host := "") (Or.inl (hw _ (List.mem_of_getElem? (i := 9) rfl))) Via.refl e3 PF_ob0_offset (g := (mkF m 17 #[.val (.ref ob0), .val (.ref ob0), .val (.ref ob0)] [(.ref ob0), (.long q0)])) rfl rfl (hb hby d3_17)
  obtain ⟨T5, X5, e5, st5⟩ := getF X4 hx hZ hown (host := "") (Or.inl (hw _ (List.mem_of_getElem? (i := 11) rfl))) Via.refl e4 PF_ob0_timestamp (g := (mkF m 25 #[.val (.ref ob0), .val (.ref ob0), .val (.ref ob0)] [(.ref ob0)])) rfl rfl (hb hby d3_25)
  obtain ⟨T6, X6, e6, st6⟩ := getF X5 hx hZ hown (host := "") (Or.inl (hw _ (List.mem_of_getElem? (i := 11) rfl))) Via.refl e5 PF_ob0_timestamp (g := (mkF m 29 #[.val (.ref ob0), .val (.ref ob0), .val (.ref ob0)] [(.ref ob0), (.long q1)])) rfl rfl (hb hby d3_29)
  obtain ⟨fs, hr, hrun, hended, hW, hsame⟩ := X6.leave (v := some (.int (1 : Int32))) (fun h => by rw [Bd.returns] at h; cases h)
  refine ⟨_, _, pre0 _ ?_, hrun, hended, _, _, rfl, ?_, ⟨_, rfl⟩, hW, hsame.mono (by decide) (by decide)⟩
  · show Steps p.tables e below (s₁.setTop (mkF m 0 #[.val (.ref ob0), .val (.ref ob0), .unset] [])) _
    refine XS.aloadN X0.here hx rfl (hb hby d3_0) rfl rfl ?_
    show Steps p.tables e below (s₁.setTop (mkF m 1 #[.val (.ref ob0), .val (.ref ob0), .unset] [(.ref ob0)])) _
    refine st1 _ ?_
    show Steps p.tables e below (T1.setTop (mkF m 4 #[.val (.ref ob0), .val (.ref ob0), .unset] [(.int (1 : Int32))])) _
    refine XS.ifNo X1.here hx rfl (hb hby d3_4) rfl ((if0 _ _).trans (feq (by decide : ¬ ((1 : Int32) = (0 : Int32)))).1) ?_
    show Steps p.tables e below (T1.setTop (mkF m 7 #[.val (.ref ob0), .val (.ref ob0), .unset] [])) _
    refine XS.aloadN X1.here hx rfl (hb hby d3_7) rfl rfl ?_
    show Steps p.tables e below (T1.setTop (mkF m 8 #[.val (.ref ob0), .val (.ref ob0), .unset] [(.ref ob0)])) _
    refine st2 _ ?_
    show Steps p.tables e below (T2.setTop (mkF m 11 #[.val (.ref ob0), .val (.ref ob0), .unset] [(.ref ob0)])) _
    refine XS.astoreN X2.here hx rfl (hb hby d3_11) rfl rfl (l' := #[.val (.ref ob0), .val (.ref ob0), .val (.ref ob0)]) rfl ?_
    show Steps p.tables e below (T2.setTop (mkF m 12 #[.val (.ref ob0), .val (.ref ob0), .val (.ref ob0)] [])) _
    refine XS.aloadN X2.here hx rfl (hb hby d3_12) rfl rfl ?_
    show Steps p.tables e below (T2.setTop (mkF m 13 #[.val (.ref ob0), .val (.ref ob0), .val (.ref ob0)] [(.ref ob0)])) _
    refine st3 _ ?_
    show Steps p.tables e below (T3.setTop (mkF m 16 #[.val (.ref ob0), .val (.ref ob0), .val (.ref ob0)] [(.long q0)])) _
    refine XS.aloadN X3.here hx rfl (hb hby d3_16) rfl rfl ?_
    show Steps p.tables e below (T3.setTop (mkF m 17 #[.val (.ref ob0), .val (.ref ob0), .val (.ref ob0)] [(.ref ob0), (.long q0)])) _
    refine st4 _ ?_
    show Steps p.tables e below (T4.setTop (mkF m 20 #[.val (.ref ob0), .val (.ref ob0), .val (.ref ob0)] [(.long q0), (.long q0)])) _
    refine XS.lcmp X4.here hx rfl (hb hby d3_20) rfl ?_
    show Steps p.tables e below (T4.setTop (mkF m 21 #[.val (.ref ob0), .val (.ref ob0), .val (.ref ob0)] [(.int (lcmpW q0 q0))])) _
    refine XS.ifNo X4.here hx rfl (hb hby d3_21) rfl ((if0 _ _).trans (teq ((lw_eq q0 q0).mpr (rfl : q0 = q0))).2) ?_
    show Steps p.tables e below (T4.setTop (mkF m 24 #[.val (.ref ob0), .val (.ref ob0), .val (.ref ob0)] [])) _
    refine XS.aloadN X4.here hx rfl (hb hby d3_24) rfl rfl ?_
    show Steps p.tables e below (T4.setTop (mkF m 25 #[.val (.ref ob0), .val (.ref ob0), .val (.ref ob0)] [(.ref ob0)])) _
    refine st5 _ ?_
    show Steps p.tables e below (T5.setTop (mkF m 28 #[.val (.ref ob0), .val (.ref ob0), .val (.ref ob0)] [(.long q1)])) _
    refine XS.aloadN X5.here hx rfl (hb hby d3_28) rfl rfl ?_
    show Steps p.tables e below (T5.setTop (mkF m 29 #[.val (.ref ob0), .val (.ref ob0), .val (.ref ob0)] [(.ref ob0), (.long q1)])) _
    refine st6 _ ?_
    show Steps p.tables e below (T6.setTop (mkF m 32 #[.val (.ref ob0), .val (.ref ob0), .val (.ref ob0)] [(.long q1), (.long q1)])) _
    refine XS.lcmp X6.here hx rfl (hb hby d3_32) rfl ?_
    show Steps p.tables e below (T6.setTop (mkF m 33 #[.val (.ref ob0), .val (.ref ob0), .val (.ref ob0)] [(.int (lcmpW q1 q1))])) _
    refine XS.ifNo X6.here hx rfl (hb hby d3_33) rfl ((if0 _ _).trans (teq ((lw_eq q1 q1).mpr (rfl : q1 = q1))).2) ?_
    show Steps p.tables e below (T6.setTop (mkF m 36 #[.val (.ref ob0), .val (.ref ob0), .val (.ref ob0)] [])) _
    refine XS.iconst X6.here hx rfl (hb hby d3_36) ?_
    show Steps p.tables e below (T6.setTop (mkF m 37 #[.val (.ref ob0), .val (.ref ob0), .val (.ref ob0)] [(.int (1 : Int32))])) _
    refine XS.goto X6.here hx rfl (pc0 := 37) (pc' := 41) rfl (hb hby d3_37) (by decide) (by decide) ?_
    show Steps p.tables e below (T6.setTop (mkF m 41 #[.val (.ref ob0), .val (.ref ob0), .val (.ref ob0)] [(.int (1 : Int32))])) _
    exact retN X6 hx (t := .boolean) Bd.returns (by simp) (hb hby d3_41) hr
  · exact ⟨rfl, N0, e6⟩
theorem ef96 (m : MethodId) (x0 : Int64) (x1 : Int64) (x2 : Int64) (x3 : Int64) (x4 : Int32) : entryFrame m #[(.long x0), (.long x1), (.long x2), (.long x3), (.int x4)] maxLocals = mkF m 0 #[.val (.long x0), .second, .val (.long x1), .second, .val (.long x2), .second, .val (.long x3), .second, .val (.int x4), .unset, .unset, .unset, .unset, .unset, .unset, .unset, .unset] [] := by first | (simp [entryFrame, mkF, argsToLocals, Value.category, maxLocals]; done) | rfl
theorem pn97 : plainName "com/example/melog/melog/model/TimestampedOffsetEqualsPinLaw" = true := by first | (simp [plainName, overriddenIn]; done) | decide +kernel
def Q0 (h0 : Heap) (n0 : Nat) (v : Option Value) (h : Heap) (L : List Loc) : Prop := v = some (.int (1 : Int32)) ∧ Fr n0 L
set_option maxRecDepth 65536 in
set_option maxHeartbeats 40000000 in
theorem rm0_a (l : Launch) (Z : State) (a0 : Array Value) (hw : ∀ d ∈ tables_1, d.before a0 Z = true) (ws : List Jvm.Cond) (w_cache : Addr) (cl_w_cache : Cell) (p1 : Int64) (p2 : Int64) (p3 : Int64) (p4 : Int64) (p5 : Int32) (h0 : Heap) (n0 : Nat) (Z0 : n0 ≤ h0.size) (O0 : Old Z n0 h0) (HW : World Z w_cache cl_w_cache) :
    MetFree l x (head1 (Jvm.Cond.code x code maxLocals ret :: ws) room_1) (fun a U => a = #[(.long p1), (.long p2), (.long p3), (.long p4), (.int p5)] ∧ Z.Warmed39 U.vm ∧ U.heap = h0) (fun _ _ _ _ _ => True) (fun _ U o U' => ∃ v L, o = .returned v ∧ Q0 h0 n0 v U'.heap L ∧ FrameEnd U o U' L room_1.cells room_1.slots) := by
  refine MetFree.of_bodySF (plainFor_of_name pn97) hisR ?_
  intro p e s m args below meth c s₁ Bd hml0 hP hK
  obtain ⟨rfl, hZ, hh⟩ := hP
  have hx := Bd.exec
  have hby := Bd.bytes
  have hml : c.maxLocals = 17 := hml0
  have hown : s.vm.findClass "com/example/melog/melog/model/TimestampedOffsetEqualsPinLaw" = some m.cls := findClass_of_methodNamed Bd.named
  have hnm := (name_of_methodNamed Bd.named Bd.method).1
  have X0 : Stand p l e room_1 s m #[(.long p1), (.long p2), (.long p3), (.long p4), (.int p5)] below meth c s₁ [] 0 0 := Stand.of_body Bd
  have e0 : s₁.heap = h0 := by rw [← hh, Bd.state]; rfl
  have N0 := Fr.nil n0
  have pre0 : ∀ t, Steps p.tables e below (s₁.setTop (mkF m 0 #[.val (.long p1), .second, .val (.long p2), .second, .val (.long p3), .second, .val (.long p4), .second, .val (.int p5), .unset, .unset, .unset, .unset, .unset, .unset, .unset, .unset] [])) t → Steps p.tables e below (s₁.setTop (entryFrame m #[(.long p1), (.long p2), (.long p3), (.long p4), (.int p5)] maxLocals)) t := fun t k => castTop (ef96 m p1 p2 p3 p4 p5) k
  obtain ⟨S_w_cache, Ar_w_cache, Sz_w_cache, AL_w_cache, -⟩ := id HW
  obtain ⟨T1, h1, X1, e1, E1, A1, D1, -, st1⟩ := newO X0 hx hZ hown (hw _ (List.mem_of_getElem? (i := 0) rfl)) (hw _ (List.mem_of_getElem? (i := 1) rfl)) (hw _ (List.mem_of_getElem? (i := 2) rfl)) e0 (g := (mkF m 0 #[.val (.long p1), .second, .val (.long p2), .second, .val (.long p3), .second, .val (.long p4), .second, .val (.int p5), .unset, .unset, .unset, .unset, .unset, .unset, .unset, .unset] [])) rfl (hb hby at_0) (by decide) (by decide)
  obtain ⟨b1, gg1⟩ : ∃ z, z = h0.size := ⟨_, rfl⟩
  rw [← gg1] at A1 D1 st1
  have bo_b1 : h0.size ≤ b1 := Nat.le_of_eq gg1.symm
  have g_b1 : n0 ≤ b1 := Nat.le_trans (own_n0 O0) bo_b1
  have O1 := O0.ext E1
  have F_offset_b1 : Fld Z h1 b1 "com/example/melog/melog/model/TimestampedOffset" "offset" "J" (.long (0 : Int64)) := D1 (Or.inr (hw _ (List.mem_of_getElem? (i := 10) rfl))) (ty := .long) (by decide)
  have F_timestamp_b1 : Fld Z h1 b1 "com/example/melog/melog/model/TimestampedOffset" "timestamp" "J" (.long (0 : Int64)) := D1 (Or.inr (hw _ (List.mem_of_getElem? (i := 12) rfl))) (ty := .long) (by decide)
  obtain ⟨_, _, ⟨T2, L2, k2, n2⟩, -, X2, ⟨Lc2, hQ2, l2, y2, z2⟩, st2⟩ := X1.specialBack hx (y := (⟨"com/example/melog/melog/model/TimestampedOffset", "<init>", "(JJ)V"⟩ : MethodName)) rfl hown (mvT hZ (hw _ (List.mem_of_getElem? (i := 3) rfl))) (mvT hZ (hw _ (List.mem_of_getElem? (i := 4) rfl))) (mvT hZ (hw _ (List.mem_of_getElem? (i := 5) rfl))) (by decide) (backOf (W := 1) (rm1_0 l Z a0 hw [] w_cache cl_w_cache b1 p1 p2 h1 n0 (own_n0 O1) O1 HW A1 F_offset_b1 F_timestamp_b1 g_b1) hZ (hw _ (List.mem_of_getElem? (i := 5) rfl)) (hw _ (List.mem_of_getElem? (i := 2) rfl)) (by decide) (by decide)) (g := (mkF m 6 #[.val (.long p1), .second, .val (.long p2), .second, .val (.long p3), .second, .val (.long p4), .second, .val (.int p5), .unset, .unset, .unset, .unset, .unset, .unset, .unset, .unset] [(.long p2), (.long p1), (.ref b1), (.ref b1)])) rfl (by rw [hml]; rfl) (Steps.refl _) (a := b1) (argsL := [(.long p1), (.long p2)]) (rest := [(.ref b1)]) (lenOf pd12 rfl) rfl (by show 2 * 0 + _ ≤ _; exact Nat.le_of_eq rfl) (hb hby at_6) (fun _ _ => ⟨rfl, e1, (by decide : 1 + 0 ≤ _), (by decide : 2 + 0 ≤ _)⟩)
  dsimp only [Pt.U, Pt.locs, Pt.cells, Pt.slots] at X2 l2 y2 z2 st2 hQ2
  subst l2 y2 z2
  obtain ⟨rfl, N2q, K2, O2, pf2_0, pf2_1, pf2_2, -⟩ := hQ2
  have N2 := Fr.app N0 N2q
  have c3 : ∀ t, Steps p.tables e below (T2.setTop (mkF m 19 #[.val (.long p1), .second, .val (.long p2), .second, .val (.long p3), .second, .val (.long p4), .second, .val (.int p5), .val (.ref b1), .val (.int (p5 &&& (3 : Int32))), .unset, .unset, .unset, .unset, .unset, .unset] [(.int (p5 &&& (3 : Int32)))])) t → Steps p.tables e below (s₁.setTop (entryFrame m #[(.long p1), (.long p2), (.long p3), (.long p4), (.int p5)] maxLocals)) t := fun t kt => pre0 _ (by
    show Steps p.tables e below (s₁.setTop (mkF m 0 #[.val (.long p1), .second, .val (.long p2), .second, .val (.long p3), .second, .val (.long p4), .second, .val (.int p5), .unset, .unset, .unset, .unset, .unset, .unset, .unset, .unset] [])) _
    refine st1 _ ?_
    show Steps p.tables e below (T1.setTop (mkF m 3 #[.val (.long p1), .second, .val (.long p2), .second, .val (.long p3), .second, .val (.long p4), .second, .val (.int p5), .unset, .unset, .unset, .unset, .unset, .unset, .unset, .unset] [(.ref b1)])) _
    refine XS.dup X1.here hx rfl (hb hby at_3) rfl rfl ?_
    show Steps p.tables e below (T1.setTop (mkF m 4 #[.val (.long p1), .second, .val (.long p2), .second, .val (.long p3), .second, .val (.long p4), .second, .val (.int p5), .unset, .unset, .unset, .unset, .unset, .unset, .unset, .unset] [(.ref b1), (.ref b1)])) _
    refine XS.lloadN X1.here hx rfl (hb hby at_4) rfl ?_
    show Steps p.tables e below (T1.setTop (mkF m 5 #[.val (.long p1), .second, .val (.long p2), .second, .val (.long p3), .second, .val (.long p4), .second, .val (.int p5), .unset, .unset, .unset, .unset, .unset, .unset, .unset, .unset] [(.long p1), (.ref b1), (.ref b1)])) _
    refine XS.lloadN X1.here hx rfl (hb hby at_5) rfl ?_
    show Steps p.tables e below (T1.setTop (mkF m 6 #[.val (.long p1), .second, .val (.long p2), .second, .val (.long p3), .second, .val (.long p4), .second, .val (.int p5), .unset, .unset, .unset, .unset, .unset, .unset, .unset, .unset] [(.long p2), (.long p1), (.ref b1), (.ref b1)])) _
    refine st2.trans ?_
    show Steps p.tables e below (T2.setTop (mkF m 9 #[.val (.long p1), .second, .val (.long p2), .second, .val (.long p3), .second, .val (.long p4), .second, .val (.int p5), .unset, .unset, .unset, .unset, .unset, .unset, .unset, .unset] [(.ref b1)])) _
    refine XS.astore X2.here hx rfl (hb hby at_9) rfl rfl (l' := #[.val (.long p1), .second, .val (.long p2), .second, .val (.long p3), .second, .val (.long p4), .second, .val (.int p5), .val (.ref b1), .unset, .unset, .unset, .unset, .unset, .unset, .unset]) rfl ?_
    show Steps p.tables e below (T2.setTop (mkF m 11 #[.val (.long p1), .second, .val (.long p2), .second, .val (.long p3), .second, .val (.long p4), .second, .val (.int p5), .val (.ref b1), .unset, .unset, .unset, .unset, .unset, .unset, .unset] [])) _
    refine XS.iload X2.here hx rfl (hb hby at_11) rfl ?_
    show Steps p.tables e below (T2.setTop (mkF m 13 #[.val (.long p1), .second, .val (.long p2), .second, .val (.long p3), .second, .val (.long p4), .second, .val (.int p5), .val (.ref b1), .unset, .unset, .unset, .unset, .unset, .unset, .unset] [(.int p5)])) _
    refine XS.iconst X2.here hx rfl (hb hby at_13) ?_
    show Steps p.tables e below (T2.setTop (mkF m 14 #[.val (.long p1), .second, .val (.long p2), .second, .val (.long p3), .second, .val (.long p4), .second, .val (.int p5), .val (.ref b1), .unset, .unset, .unset, .unset, .unset, .unset, .unset] [(.int (3 : Int32)), (.int p5)])) _
    refine XS.iand X2.here hx rfl (hb hby at_14) rfl ?_
    show Steps p.tables e below (T2.setTop (mkF m 15 #[.val (.long p1), .second, .val (.long p2), .second, .val (.long p3), .second, .val (.long p4), .second, .val (.int p5), .val (.ref b1), .unset, .unset, .unset, .unset, .unset, .unset, .unset] [(.int (p5 &&& (3 : Int32)))])) _
    refine XS.istore X2.here hx rfl (hb hby at_15) rfl (l' := #[.val (.long p1), .second, .val (.long p2), .second, .val (.long p3), .second, .val (.long p4), .second, .val (.int p5), .val (.ref b1), .val (.int (p5 &&& (3 : Int32))), .unset, .unset, .unset, .unset, .unset, .unset]) rfl ?_
    show Steps p.tables e below (T2.setTop (mkF m 17 #[.val (.long p1), .second, .val (.long p2), .second, .val (.long p3), .second, .val (.long p4), .second, .val (.int p5), .val (.ref b1), .val (.int (p5 &&& (3 : Int32))), .unset, .unset, .unset, .unset, .unset, .unset] [])) _
    refine XS.iload X2.here hx rfl (hb hby at_17) rfl ?_
    show Steps p.tables e below (T2.setTop (mkF m 19 #[.val (.long p1), .second, .val (.long p2), .second, .val (.long p3), .second, .val (.long p4), .second, .val (.int p5), .val (.ref b1), .val (.int (p5 &&& (3 : Int32))), .unset, .unset, .unset, .unset, .unset, .unset] [(.int (p5 &&& (3 : Int32)))])) _
    exact kt)
  by_cases hd0 : (p5 &&& (3 : Int32)) = (0 : Int32)
  · skip
    have c4 : ∀ t, Steps p.tables e below (T2.setTop (mkF m 28 #[.val (.long p1), .second, .val (.long p2), .second, .val (.long p3), .second, .val (.long p4), .second, .val (.int p5), .val (.ref b1), .val (.int (p5 &&& (3 : Int32))), .unset, .unset, .unset, .unset, .unset, .unset] [(.int ((p5 >>> ((2 : Int32) &&& 31)) &&& (1 : Int32)))])) t → Steps p.tables e below (s₁.setTop (entryFrame m #[(.long p1), (.long p2), (.long p3), (.long p4), (.int p5)] maxLocals)) t := fun t kt => c3 _ (by
      show Steps p.tables e below (T2.setTop (mkF m 19 #[.val (.long p1), .second, .val (.long p2), .second, .val (.long p3), .second, .val (.long p4), .second, .val (.int p5), .val (.ref b1), .val (.int (p5 &&& (3 : Int32))), .unset, .unset, .unset, .unset, .unset, .unset] [(.int (p5 &&& (3 : Int32)))])) _
      refine XS.ifNo X2.here hx rfl (hb hby at_19) rfl ((if0 _ _).trans (teq hd0).2) ?_
      show Steps p.tables e below (T2.setTop (mkF m 22 #[.val (.long p1), .second, .val (.long p2), .second, .val (.long p3), .second, .val (.long p4), .second, .val (.int p5), .val (.ref b1), .val (.int (p5 &&& (3 : Int32))), .unset, .unset, .unset, .unset, .unset, .unset] [])) _
      refine XS.iload X2.here hx rfl (hb hby at_22) rfl ?_
      show Steps p.tables e below (T2.setTop (mkF m 24 #[.val (.long p1), .second, .val (.long p2), .second, .val (.long p3), .second, .val (.long p4), .second, .val (.int p5), .val (.ref b1), .val (.int (p5 &&& (3 : Int32))), .unset, .unset, .unset, .unset, .unset, .unset] [(.int p5)])) _
      refine XS.iconst X2.here hx rfl (hb hby at_24) ?_
      show Steps p.tables e below (T2.setTop (mkF m 25 #[.val (.long p1), .second, .val (.long p2), .second, .val (.long p3), .second, .val (.long p4), .second, .val (.int p5), .val (.ref b1), .val (.int (p5 &&& (3 : Int32))), .unset, .unset, .unset, .unset, .unset, .unset] [(.int (2 : Int32)), (.int p5)])) _
      refine XS.ishr X2.here hx rfl (hb hby at_25) rfl ?_
      show Steps p.tables e below (T2.setTop (mkF m 26 #[.val (.long p1), .second, .val (.long p2), .second, .val (.long p3), .second, .val (.long p4), .second, .val (.int p5), .val (.ref b1), .val (.int (p5 &&& (3 : Int32))), .unset, .unset, .unset, .unset, .unset, .unset] [(.int (p5 >>> ((2 : Int32) &&& 31)))])) _
      refine XS.iconst X2.here hx rfl (hb hby at_26) ?_
      show Steps p.tables e below (T2.setTop (mkF m 27 #[.val (.long p1), .second, .val (.long p2), .second, .val (.long p3), .second, .val (.long p4), .second, .val (.int p5), .val (.ref b1), .val (.int (p5 &&& (3 : Int32))), .unset, .unset, .unset, .unset, .unset, .unset] [(.int (1 : Int32)), (.int (p5 >>> ((2 : Int32) &&& 31)))])) _
      refine XS.iand X2.here hx rfl (hb hby at_27) rfl ?_
      show Steps p.tables e below (T2.setTop (mkF m 28 #[.val (.long p1), .second, .val (.long p2), .second, .val (.long p3), .second, .val (.long p4), .second, .val (.int p5), .val (.ref b1), .val (.int (p5 &&& (3 : Int32))), .unset, .unset, .unset, .unset, .unset, .unset] [(.int ((p5 >>> ((2 : Int32) &&& 31)) &&& (1 : Int32)))])) _
      exact kt)
    by_cases hd1 : ((p5 >>> ((2 : Int32) &&& 31)) &&& (1 : Int32)) = (0 : Int32)
    · skip
      have c5 : ∀ t, Steps p.tables e below (T2.setTop (mkF m 45 #[.val (.long p1), .second, .val (.long p2), .second, .val (.long p3), .second, .val (.long p4), .second, .val (.int p5), .val (.ref b1), .val (.int (p5 &&& (3 : Int32))), .val (.long p3), .second, .unset, .unset, .unset, .unset] [(.int ((p5 >>> ((3 : Int32) &&& 31)) &&& (1 : Int32)))])) t → Steps p.tables e below (s₁.setTop (entryFrame m #[(.long p1), (.long p2), (.long p3), (.long p4), (.int p5)] maxLocals)) t := fun t kt => c4 _ (by
        show Steps p.tables e below (T2.setTop (mkF m 28 #[.val (.long p1), .second, .val (.long p2), .second, .val (.long p3), .second, .val (.long p4), .second, .val (.int p5), .val (.ref b1), .val (.int (p5 &&& (3 : Int32))), .unset, .unset, .unset, .unset, .unset, .unset] [(.int ((p5 >>> ((2 : Int32) &&& 31)) &&& (1 : Int32)))])) _
        refine XS.ifYes X2.here hx rfl (pc0 := 28) (pc' := 35) rfl (hb hby at_28) rfl ((if0 _ _).trans (teq hd1).1) (by decide) (by decide) ?_
        show Steps p.tables e below (T2.setTop (mkF m 35 #[.val (.long p1), .second, .val (.long p2), .second, .val (.long p3), .second, .val (.long p4), .second, .val (.int p5), .val (.ref b1), .val (.int (p5 &&& (3 : Int32))), .unset, .unset, .unset, .unset, .unset, .unset] [])) _
        refine XS.lload X2.here hx rfl (hb hby at_35) rfl ?_
        show Steps p.tables e below (T2.setTop (mkF m 37 #[.val (.long p1), .second, .val (.long p2), .second, .val (.long p3), .second, .val (.long p4), .second, .val (.int p5), .val (.ref b1), .val (.int (p5 &&& (3 : Int32))), .unset, .unset, .unset, .unset, .unset, .unset] [(.long p3)])) _
        refine XS.lstore X2.here hx rfl (hb hby at_37) rfl (l' := #[.val (.long p1), .second, .val (.long p2), .second, .val (.long p3), .second, .val (.long p4), .second, .val (.int p5), .val (.ref b1), .val (.int (p5 &&& (3 : Int32))), .val (.long p3), .second, .unset, .unset, .unset, .unset]) rfl ?_
        show Steps p.tables e below (T2.setTop (mkF m 39 #[.val (.long p1), .second, .val (.long p2), .second, .val (.long p3), .second, .val (.long p4), .second, .val (.int p5), .val (.ref b1), .val (.int (p5 &&& (3 : Int32))), .val (.long p3), .second, .unset, .unset, .unset, .unset] [])) _
        refine XS.iload X2.here hx rfl (hb hby at_39) rfl ?_
        show Steps p.tables e below (T2.setTop (mkF m 41 #[.val (.long p1), .second, .val (.long p2), .second, .val (.long p3), .second, .val (.long p4), .second, .val (.int p5), .val (.ref b1), .val (.int (p5 &&& (3 : Int32))), .val (.long p3), .second, .unset, .unset, .unset, .unset] [(.int p5)])) _
        refine XS.iconst X2.here hx rfl (hb hby at_41) ?_
        show Steps p.tables e below (T2.setTop (mkF m 42 #[.val (.long p1), .second, .val (.long p2), .second, .val (.long p3), .second, .val (.long p4), .second, .val (.int p5), .val (.ref b1), .val (.int (p5 &&& (3 : Int32))), .val (.long p3), .second, .unset, .unset, .unset, .unset] [(.int (3 : Int32)), (.int p5)])) _
        refine XS.ishr X2.here hx rfl (hb hby at_42) rfl ?_
        show Steps p.tables e below (T2.setTop (mkF m 43 #[.val (.long p1), .second, .val (.long p2), .second, .val (.long p3), .second, .val (.long p4), .second, .val (.int p5), .val (.ref b1), .val (.int (p5 &&& (3 : Int32))), .val (.long p3), .second, .unset, .unset, .unset, .unset] [(.int (p5 >>> ((3 : Int32) &&& 31)))])) _
        refine XS.iconst X2.here hx rfl (hb hby at_43) ?_
        show Steps p.tables e below (T2.setTop (mkF m 44 #[.val (.long p1), .second, .val (.long p2), .second, .val (.long p3), .second, .val (.long p4), .second, .val (.int p5), .val (.ref b1), .val (.int (p5 &&& (3 : Int32))), .val (.long p3), .second, .unset, .unset, .unset, .unset] [(.int (1 : Int32)), (.int (p5 >>> ((3 : Int32) &&& 31)))])) _
        refine XS.iand X2.here hx rfl (hb hby at_44) rfl ?_
        show Steps p.tables e below (T2.setTop (mkF m 45 #[.val (.long p1), .second, .val (.long p2), .second, .val (.long p3), .second, .val (.long p4), .second, .val (.int p5), .val (.ref b1), .val (.int (p5 &&& (3 : Int32))), .val (.long p3), .second, .unset, .unset, .unset, .unset] [(.int ((p5 >>> ((3 : Int32) &&& 31)) &&& (1 : Int32)))])) _
        exact kt)
      by_cases hd2 : ((p5 >>> ((3 : Int32) &&& 31)) &&& (1 : Int32)) = (0 : Int32)
      · skip
        obtain ⟨T6, h6, X6, e6, E6, A6, D6, -, st6⟩ := newO X2 hx hZ hown (hw _ (List.mem_of_getElem? (i := 0) rfl)) (hw _ (List.mem_of_getElem? (i := 1) rfl)) (hw _ (List.mem_of_getElem? (i := 2) rfl)) rfl (g := (mkF m 56 #[.val (.long p1), .second, .val (.long p2), .second, .val (.long p3), .second, .val (.long p4), .second, .val (.int p5), .val (.ref b1), .val (.int (p5 &&& (3 : Int32))), .val (.long p3), .second, .val (.long p4), .second, .unset, .unset] [])) rfl (hb hby at_56) (by decide) (by decide)
        obtain ⟨b6, gg6⟩ : ∃ z, z = T2.heap.size := ⟨_, rfl⟩
        rw [← gg6] at A6 D6 st6
        have bo_b6 : T2.heap.size ≤ b6 := Nat.le_of_eq gg6.symm
        have g_b6 : n0 ≤ b6 := Nat.le_trans (own_n0 O2) bo_b6
        have O6 := O2.ext E6
        have F_offset_b6 : Fld Z h6 b6 "com/example/melog/melog/model/TimestampedOffset" "offset" "J" (.long (0 : Int64)) := D6 (Or.inr (hw _ (List.mem_of_getElem? (i := 10) rfl))) (ty := .long) (by decide)
        have F_timestamp_b6 : Fld Z h6 b6 "com/example/melog/melog/model/TimestampedOffset" "timestamp" "J" (.long (0 : Int64)) := D6 (Or.inr (hw _ (List.mem_of_getElem? (i := 12) rfl))) (ty := .long) (by decide)
        obtain ⟨_, _, ⟨T7, L7, k7, n7⟩, -, X7, ⟨Lc7, hQ7, l7, y7, z7⟩, st7⟩ := X6.specialBack hx (y := (⟨"com/example/melog/melog/model/TimestampedOffset", "<init>", "(JJ)V"⟩ : MethodName)) rfl hown (mvT hZ (hw _ (List.mem_of_getElem? (i := 3) rfl))) (mvT hZ (hw _ (List.mem_of_getElem? (i := 4) rfl))) (mvT hZ (hw _ (List.mem_of_getElem? (i := 5) rfl))) (by decide) (backOf (W := 1) (rm1_0 l Z a0 hw [] w_cache cl_w_cache b6 p3 p4 h6 n0 (own_n0 O6) O6 HW A6 F_offset_b6 F_timestamp_b6 g_b6) hZ (hw _ (List.mem_of_getElem? (i := 5) rfl)) (hw _ (List.mem_of_getElem? (i := 2) rfl)) (by decide) (by decide)) (g := (mkF m 64 #[.val (.long p1), .second, .val (.long p2), .second, .val (.long p3), .second, .val (.long p4), .second, .val (.int p5), .val (.ref b1), .val (.int (p5 &&& (3 : Int32))), .val (.long p3), .second, .val (.long p4), .second, .unset, .unset] [(.long p4), (.long p3), (.ref b6), (.ref b6)])) rfl (by rw [hml]; rfl) (Steps.refl _) (a := b6) (argsL := [(.long p3), (.long p4)]) (rest := [(.ref b6)]) (lenOf pd12 rfl) rfl (by show 2 * 0 + _ ≤ _; exact Nat.le_of_eq rfl) (hb hby at_64) (fun _ _ => ⟨rfl, e6, (by decide : 2 + 0 ≤ _), (by decide : 4 + 0 ≤ _)⟩)
        dsimp only [Pt.U, Pt.locs, Pt.cells, Pt.slots] at X7 l7 y7 z7 st7 hQ7
        subst l7 y7 z7
        obtain ⟨rfl, N7q, K7, O7, pf7_0, pf7_1, pf7_2, -⟩ := hQ7
        have N7 := Fr.app N2 N7q
        have c8 : ∀ t, Steps p.tables e below (T7.setTop (mkF m 73 #[.val (.long p1), .second, .val (.long p2), .second, .val (.long p3), .second, .val (.long p4), .second, .val (.int p5), .val (.ref b1), .val (.int (p5 &&& (3 : Int32))), .val (.long p3), .second, .val (.long p4), .second, .val (.ref b6), .unset] [(.int (lcmpW p3 p1))])) t → Steps p.tables e below (s₁.setTop (entryFrame m #[(.long p1), (.long p2), (.long p3), (.long p4), (.int p5)] maxLocals)) t := fun t kt => c5 _ (by
          show Steps p.tables e below (T2.setTop (mkF m 45 #[.val (.long p1), .second, .val (.long p2), .second, .val (.long p3), .second, .val (.long p4), .second, .val (.int p5), .val (.ref b1), .val (.int (p5 &&& (3 : Int32))), .val (.long p3), .second, .unset, .unset, .unset, .unset] [(.int ((p5 >>> ((3 : Int32) &&& 31)) &&& (1 : Int32)))])) _
          refine XS.ifYes X2.here hx rfl (pc0 := 45) (pc' := 52) rfl (hb hby at_45) rfl ((if0 _ _).trans (teq hd2).1) (by decide) (by decide) ?_
          show Steps p.tables e below (T2.setTop (mkF m 52 #[.val (.long p1), .second, .val (.long p2), .second, .val (.long p3), .second, .val (.long p4), .second, .val (.int p5), .val (.ref b1), .val (.int (p5 &&& (3 : Int32))), .val (.long p3), .second, .unset, .unset, .unset, .unset] [])) _
          refine XS.lload X2.here hx rfl (hb hby at_52) rfl ?_
          show Steps p.tables e below (T2.setTop (mkF m 54 #[.val (.long p1), .second, .val (.long p2), .second, .val (.long p3), .second, .val (.long p4), .second, .val (.int p5), .val (.ref b1), .val (.int (p5 &&& (3 : Int32))), .val (.long p3), .second, .unset, .unset, .unset, .unset] [(.long p4)])) _
          refine XS.lstore X2.here hx rfl (hb hby at_54) rfl (l' := #[.val (.long p1), .second, .val (.long p2), .second, .val (.long p3), .second, .val (.long p4), .second, .val (.int p5), .val (.ref b1), .val (.int (p5 &&& (3 : Int32))), .val (.long p3), .second, .val (.long p4), .second, .unset, .unset]) rfl ?_
          show Steps p.tables e below (T2.setTop (mkF m 56 #[.val (.long p1), .second, .val (.long p2), .second, .val (.long p3), .second, .val (.long p4), .second, .val (.int p5), .val (.ref b1), .val (.int (p5 &&& (3 : Int32))), .val (.long p3), .second, .val (.long p4), .second, .unset, .unset] [])) _
          refine st6 _ ?_
          show Steps p.tables e below (T6.setTop (mkF m 59 #[.val (.long p1), .second, .val (.long p2), .second, .val (.long p3), .second, .val (.long p4), .second, .val (.int p5), .val (.ref b1), .val (.int (p5 &&& (3 : Int32))), .val (.long p3), .second, .val (.long p4), .second, .unset, .unset] [(.ref b6)])) _
          refine XS.dup X6.here hx rfl (hb hby at_59) rfl rfl ?_
          show Steps p.tables e below (T6.setTop (mkF m 60 #[.val (.long p1), .second, .val (.long p2), .second, .val (.long p3), .second, .val (.long p4), .second, .val (.int p5), .val (.ref b1), .val (.int (p5 &&& (3 : Int32))), .val (.long p3), .second, .val (.long p4), .second, .unset, .unset] [(.ref b6), (.ref b6)])) _
          refine XS.lload X6.here hx rfl (hb hby at_60) rfl ?_
          show Steps p.tables e below (T6.setTop (mkF m 62 #[.val (.long p1), .second, .val (.long p2), .second, .val (.long p3), .second, .val (.long p4), .second, .val (.int p5), .val (.ref b1), .val (.int (p5 &&& (3 : Int32))), .val (.long p3), .second, .val (.long p4), .second, .unset, .unset] [(.long p3), (.ref b6), (.ref b6)])) _
          refine XS.lload X6.here hx rfl (hb hby at_62) rfl ?_
          show Steps p.tables e below (T6.setTop (mkF m 64 #[.val (.long p1), .second, .val (.long p2), .second, .val (.long p3), .second, .val (.long p4), .second, .val (.int p5), .val (.ref b1), .val (.int (p5 &&& (3 : Int32))), .val (.long p3), .second, .val (.long p4), .second, .unset, .unset] [(.long p4), (.long p3), (.ref b6), (.ref b6)])) _
          refine st7.trans ?_
          show Steps p.tables e below (T7.setTop (mkF m 67 #[.val (.long p1), .second, .val (.long p2), .second, .val (.long p3), .second, .val (.long p4), .second, .val (.int p5), .val (.ref b1), .val (.int (p5 &&& (3 : Int32))), .val (.long p3), .second, .val (.long p4), .second, .unset, .unset] [(.ref b6)])) _
          refine XS.astore X7.here hx rfl (hb hby at_67) rfl rfl (l' := #[.val (.long p1), .second, .val (.long p2), .second, .val (.long p3), .second, .val (.long p4), .second, .val (.int p5), .val (.ref b1), .val (.int (p5 &&& (3 : Int32))), .val (.long p3), .second, .val (.long p4), .second, .val (.ref b6), .unset]) rfl ?_
          show Steps p.tables e below (T7.setTop (mkF m 69 #[.val (.long p1), .second, .val (.long p2), .second, .val (.long p3), .second, .val (.long p4), .second, .val (.int p5), .val (.ref b1), .val (.int (p5 &&& (3 : Int32))), .val (.long p3), .second, .val (.long p4), .second, .val (.ref b6), .unset] [])) _
          refine XS.lload X7.here hx rfl (hb hby at_69) rfl ?_
          show Steps p.tables e below (T7.setTop (mkF m 71 #[.val (.long p1), .second, .val (.long p2), .second, .val (.long p3), .second, .val (.long p4), .second, .val (.int p5), .val (.ref b1), .val (.int (p5 &&& (3 : Int32))), .val (.long p3), .second, .val (.long p4), .second, .val (.ref b6), .unset] [(.long p3)])) _
          refine XS.lloadN X7.here hx rfl (hb hby at_71) rfl ?_
          show Steps p.tables e below (T7.setTop (mkF m 72 #[.val (.long p1), .second, .val (.long p2), .second, .val (.long p3), .second, .val (.long p4), .second, .val (.int p5), .val (.ref b1), .val (.int (p5 &&& (3 : Int32))), .val (.long p3), .second, .val (.long p4), .second, .val (.ref b6), .unset] [(.long p1), (.long p3)])) _
          refine XS.lcmp X7.here hx rfl (hb hby at_72) rfl ?_
          show Steps p.tables e below (T7.setTop (mkF m 73 #[.val (.long p1), .second, .val (.long p2), .second, .val (.long p3), .second, .val (.long p4), .second, .val (.int p5), .val (.ref b1), .val (.int (p5 &&& (3 : Int32))), .val (.long p3), .second, .val (.long p4), .second, .val (.ref b6), .unset] [(.int (lcmpW p3 p1))])) _
          exact kt)
        by_cases hd3 : p3 = p1
        · skip
          have c9 : ∀ t, Steps p.tables e below (T7.setTop (mkF m 80 #[.val (.long p1), .second, .val (.long p2), .second, .val (.long p3), .second, .val (.long p4), .second, .val (.int p5), .val (.ref b1), .val (.int (p5 &&& (3 : Int32))), .val (.long p3), .second, .val (.long p4), .second, .val (.ref b6), .unset] [(.int (lcmpW p4 p2))])) t → Steps p.tables e below (s₁.setTop (entryFrame m #[(.long p1), (.long p2), (.long p3), (.long p4), (.int p5)] maxLocals)) t := fun t kt => c8 _ (by
            show Steps p.tables e below (T7.setTop (mkF m 73 #[.val (.long p1), .second, .val (.long p2), .second, .val (.long p3), .second, .val (.long p4), .second, .val (.int p5), .val (.ref b1), .val (.int (p5 &&& (3 : Int32))), .val (.long p3), .second, .val (.long p4), .second, .val (.ref b6), .unset] [(.int (lcmpW p3 p1))])) _
            refine XS.ifNo X7.here hx rfl (hb hby at_73) rfl ((if0 _ _).trans (teq ((lw_eq p3 p1).mpr hd3)).2) ?_
            show Steps p.tables e below (T7.setTop (mkF m 76 #[.val (.long p1), .second, .val (.long p2), .second, .val (.long p3), .second, .val (.long p4), .second, .val (.int p5), .val (.ref b1), .val (.int (p5 &&& (3 : Int32))), .val (.long p3), .second, .val (.long p4), .second, .val (.ref b6), .unset] [])) _
            refine XS.lload X7.here hx rfl (hb hby at_76) rfl ?_
            show Steps p.tables e below (T7.setTop (mkF m 78 #[.val (.long p1), .second, .val (.long p2), .second, .val (.long p3), .second, .val (.long p4), .second, .val (.int p5), .val (.ref b1), .val (.int (p5 &&& (3 : Int32))), .val (.long p3), .second, .val (.long p4), .second, .val (.ref b6), .unset] [(.long p4)])) _
            refine XS.lloadN X7.here hx rfl (hb hby at_78) rfl ?_
            show Steps p.tables e below (T7.setTop (mkF m 79 #[.val (.long p1), .second, .val (.long p2), .second, .val (.long p3), .second, .val (.long p4), .second, .val (.int p5), .val (.ref b1), .val (.int (p5 &&& (3 : Int32))), .val (.long p3), .second, .val (.long p4), .second, .val (.ref b6), .unset] [(.long p2), (.long p4)])) _
            refine XS.lcmp X7.here hx rfl (hb hby at_79) rfl ?_
            show Steps p.tables e below (T7.setTop (mkF m 80 #[.val (.long p1), .second, .val (.long p2), .second, .val (.long p3), .second, .val (.long p4), .second, .val (.int p5), .val (.ref b1), .val (.int (p5 &&& (3 : Int32))), .val (.long p3), .second, .val (.long p4), .second, .val (.ref b6), .unset] [(.int (lcmpW p4 p2))])) _
            exact kt)
          by_cases hd4 : p4 = p2
          · skip
            obtain ⟨cq10, kq10, q10a, q10b, q10c⟩ := isOf hZ rfl ((pf2_0.ext E6).keep K7)
            obtain ⟨_, _, ⟨T10, L10, k10, n10⟩, -, X10, ⟨Lc10, hQ10, l10, y10, z10⟩, st10⟩ := X7.virtualBack hx (y := (⟨"com/example/melog/melog/model/TimestampedOffset", "equals", "(Ljava/lang/Object;)Z"⟩ : MethodName)) (z := (⟨"com/example/melog/melog/model/TimestampedOffset", "equals", "(Ljava/lang/Object;)Z"⟩ : MethodName)) hown (mvT hZ (hw _ (List.mem_of_getElem? (i := 13) rfl))) (mvT hZ (hw _ (List.mem_of_getElem? (i := 14) rfl))) (notFace_of_selects (args := #[]) (mvT hZ (hw _ (List.mem_of_getElem? (i := 16) rfl)))) (mvT hZ (hw _ (List.mem_of_getElem? (i := 16) rfl))) (mvT hZ (hw _ (List.mem_of_getElem? (i := 15) rfl))) (by decide) (backOf (W := 0) (rm3_1 l Z a0 hw [] w_cache cl_w_cache b1 b6 p1 p2 p3 p4 T7.heap n0 (own_n0 O7) O7 HW ((pf2_0.ext E6).keep K7) ((pf2_1.ext E6).keep K7 (ninS (Nat.ne_of_lt (Nat.lt_of_lt_of_le pf2_0.lt bo_b6)) nin0)) ((pf2_2.ext E6).keep K7 (ninS (Nat.ne_of_lt (Nat.lt_of_lt_of_le pf2_0.lt bo_b6)) nin0)) pf7_0 pf7_1 pf7_2 hd3 hd4) hZ (hw _ (List.mem_of_getElem? (i := 17) rfl)) (hw _ (List.mem_of_getElem? (i := 2) rfl)) (by decide) (by decide)) q10a q10c (g := (mkF m 94 #[.val (.long p1), .second, .val (.long p2), .second, .val (.long p3), .second, .val (.long p4), .second, .val (.int p5), .val (.ref b1), .val (.int (p5 &&& (3 : Int32))), .val (.long p3), .second, .val (.long p4), .second, .val (.ref b6), .val (.int (1 : Int32))] [(.ref b6), (.ref b1)])) rfl (by rw [hml]; rfl) (Steps.refl _) (argsL := [(.ref b6)]) (rest := []) (lenOf pd36 rfl) rfl (by show 2 * 0 + _ ≤ _; exact Nat.le_of_eq rfl) (hb hby at_94) (fun _ _ => ⟨rfl, rfl, (by decide : 2 + 0 ≤ _), (by decide : 4 + 0 ≤ _)⟩)
            dsimp only [Pt.U, Pt.locs, Pt.cells, Pt.slots] at X10 l10 y10 z10 st10 hQ10
            subst l10 y10 z10
            obtain ⟨rfl, N10q, e10⟩ := hQ10
            have N10 := Fr.app N7 N10q
            obtain ⟨cq11, kq11, q11a, q11b, q11c⟩ := isOf hZ e10 pf7_0
            obtain ⟨_, _, ⟨T11, L11, k11, n11⟩, -, X11, ⟨Lc11, hQ11, l11, y11, z11⟩, st11⟩ := X10.virtualBack hx (y := (⟨"com/example/melog/melog/model/TimestampedOffset", "equals", "(Ljava/lang/Object;)Z"⟩ : MethodName)) (z := (⟨"com/example/melog/melog/model/TimestampedOffset", "equals", "(Ljava/lang/Object;)Z"⟩ : MethodName)) hown (mvT hZ (hw _ (List.mem_of_getElem? (i := 13) rfl))) (mvT hZ (hw _ (List.mem_of_getElem? (i := 14) rfl))) (notFace_of_selects (args := #[]) (mvT hZ (hw _ (List.mem_of_getElem? (i := 16) rfl)))) (mvT hZ (hw _ (List.mem_of_getElem? (i := 16) rfl))) (mvT hZ (hw _ (List.mem_of_getElem? (i := 15) rfl))) (by decide) (backOf (W := 0) (rm3_1 l Z a0 hw [] w_cache cl_w_cache b6 b1 p3 p4 p1 p2 T7.heap n0 (own_n0 O7) O7 HW pf7_0 pf7_1 pf7_2 ((pf2_0.ext E6).keep K7) ((pf2_1.ext E6).keep K7 (ninS (Nat.ne_of_lt (Nat.lt_of_lt_of_le pf2_0.lt bo_b6)) nin0)) ((pf2_2.ext E6).keep K7 (ninS (Nat.ne_of_lt (Nat.lt_of_lt_of_le pf2_0.lt bo_b6)) nin0)) (Eq.symm hd3) (Eq.symm hd4)) hZ (hw _ (List.mem_of_getElem? (i := 17) rfl)) (hw _ (List.mem_of_getElem? (i := 2) rfl)) (by decide) (by decide)) q11a q11c (g := (mkF m 106 #[.val (.long p1), .second, .val (.long p2), .second, .val (.long p3), .second, .val (.long p4), .second, .val (.int p5), .val (.ref b1), .val (.int (p5 &&& (3 : Int32))), .val (.long p3), .second, .val (.long p4), .second, .val (.ref b6), .val (.int (1 : Int32))] [(.ref b1), (.ref b6)])) rfl (by rw [hml]; rfl) (Steps.refl _) (argsL := [(.ref b1)]) (rest := []) (lenOf pd36 rfl) rfl (by show 2 * 0 + _ ≤ _; exact Nat.le_of_eq rfl) (hb hby at_106) (fun _ _ => ⟨rfl, e10, (by decide : 2 + 0 ≤ _), (by decide : 4 + 0 ≤ _)⟩)
            dsimp only [Pt.U, Pt.locs, Pt.cells, Pt.slots] at X11 l11 y11 z11 st11 hQ11
            subst l11 y11 z11
            obtain ⟨rfl, N11q, e11⟩ := hQ11
            have N11 := Fr.app N10 N11q
            obtain ⟨fs, hr, hrun, hended, hW, hsame⟩ := X11.leave (v := some (.int (1 : Int32))) (fun h => by rw [Bd.returns] at h; cases h)
            refine ⟨_, _, c9 _ ?_, hrun, hended, _, _, rfl, ?_, ⟨_, rfl⟩, hW, hsame.mono (by decide) (by decide)⟩
            · show Steps p.tables e below (T7.setTop (mkF m 80 #[.val (.long p1), .second, .val (.long p2), .second, .val (.long p3), .second, .val (.long p4), .second, .val (.int p5), .val (.ref b1), .val (.int (p5 &&& (3 : Int32))), .val (.long p3), .second, .val (.long p4), .second, .val (.ref b6), .unset] [(.int (lcmpW p4 p2))])) _
              refine XS.ifNo X7.here hx rfl (hb hby at_80) rfl ((if0 _ _).trans (teq ((lw_eq p4 p2).mpr hd4)).2) ?_
              show Steps p.tables e below (T7.setTop (mkF m 83 #[.val (.long p1), .second, .val (.long p2), .second, .val (.long p3), .second, .val (.long p4), .second, .val (.int p5), .val (.ref b1), .val (.int (p5 &&& (3 : Int32))), .val (.long p3), .second, .val (.long p4), .second, .val (.ref b6), .unset] [])) _
              refine XS.iconst X7.here hx rfl (hb hby at_83) ?_
              show Steps p.tables e below (T7.setTop (mkF m 84 #[.val (.long p1), .second, .val (.long p2), .second, .val (.long p3), .second, .val (.long p4), .second, .val (.int p5), .val (.ref b1), .val (.int (p5 &&& (3 : Int32))), .val (.long p3), .second, .val (.long p4), .second, .val (.ref b6), .unset] [(.int (1 : Int32))])) _
              refine XS.goto X7.here hx rfl (pc0 := 84) (pc' := 88) rfl (hb hby at_84) (by decide) (by decide) ?_
              show Steps p.tables e below (T7.setTop (mkF m 88 #[.val (.long p1), .second, .val (.long p2), .second, .val (.long p3), .second, .val (.long p4), .second, .val (.int p5), .val (.ref b1), .val (.int (p5 &&& (3 : Int32))), .val (.long p3), .second, .val (.long p4), .second, .val (.ref b6), .unset] [(.int (1 : Int32))])) _
              refine XS.istore X7.here hx rfl (hb hby at_88) rfl (l' := #[.val (.long p1), .second, .val (.long p2), .second, .val (.long p3), .second, .val (.long p4), .second, .val (.int p5), .val (.ref b1), .val (.int (p5 &&& (3 : Int32))), .val (.long p3), .second, .val (.long p4), .second, .val (.ref b6), .val (.int (1 : Int32))]) rfl ?_
              show Steps p.tables e below (T7.setTop (mkF m 90 #[.val (.long p1), .second, .val (.long p2), .second, .val (.long p3), .second, .val (.long p4), .second, .val (.int p5), .val (.ref b1), .val (.int (p5 &&& (3 : Int32))), .val (.long p3), .second, .val (.long p4), .second, .val (.ref b6), .val (.int (1 : Int32))] [])) _
              refine XS.aload X7.here hx rfl (hb hby at_90) rfl rfl ?_
              show Steps p.tables e below (T7.setTop (mkF m 92 #[.val (.long p1), .second, .val (.long p2), .second, .val (.long p3), .second, .val (.long p4), .second, .val (.int p5), .val (.ref b1), .val (.int (p5 &&& (3 : Int32))), .val (.long p3), .second, .val (.long p4), .second, .val (.ref b6), .val (.int (1 : Int32))] [(.ref b1)])) _
              refine XS.aload X7.here hx rfl (hb hby at_92) rfl rfl ?_
              show Steps p.tables e below (T7.setTop (mkF m 94 #[.val (.long p1), .second, .val (.long p2), .second, .val (.long p3), .second, .val (.long p4), .second, .val (.int p5), .val (.ref b1), .val (.int (p5 &&& (3 : Int32))), .val (.long p3), .second, .val (.long p4), .second, .val (.ref b6), .val (.int (1 : Int32))] [(.ref b6), (.ref b1)])) _
              refine st10.trans ?_
              show Steps p.tables e below (T10.setTop (mkF m 97 #[.val (.long p1), .second, .val (.long p2), .second, .val (.long p3), .second, .val (.long p4), .second, .val (.int p5), .val (.ref b1), .val (.int (p5 &&& (3 : Int32))), .val (.long p3), .second, .val (.long p4), .second, .val (.ref b6), .val (.int (1 : Int32))] [(.int (1 : Int32))])) _
              refine XS.iload X10.here hx rfl (hb hby at_97) rfl ?_
              show Steps p.tables e below (T10.setTop (mkF m 99 #[.val (.long p1), .second, .val (.long p2), .second, .val (.long p3), .second, .val (.long p4), .second, .val (.int p5), .val (.ref b1), .val (.int (p5 &&& (3 : Int32))), .val (.long p3), .second, .val (.long p4), .second, .val (.ref b6), .val (.int (1 : Int32))] [(.int (1 : Int32)), (.int (1 : Int32))])) _
              refine XS.icmpNo X10.here hx rfl (hb hby at_99) rfl (teq (by decide : (1 : Int32) = (1 : Int32))).2 ?_
              show Steps p.tables e below (T10.setTop (mkF m 102 #[.val (.long p1), .second, .val (.long p2), .second, .val (.long p3), .second, .val (.long p4), .second, .val (.int p5), .val (.ref b1), .val (.int (p5 &&& (3 : Int32))), .val (.long p3), .second, .val (.long p4), .second, .val (.ref b6), .val (.int (1 : Int32))] [])) _
              refine XS.aload X10.here hx rfl (hb hby at_102) rfl rfl ?_
              show Steps p.tables e below (T10.setTop (mkF m 104 #[.val (.long p1), .second, .val (.long p2), .second, .val (.long p3), .second, .val (.long p4), .second, .val (.int p5), .val (.ref b1), .val (.int (p5 &&& (3 : Int32))), .val (.long p3), .second, .val (.long p4), .second, .val (.ref b6), .val (.int (1 : Int32))] [(.ref b6)])) _
              refine XS.aload X10.here hx rfl (hb hby at_104) rfl rfl ?_
              show Steps p.tables e below (T10.setTop (mkF m 106 #[.val (.long p1), .second, .val (.long p2), .second, .val (.long p3), .second, .val (.long p4), .second, .val (.int p5), .val (.ref b1), .val (.int (p5 &&& (3 : Int32))), .val (.long p3), .second, .val (.long p4), .second, .val (.ref b6), .val (.int (1 : Int32))] [(.ref b1), (.ref b6)])) _
              refine st11.trans ?_
              show Steps p.tables e below (T11.setTop (mkF m 109 #[.val (.long p1), .second, .val (.long p2), .second, .val (.long p3), .second, .val (.long p4), .second, .val (.int p5), .val (.ref b1), .val (.int (p5 &&& (3 : Int32))), .val (.long p3), .second, .val (.long p4), .second, .val (.ref b6), .val (.int (1 : Int32))] [(.int (1 : Int32))])) _
              refine XS.iload X11.here hx rfl (hb hby at_109) rfl ?_
              show Steps p.tables e below (T11.setTop (mkF m 111 #[.val (.long p1), .second, .val (.long p2), .second, .val (.long p3), .second, .val (.long p4), .second, .val (.int p5), .val (.ref b1), .val (.int (p5 &&& (3 : Int32))), .val (.long p3), .second, .val (.long p4), .second, .val (.ref b6), .val (.int (1 : Int32))] [(.int (1 : Int32)), (.int (1 : Int32))])) _
              refine XS.icmpNo X11.here hx rfl (hb hby at_111) rfl (teq (by decide : (1 : Int32) = (1 : Int32))).2 ?_
              show Steps p.tables e below (T11.setTop (mkF m 114 #[.val (.long p1), .second, .val (.long p2), .second, .val (.long p3), .second, .val (.long p4), .second, .val (.int p5), .val (.ref b1), .val (.int (p5 &&& (3 : Int32))), .val (.long p3), .second, .val (.long p4), .second, .val (.ref b6), .val (.int (1 : Int32))] [])) _
              refine XS.iconst X11.here hx rfl (hb hby at_114) ?_
              show Steps p.tables e below (T11.setTop (mkF m 115 #[.val (.long p1), .second, .val (.long p2), .second, .val (.long p3), .second, .val (.long p4), .second, .val (.int p5), .val (.ref b1), .val (.int (p5 &&& (3 : Int32))), .val (.long p3), .second, .val (.long p4), .second, .val (.ref b6), .val (.int (1 : Int32))] [(.int (1 : Int32))])) _
              refine XS.goto X11.here hx rfl (pc0 := 115) (pc' := 119) rfl (hb hby at_115) (by decide) (by decide) ?_
              show Steps p.tables e below (T11.setTop (mkF m 119 #[.val (.long p1), .second, .val (.long p2), .second, .val (.long p3), .second, .val (.long p4), .second, .val (.int p5), .val (.ref b1), .val (.int (p5 &&& (3 : Int32))), .val (.long p3), .second, .val (.long p4), .second, .val (.ref b6), .val (.int (1 : Int32))] [(.int (1 : Int32))])) _
              exact retN X11 hx (t := .boolean) Bd.returns (by simp) (hb hby at_119) hr
            · exact ⟨rfl, N11⟩
          · skip
            obtain ⟨cq10, kq10, q10a, q10b, q10c⟩ := isOf hZ rfl ((pf2_0.ext E6).keep K7)
            obtain ⟨_, _, ⟨T10, L10, k10, n10⟩, -, X10, ⟨Lc10, hQ10, l10, y10, z10⟩, st10⟩ := X7.virtualBack hx (y := (⟨"com/example/melog/melog/model/TimestampedOffset", "equals", "(Ljava/lang/Object;)Z"⟩ : MethodName)) (z := (⟨"com/example/melog/melog/model/TimestampedOffset", "equals", "(Ljava/lang/Object;)Z"⟩ : MethodName)) hown (mvT hZ (hw _ (List.mem_of_getElem? (i := 13) rfl))) (mvT hZ (hw _ (List.mem_of_getElem? (i := 14) rfl))) (notFace_of_selects (args := #[]) (mvT hZ (hw _ (List.mem_of_getElem? (i := 16) rfl)))) (mvT hZ (hw _ (List.mem_of_getElem? (i := 16) rfl))) (mvT hZ (hw _ (List.mem_of_getElem? (i := 15) rfl))) (by decide) (backOf (W := 0) (rm3_2 l Z a0 hw [] w_cache cl_w_cache b1 b6 p1 p2 p3 p4 T7.heap n0 (own_n0 O7) O7 HW ((pf2_0.ext E6).keep K7) ((pf2_1.ext E6).keep K7 (ninS (Nat.ne_of_lt (Nat.lt_of_lt_of_le pf2_0.lt bo_b6)) nin0)) ((pf2_2.ext E6).keep K7 (ninS (Nat.ne_of_lt (Nat.lt_of_lt_of_le pf2_0.lt bo_b6)) nin0)) pf7_0 pf7_1 pf7_2 hd3 hd4) hZ (hw _ (List.mem_of_getElem? (i := 17) rfl)) (hw _ (List.mem_of_getElem? (i := 2) rfl)) (by decide) (by decide)) q10a q10c (g := (mkF m 94 #[.val (.long p1), .second, .val (.long p2), .second, .val (.long p3), .second, .val (.long p4), .second, .val (.int p5), .val (.ref b1), .val (.int (p5 &&& (3 : Int32))), .val (.long p3), .second, .val (.long p4), .second, .val (.ref b6), .val (.int (0 : Int32))] [(.ref b6), (.ref b1)])) rfl (by rw [hml]; rfl) (Steps.refl _) (argsL := [(.ref b6)]) (rest := []) (lenOf pd36 rfl) rfl (by show 2 * 0 + _ ≤ _; exact Nat.le_of_eq rfl) (hb hby at_94) (fun _ _ => ⟨rfl, rfl, (by decide : 2 + 0 ≤ _), (by decide : 4 + 0 ≤ _)⟩)
            dsimp only [Pt.U, Pt.locs, Pt.cells, Pt.slots] at X10 l10 y10 z10 st10 hQ10
            subst l10 y10 z10
            obtain ⟨rfl, N10q, e10⟩ := hQ10
            have N10 := Fr.app N7 N10q
            obtain ⟨cq11, kq11, q11a, q11b, q11c⟩ := isOf hZ e10 pf7_0
            obtain ⟨_, _, ⟨T11, L11, k11, n11⟩, -, X11, ⟨Lc11, hQ11, l11, y11, z11⟩, st11⟩ := X10.virtualBack hx (y := (⟨"com/example/melog/melog/model/TimestampedOffset", "equals", "(Ljava/lang/Object;)Z"⟩ : MethodName)) (z := (⟨"com/example/melog/melog/model/TimestampedOffset", "equals", "(Ljava/lang/Object;)Z"⟩ : MethodName)) hown (mvT hZ (hw _ (List.mem_of_getElem? (i := 13) rfl))) (mvT hZ (hw _ (List.mem_of_getElem? (i := 14) rfl))) (notFace_of_selects (args := #[]) (mvT hZ (hw _ (List.mem_of_getElem? (i := 16) rfl)))) (mvT hZ (hw _ (List.mem_of_getElem? (i := 16) rfl))) (mvT hZ (hw _ (List.mem_of_getElem? (i := 15) rfl))) (by decide) (backOf (W := 0) (rm3_2 l Z a0 hw [] w_cache cl_w_cache b6 b1 p3 p4 p1 p2 T7.heap n0 (own_n0 O7) O7 HW pf7_0 pf7_1 pf7_2 ((pf2_0.ext E6).keep K7) ((pf2_1.ext E6).keep K7 (ninS (Nat.ne_of_lt (Nat.lt_of_lt_of_le pf2_0.lt bo_b6)) nin0)) ((pf2_2.ext E6).keep K7 (ninS (Nat.ne_of_lt (Nat.lt_of_lt_of_le pf2_0.lt bo_b6)) nin0)) (Eq.symm hd3) (fun q => hd4 (Eq.symm q))) hZ (hw _ (List.mem_of_getElem? (i := 17) rfl)) (hw _ (List.mem_of_getElem? (i := 2) rfl)) (by decide) (by decide)) q11a q11c (g := (mkF m 106 #[.val (.long p1), .second, .val (.long p2), .second, .val (.long p3), .second, .val (.long p4), .second, .val (.int p5), .val (.ref b1), .val (.int (p5 &&& (3 : Int32))), .val (.long p3), .second, .val (.long p4), .second, .val (.ref b6), .val (.int (0 : Int32))] [(.ref b1), (.ref b6)])) rfl (by rw [hml]; rfl) (Steps.refl _) (argsL := [(.ref b1)]) (rest := []) (lenOf pd36 rfl) rfl (by show 2 * 0 + _ ≤ _; exact Nat.le_of_eq rfl) (hb hby at_106) (fun _ _ => ⟨rfl, e10, (by decide : 2 + 0 ≤ _), (by decide : 4 + 0 ≤ _)⟩)
            dsimp only [Pt.U, Pt.locs, Pt.cells, Pt.slots] at X11 l11 y11 z11 st11 hQ11
            subst l11 y11 z11
            obtain ⟨rfl, N11q, e11⟩ := hQ11
            have N11 := Fr.app N10 N11q
            obtain ⟨fs, hr, hrun, hended, hW, hsame⟩ := X11.leave (v := some (.int (1 : Int32))) (fun h => by rw [Bd.returns] at h; cases h)
            refine ⟨_, _, c9 _ ?_, hrun, hended, _, _, rfl, ?_, ⟨_, rfl⟩, hW, hsame.mono (by decide) (by decide)⟩
            · show Steps p.tables e below (T7.setTop (mkF m 80 #[.val (.long p1), .second, .val (.long p2), .second, .val (.long p3), .second, .val (.long p4), .second, .val (.int p5), .val (.ref b1), .val (.int (p5 &&& (3 : Int32))), .val (.long p3), .second, .val (.long p4), .second, .val (.ref b6), .unset] [(.int (lcmpW p4 p2))])) _
              refine XS.ifYes X7.here hx rfl (pc0 := 80) (pc' := 87) rfl (hb hby at_80) rfl ((if0 _ _).trans (feq (fun q => hd4 ((lw_eq p4 p2).mp q))).2) (by decide) (by decide) ?_
              show Steps p.tables e below (T7.setTop (mkF m 87 #[.val (.long p1), .second, .val (.long p2), .second, .val (.long p3), .second, .val (.long p4), .second, .val (.int p5), .val (.ref b1), .val (.int (p5 &&& (3 : Int32))), .val (.long p3), .second, .val (.long p4), .second, .val (.ref b6), .unset] [])) _
              refine XS.iconst X7.here hx rfl (hb hby at_87) ?_
              show Steps p.tables e below (T7.setTop (mkF m 88 #[.val (.long p1), .second, .val (.long p2), .second, .val (.long p3), .second, .val (.long p4), .second, .val (.int p5), .val (.ref b1), .val (.int (p5 &&& (3 : Int32))), .val (.long p3), .second, .val (.long p4), .second, .val (.ref b6), .unset] [(.int (0 : Int32))])) _
              refine XS.istore X7.here hx rfl (hb hby at_88) rfl (l' := #[.val (.long p1), .second, .val (.long p2), .second, .val (.long p3), .second, .val (.long p4), .second, .val (.int p5), .val (.ref b1), .val (.int (p5 &&& (3 : Int32))), .val (.long p3), .second, .val (.long p4), .second, .val (.ref b6), .val (.int (0 : Int32))]) rfl ?_
              show Steps p.tables e below (T7.setTop (mkF m 90 #[.val (.long p1), .second, .val (.long p2), .second, .val (.long p3), .second, .val (.long p4), .second, .val (.int p5), .val (.ref b1), .val (.int (p5 &&& (3 : Int32))), .val (.long p3), .second, .val (.long p4), .second, .val (.ref b6), .val (.int (0 : Int32))] [])) _
              refine XS.aload X7.here hx rfl (hb hby at_90) rfl rfl ?_
              show Steps p.tables e below (T7.setTop (mkF m 92 #[.val (.long p1), .second, .val (.long p2), .second, .val (.long p3), .second, .val (.long p4), .second, .val (.int p5), .val (.ref b1), .val (.int (p5 &&& (3 : Int32))), .val (.long p3), .second, .val (.long p4), .second, .val (.ref b6), .val (.int (0 : Int32))] [(.ref b1)])) _
              refine XS.aload X7.here hx rfl (hb hby at_92) rfl rfl ?_
              show Steps p.tables e below (T7.setTop (mkF m 94 #[.val (.long p1), .second, .val (.long p2), .second, .val (.long p3), .second, .val (.long p4), .second, .val (.int p5), .val (.ref b1), .val (.int (p5 &&& (3 : Int32))), .val (.long p3), .second, .val (.long p4), .second, .val (.ref b6), .val (.int (0 : Int32))] [(.ref b6), (.ref b1)])) _
              refine st10.trans ?_
              show Steps p.tables e below (T10.setTop (mkF m 97 #[.val (.long p1), .second, .val (.long p2), .second, .val (.long p3), .second, .val (.long p4), .second, .val (.int p5), .val (.ref b1), .val (.int (p5 &&& (3 : Int32))), .val (.long p3), .second, .val (.long p4), .second, .val (.ref b6), .val (.int (0 : Int32))] [(.int (0 : Int32))])) _
              refine XS.iload X10.here hx rfl (hb hby at_97) rfl ?_
              show Steps p.tables e below (T10.setTop (mkF m 99 #[.val (.long p1), .second, .val (.long p2), .second, .val (.long p3), .second, .val (.long p4), .second, .val (.int p5), .val (.ref b1), .val (.int (p5 &&& (3 : Int32))), .val (.long p3), .second, .val (.long p4), .second, .val (.ref b6), .val (.int (0 : Int32))] [(.int (0 : Int32)), (.int (0 : Int32))])) _
              refine XS.icmpNo X10.here hx rfl (hb hby at_99) rfl (teq (by decide : (0 : Int32) = (0 : Int32))).2 ?_
              show Steps p.tables e below (T10.setTop (mkF m 102 #[.val (.long p1), .second, .val (.long p2), .second, .val (.long p3), .second, .val (.long p4), .second, .val (.int p5), .val (.ref b1), .val (.int (p5 &&& (3 : Int32))), .val (.long p3), .second, .val (.long p4), .second, .val (.ref b6), .val (.int (0 : Int32))] [])) _
              refine XS.aload X10.here hx rfl (hb hby at_102) rfl rfl ?_
              show Steps p.tables e below (T10.setTop (mkF m 104 #[.val (.long p1), .second, .val (.long p2), .second, .val (.long p3), .second, .val (.long p4), .second, .val (.int p5), .val (.ref b1), .val (.int (p5 &&& (3 : Int32))), .val (.long p3), .second, .val (.long p4), .second, .val (.ref b6), .val (.int (0 : Int32))] [(.ref b6)])) _
              refine XS.aload X10.here hx rfl (hb hby at_104) rfl rfl ?_
              show Steps p.tables e below (T10.setTop (mkF m 106 #[.val (.long p1), .second, .val (.long p2), .second, .val (.long p3), .second, .val (.long p4), .second, .val (.int p5), .val (.ref b1), .val (.int (p5 &&& (3 : Int32))), .val (.long p3), .second, .val (.long p4), .second, .val (.ref b6), .val (.int (0 : Int32))] [(.ref b1), (.ref b6)])) _
              refine st11.trans ?_
              show Steps p.tables e below (T11.setTop (mkF m 109 #[.val (.long p1), .second, .val (.long p2), .second, .val (.long p3), .second, .val (.long p4), .second, .val (.int p5), .val (.ref b1), .val (.int (p5 &&& (3 : Int32))), .val (.long p3), .second, .val (.long p4), .second, .val (.ref b6), .val (.int (0 : Int32))] [(.int (0 : Int32))])) _
              refine XS.iload X11.here hx rfl (hb hby at_109) rfl ?_
              show Steps p.tables e below (T11.setTop (mkF m 111 #[.val (.long p1), .second, .val (.long p2), .second, .val (.long p3), .second, .val (.long p4), .second, .val (.int p5), .val (.ref b1), .val (.int (p5 &&& (3 : Int32))), .val (.long p3), .second, .val (.long p4), .second, .val (.ref b6), .val (.int (0 : Int32))] [(.int (0 : Int32)), (.int (0 : Int32))])) _
              refine XS.icmpNo X11.here hx rfl (hb hby at_111) rfl (teq (by decide : (0 : Int32) = (0 : Int32))).2 ?_
              show Steps p.tables e below (T11.setTop (mkF m 114 #[.val (.long p1), .second, .val (.long p2), .second, .val (.long p3), .second, .val (.long p4), .second, .val (.int p5), .val (.ref b1), .val (.int (p5 &&& (3 : Int32))), .val (.long p3), .second, .val (.long p4), .second, .val (.ref b6), .val (.int (0 : Int32))] [])) _
              refine XS.iconst X11.here hx rfl (hb hby at_114) ?_
              show Steps p.tables e below (T11.setTop (mkF m 115 #[.val (.long p1), .second, .val (.long p2), .second, .val (.long p3), .second, .val (.long p4), .second, .val (.int p5), .val (.ref b1), .val (.int (p5 &&& (3 : Int32))), .val (.long p3), .second, .val (.long p4), .second, .val (.ref b6), .val (.int (0 : Int32))] [(.int (1 : Int32))])) _
              refine XS.goto X11.here hx rfl (pc0 := 115) (pc' := 119) rfl (hb hby at_115) (by decide) (by decide) ?_
              show Steps p.tables e below (T11.setTop (mkF m 119 #[.val (.long p1), .second, .val (.long p2), .second, .val (.long p3), .second, .val (.long p4), .second, .val (.int p5), .val (.ref b1), .val (.int (p5 &&& (3 : Int32))), .val (.long p3), .second, .val (.long p4), .second, .val (.ref b6), .val (.int (0 : Int32))] [(.int (1 : Int32))])) _
              exact retN X11 hx (t := .boolean) Bd.returns (by simp) (hb hby at_119) hr
            · exact ⟨rfl, N11⟩
        · skip
          obtain ⟨cq9, kq9, q9a, q9b, q9c⟩ := isOf hZ rfl ((pf2_0.ext E6).keep K7)
          obtain ⟨_, _, ⟨T9, L9, k9, n9⟩, -, X9, ⟨Lc9, hQ9, l9, y9, z9⟩, st9⟩ := X7.virtualBack hx (y := (⟨"com/example/melog/melog/model/TimestampedOffset", "equals", "(Ljava/lang/Object;)Z"⟩ : MethodName)) (z := (⟨"com/example/melog/melog/model/TimestampedOffset", "equals", "(Ljava/lang/Object;)Z"⟩ : MethodName)) hown (mvT hZ (hw _ (List.mem_of_getElem? (i := 13) rfl))) (mvT hZ (hw _ (List.mem_of_getElem? (i := 14) rfl))) (notFace_of_selects (args := #[]) (mvT hZ (hw _ (List.mem_of_getElem? (i := 16) rfl)))) (mvT hZ (hw _ (List.mem_of_getElem? (i := 16) rfl))) (mvT hZ (hw _ (List.mem_of_getElem? (i := 15) rfl))) (by decide) (backOf (W := 0) (rm3_3 l Z a0 hw [] w_cache cl_w_cache b1 b6 p1 p2 p3 p4 T7.heap n0 (own_n0 O7) O7 HW ((pf2_0.ext E6).keep K7) ((pf2_1.ext E6).keep K7 (ninS (Nat.ne_of_lt (Nat.lt_of_lt_of_le pf2_0.lt bo_b6)) nin0)) ((pf2_2.ext E6).keep K7 (ninS (Nat.ne_of_lt (Nat.lt_of_lt_of_le pf2_0.lt bo_b6)) nin0)) pf7_0 pf7_1 pf7_2 hd3) hZ (hw _ (List.mem_of_getElem? (i := 17) rfl)) (hw _ (List.mem_of_getElem? (i := 2) rfl)) (by decide) (by decide)) q9a q9c (g := (mkF m 94 #[.val (.long p1), .second, .val (.long p2), .second, .val (.long p3), .second, .val (.long p4), .second, .val (.int p5), .val (.ref b1), .val (.int (p5 &&& (3 : Int32))), .val (.long p3), .second, .val (.long p4), .second, .val (.ref b6), .val (.int (0 : Int32))] [(.ref b6), (.ref b1)])) rfl (by rw [hml]; rfl) (Steps.refl _) (argsL := [(.ref b6)]) (rest := []) (lenOf pd36 rfl) rfl (by show 2 * 0 + _ ≤ _; exact Nat.le_of_eq rfl) (hb hby at_94) (fun _ _ => ⟨rfl, rfl, (by decide : 2 + 0 ≤ _), (by decide : 4 + 0 ≤ _)⟩)
          dsimp only [Pt.U, Pt.locs, Pt.cells, Pt.slots] at X9 l9 y9 z9 st9 hQ9
          subst l9 y9 z9
          obtain ⟨rfl, N9q, e9⟩ := hQ9
          have N9 := Fr.app N7 N9q
          obtain ⟨cq10, kq10, q10a, q10b, q10c⟩ := isOf hZ e9 pf7_0
          obtain ⟨_, _, ⟨T10, L10, k10, n10⟩, -, X10, ⟨Lc10, hQ10, l10, y10, z10⟩, st10⟩ := X9.virtualBack hx (y := (⟨"com/example/melog/melog/model/TimestampedOffset", "equals", "(Ljava/lang/Object;)Z"⟩ : MethodName)) (z := (⟨"com/example/melog/melog/model/TimestampedOffset", "equals", "(Ljava/lang/Object;)Z"⟩ : MethodName)) hown (mvT hZ (hw _ (List.mem_of_getElem? (i := 13) rfl))) (mvT hZ (hw _ (List.mem_of_getElem? (i := 14) rfl))) (notFace_of_selects (args := #[]) (mvT hZ (hw _ (List.mem_of_getElem? (i := 16) rfl)))) (mvT hZ (hw _ (List.mem_of_getElem? (i := 16) rfl))) (mvT hZ (hw _ (List.mem_of_getElem? (i := 15) rfl))) (by decide) (backOf (W := 0) (rm3_3 l Z a0 hw [] w_cache cl_w_cache b6 b1 p3 p4 p1 p2 T7.heap n0 (own_n0 O7) O7 HW pf7_0 pf7_1 pf7_2 ((pf2_0.ext E6).keep K7) ((pf2_1.ext E6).keep K7 (ninS (Nat.ne_of_lt (Nat.lt_of_lt_of_le pf2_0.lt bo_b6)) nin0)) ((pf2_2.ext E6).keep K7 (ninS (Nat.ne_of_lt (Nat.lt_of_lt_of_le pf2_0.lt bo_b6)) nin0)) (fun q => hd3 (Eq.symm q))) hZ (hw _ (List.mem_of_getElem? (i := 17) rfl)) (hw _ (List.mem_of_getElem? (i := 2) rfl)) (by decide) (by decide)) q10a q10c (g := (mkF m 106 #[.val (.long p1), .second, .val (.long p2), .second, .val (.long p3), .second, .val (.long p4), .second, .val (.int p5), .val (.ref b1), .val (.int (p5 &&& (3 : Int32))), .val (.long p3), .second, .val (.long p4), .second, .val (.ref b6), .val (.int (0 : Int32))] [(.ref b1), (.ref b6)])) rfl (by rw [hml]; rfl) (Steps.refl _) (argsL := [(.ref b1)]) (rest := []) (lenOf pd36 rfl) rfl (by show 2 * 0 + _ ≤ _; exact Nat.le_of_eq rfl) (hb hby at_106) (fun _ _ => ⟨rfl, e9, (by decide : 2 + 0 ≤ _), (by decide : 4 + 0 ≤ _)⟩)
          dsimp only [Pt.U, Pt.locs, Pt.cells, Pt.slots] at X10 l10 y10 z10 st10 hQ10
          subst l10 y10 z10
          obtain ⟨rfl, N10q, e10⟩ := hQ10
          have N10 := Fr.app N9 N10q
          obtain ⟨fs, hr, hrun, hended, hW, hsame⟩ := X10.leave (v := some (.int (1 : Int32))) (fun h => by rw [Bd.returns] at h; cases h)
          refine ⟨_, _, c8 _ ?_, hrun, hended, _, _, rfl, ?_, ⟨_, rfl⟩, hW, hsame.mono (by decide) (by decide)⟩
          · show Steps p.tables e below (T7.setTop (mkF m 73 #[.val (.long p1), .second, .val (.long p2), .second, .val (.long p3), .second, .val (.long p4), .second, .val (.int p5), .val (.ref b1), .val (.int (p5 &&& (3 : Int32))), .val (.long p3), .second, .val (.long p4), .second, .val (.ref b6), .unset] [(.int (lcmpW p3 p1))])) _
            refine XS.ifYes X7.here hx rfl (pc0 := 73) (pc' := 87) rfl (hb hby at_73) rfl ((if0 _ _).trans (feq (fun q => hd3 ((lw_eq p3 p1).mp q))).2) (by decide) (by decide) ?_
            show Steps p.tables e below (T7.setTop (mkF m 87 #[.val (.long p1), .second, .val (.long p2), .second, .val (.long p3), .second, .val (.long p4), .second, .val (.int p5), .val (.ref b1), .val (.int (p5 &&& (3 : Int32))), .val (.long p3), .second, .val (.long p4), .second, .val (.ref b6), .unset] [])) _
            refine XS.iconst X7.here hx rfl (hb hby at_87) ?_
            show Steps p.tables e below (T7.setTop (mkF m 88 #[.val (.long p1), .second, .val (.long p2), .second, .val (.long p3), .second, .val (.long p4), .second, .val (.int p5), .val (.ref b1), .val (.int (p5 &&& (3 : Int32))), .val (.long p3), .second, .val (.long p4), .second, .val (.ref b6), .unset] [(.int (0 : Int32))])) _
            refine XS.istore X7.here hx rfl (hb hby at_88) rfl (l' := #[.val (.long p1), .second, .val (.long p2), .second, .val (.long p3), .second, .val (.long p4), .second, .val (.int p5), .val (.ref b1), .val (.int (p5 &&& (3 : Int32))), .val (.long p3), .second, .val (.long p4), .second, .val (.ref b6), .val (.int (0 : Int32))]) rfl ?_
            show Steps p.tables e below (T7.setTop (mkF m 90 #[.val (.long p1), .second, .val (.long p2), .second, .val (.long p3), .second, .val (.long p4), .second, .val (.int p5), .val (.ref b1), .val (.int (p5 &&& (3 : Int32))), .val (.long p3), .second, .val (.long p4), .second, .val (.ref b6), .val (.int (0 : Int32))] [])) _
            refine XS.aload X7.here hx rfl (hb hby at_90) rfl rfl ?_
            show Steps p.tables e below (T7.setTop (mkF m 92 #[.val (.long p1), .second, .val (.long p2), .second, .val (.long p3), .second, .val (.long p4), .second, .val (.int p5), .val (.ref b1), .val (.int (p5 &&& (3 : Int32))), .val (.long p3), .second, .val (.long p4), .second, .val (.ref b6), .val (.int (0 : Int32))] [(.ref b1)])) _
            refine XS.aload X7.here hx rfl (hb hby at_92) rfl rfl ?_
            show Steps p.tables e below (T7.setTop (mkF m 94 #[.val (.long p1), .second, .val (.long p2), .second, .val (.long p3), .second, .val (.long p4), .second, .val (.int p5), .val (.ref b1), .val (.int (p5 &&& (3 : Int32))), .val (.long p3), .second, .val (.long p4), .second, .val (.ref b6), .val (.int (0 : Int32))] [(.ref b6), (.ref b1)])) _
            refine st9.trans ?_
            show Steps p.tables e below (T9.setTop (mkF m 97 #[.val (.long p1), .second, .val (.long p2), .second, .val (.long p3), .second, .val (.long p4), .second, .val (.int p5), .val (.ref b1), .val (.int (p5 &&& (3 : Int32))), .val (.long p3), .second, .val (.long p4), .second, .val (.ref b6), .val (.int (0 : Int32))] [(.int (0 : Int32))])) _
            refine XS.iload X9.here hx rfl (hb hby at_97) rfl ?_
            show Steps p.tables e below (T9.setTop (mkF m 99 #[.val (.long p1), .second, .val (.long p2), .second, .val (.long p3), .second, .val (.long p4), .second, .val (.int p5), .val (.ref b1), .val (.int (p5 &&& (3 : Int32))), .val (.long p3), .second, .val (.long p4), .second, .val (.ref b6), .val (.int (0 : Int32))] [(.int (0 : Int32)), (.int (0 : Int32))])) _
            refine XS.icmpNo X9.here hx rfl (hb hby at_99) rfl (teq (by decide : (0 : Int32) = (0 : Int32))).2 ?_
            show Steps p.tables e below (T9.setTop (mkF m 102 #[.val (.long p1), .second, .val (.long p2), .second, .val (.long p3), .second, .val (.long p4), .second, .val (.int p5), .val (.ref b1), .val (.int (p5 &&& (3 : Int32))), .val (.long p3), .second, .val (.long p4), .second, .val (.ref b6), .val (.int (0 : Int32))] [])) _
            refine XS.aload X9.here hx rfl (hb hby at_102) rfl rfl ?_
            show Steps p.tables e below (T9.setTop (mkF m 104 #[.val (.long p1), .second, .val (.long p2), .second, .val (.long p3), .second, .val (.long p4), .second, .val (.int p5), .val (.ref b1), .val (.int (p5 &&& (3 : Int32))), .val (.long p3), .second, .val (.long p4), .second, .val (.ref b6), .val (.int (0 : Int32))] [(.ref b6)])) _
            refine XS.aload X9.here hx rfl (hb hby at_104) rfl rfl ?_
            show Steps p.tables e below (T9.setTop (mkF m 106 #[.val (.long p1), .second, .val (.long p2), .second, .val (.long p3), .second, .val (.long p4), .second, .val (.int p5), .val (.ref b1), .val (.int (p5 &&& (3 : Int32))), .val (.long p3), .second, .val (.long p4), .second, .val (.ref b6), .val (.int (0 : Int32))] [(.ref b1), (.ref b6)])) _
            refine st10.trans ?_
            show Steps p.tables e below (T10.setTop (mkF m 109 #[.val (.long p1), .second, .val (.long p2), .second, .val (.long p3), .second, .val (.long p4), .second, .val (.int p5), .val (.ref b1), .val (.int (p5 &&& (3 : Int32))), .val (.long p3), .second, .val (.long p4), .second, .val (.ref b6), .val (.int (0 : Int32))] [(.int (0 : Int32))])) _
            refine XS.iload X10.here hx rfl (hb hby at_109) rfl ?_
            show Steps p.tables e below (T10.setTop (mkF m 111 #[.val (.long p1), .second, .val (.long p2), .second, .val (.long p3), .second, .val (.long p4), .second, .val (.int p5), .val (.ref b1), .val (.int (p5 &&& (3 : Int32))), .val (.long p3), .second, .val (.long p4), .second, .val (.ref b6), .val (.int (0 : Int32))] [(.int (0 : Int32)), (.int (0 : Int32))])) _
            refine XS.icmpNo X10.here hx rfl (hb hby at_111) rfl (teq (by decide : (0 : Int32) = (0 : Int32))).2 ?_
            show Steps p.tables e below (T10.setTop (mkF m 114 #[.val (.long p1), .second, .val (.long p2), .second, .val (.long p3), .second, .val (.long p4), .second, .val (.int p5), .val (.ref b1), .val (.int (p5 &&& (3 : Int32))), .val (.long p3), .second, .val (.long p4), .second, .val (.ref b6), .val (.int (0 : Int32))] [])) _
            refine XS.iconst X10.here hx rfl (hb hby at_114) ?_
            show Steps p.tables e below (T10.setTop (mkF m 115 #[.val (.long p1), .second, .val (.long p2), .second, .val (.long p3), .second, .val (.long p4), .second, .val (.int p5), .val (.ref b1), .val (.int (p5 &&& (3 : Int32))), .val (.long p3), .second, .val (.long p4), .second, .val (.ref b6), .val (.int (0 : Int32))] [(.int (1 : Int32))])) _
            refine XS.goto X10.here hx rfl (pc0 := 115) (pc' := 119) rfl (hb hby at_115) (by decide) (by decide) ?_
            show Steps p.tables e below (T10.setTop (mkF m 119 #[.val (.long p1), .second, .val (.long p2), .second, .val (.long p3), .second, .val (.long p4), .second, .val (.int p5), .val (.ref b1), .val (.int (p5 &&& (3 : Int32))), .val (.long p3), .second, .val (.long p4), .second, .val (.ref b6), .val (.int (0 : Int32))] [(.int (1 : Int32))])) _
            exact retN X10 hx (t := .boolean) Bd.returns (by simp) (hb hby at_119) hr
          · exact ⟨rfl, N10⟩
      · skip
        obtain ⟨T6, h6, X6, e6, E6, A6, D6, -, st6⟩ := newO X2 hx hZ hown (hw _ (List.mem_of_getElem? (i := 0) rfl)) (hw _ (List.mem_of_getElem? (i := 1) rfl)) (hw _ (List.mem_of_getElem? (i := 2) rfl)) rfl (g := (mkF m 56 #[.val (.long p1), .second, .val (.long p2), .second, .val (.long p3), .second, .val (.long p4), .second, .val (.int p5), .val (.ref b1), .val (.int (p5 &&& (3 : Int32))), .val (.long p3), .second, .val (.long p2), .second, .unset, .unset] [])) rfl (hb hby at_56) (by decide) (by decide)
        obtain ⟨b6, gg6⟩ : ∃ z, z = T2.heap.size := ⟨_, rfl⟩
        rw [← gg6] at A6 D6 st6
        have bo_b6 : T2.heap.size ≤ b6 := Nat.le_of_eq gg6.symm
        have g_b6 : n0 ≤ b6 := Nat.le_trans (own_n0 O2) bo_b6
        have O6 := O2.ext E6
        have F_offset_b6 : Fld Z h6 b6 "com/example/melog/melog/model/TimestampedOffset" "offset" "J" (.long (0 : Int64)) := D6 (Or.inr (hw _ (List.mem_of_getElem? (i := 10) rfl))) (ty := .long) (by decide)
        have F_timestamp_b6 : Fld Z h6 b6 "com/example/melog/melog/model/TimestampedOffset" "timestamp" "J" (.long (0 : Int64)) := D6 (Or.inr (hw _ (List.mem_of_getElem? (i := 12) rfl))) (ty := .long) (by decide)
        obtain ⟨_, _, ⟨T7, L7, k7, n7⟩, -, X7, ⟨Lc7, hQ7, l7, y7, z7⟩, st7⟩ := X6.specialBack hx (y := (⟨"com/example/melog/melog/model/TimestampedOffset", "<init>", "(JJ)V"⟩ : MethodName)) rfl hown (mvT hZ (hw _ (List.mem_of_getElem? (i := 3) rfl))) (mvT hZ (hw _ (List.mem_of_getElem? (i := 4) rfl))) (mvT hZ (hw _ (List.mem_of_getElem? (i := 5) rfl))) (by decide) (backOf (W := 1) (rm1_0 l Z a0 hw [] w_cache cl_w_cache b6 p3 p2 h6 n0 (own_n0 O6) O6 HW A6 F_offset_b6 F_timestamp_b6 g_b6) hZ (hw _ (List.mem_of_getElem? (i := 5) rfl)) (hw _ (List.mem_of_getElem? (i := 2) rfl)) (by decide) (by decide)) (g := (mkF m 64 #[.val (.long p1), .second, .val (.long p2), .second, .val (.long p3), .second, .val (.long p4), .second, .val (.int p5), .val (.ref b1), .val (.int (p5 &&& (3 : Int32))), .val (.long p3), .second, .val (.long p2), .second, .unset, .unset] [(.long p2), (.long p3), (.ref b6), (.ref b6)])) rfl (by rw [hml]; rfl) (Steps.refl _) (a := b6) (argsL := [(.long p3), (.long p2)]) (rest := [(.ref b6)]) (lenOf pd12 rfl) rfl (by show 2 * 0 + _ ≤ _; exact Nat.le_of_eq rfl) (hb hby at_64) (fun _ _ => ⟨rfl, e6, (by decide : 2 + 0 ≤ _), (by decide : 4 + 0 ≤ _)⟩)
        dsimp only [Pt.U, Pt.locs, Pt.cells, Pt.slots] at X7 l7 y7 z7 st7 hQ7
        subst l7 y7 z7
        obtain ⟨rfl, N7q, K7, O7, pf7_0, pf7_1, pf7_2, -⟩ := hQ7
        have N7 := Fr.app N2 N7q
        have c8 : ∀ t, Steps p.tables e below (T7.setTop (mkF m 73 #[.val (.long p1), .second, .val (.long p2), .second, .val (.long p3), .second, .val (.long p4), .second, .val (.int p5), .val (.ref b1), .val (.int (p5 &&& (3 : Int32))), .val (.long p3), .second, .val (.long p2), .second, .val (.ref b6), .unset] [(.int (lcmpW p3 p1))])) t → Steps p.tables e below (s₁.setTop (entryFrame m #[(.long p1), (.long p2), (.long p3), (.long p4), (.int p5)] maxLocals)) t := fun t kt => c5 _ (by
          show Steps p.tables e below (T2.setTop (mkF m 45 #[.val (.long p1), .second, .val (.long p2), .second, .val (.long p3), .second, .val (.long p4), .second, .val (.int p5), .val (.ref b1), .val (.int (p5 &&& (3 : Int32))), .val (.long p3), .second, .unset, .unset, .unset, .unset] [(.int ((p5 >>> ((3 : Int32) &&& 31)) &&& (1 : Int32)))])) _
          refine XS.ifNo X2.here hx rfl (hb hby at_45) rfl ((if0 _ _).trans (feq hd2).1) ?_
          show Steps p.tables e below (T2.setTop (mkF m 48 #[.val (.long p1), .second, .val (.long p2), .second, .val (.long p3), .second, .val (.long p4), .second, .val (.int p5), .val (.ref b1), .val (.int (p5 &&& (3 : Int32))), .val (.long p3), .second, .unset, .unset, .unset, .unset] [])) _
          refine XS.lloadN X2.here hx rfl (hb hby at_48) rfl ?_
          show Steps p.tables e below (T2.setTop (mkF m 49 #[.val (.long p1), .second, .val (.long p2), .second, .val (.long p3), .second, .val (.long p4), .second, .val (.int p5), .val (.ref b1), .val (.int (p5 &&& (3 : Int32))), .val (.long p3), .second, .unset, .unset, .unset, .unset] [(.long p2)])) _
          refine XS.goto X2.here hx rfl (pc0 := 49) (pc' := 54) rfl (hb hby at_49) (by decide) (by decide) ?_
          show Steps p.tables e below (T2.setTop (mkF m 54 #[.val (.long p1), .second, .val (.long p2), .second, .val (.long p3), .second, .val (.long p4), .second, .val (.int p5), .val (.ref b1), .val (.int (p5 &&& (3 : Int32))), .val (.long p3), .second, .unset, .unset, .unset, .unset] [(.long p2)])) _
          refine XS.lstore X2.here hx rfl (hb hby at_54) rfl (l' := #[.val (.long p1), .second, .val (.long p2), .second, .val (.long p3), .second, .val (.long p4), .second, .val (.int p5), .val (.ref b1), .val (.int (p5 &&& (3 : Int32))), .val (.long p3), .second, .val (.long p2), .second, .unset, .unset]) rfl ?_
          show Steps p.tables e below (T2.setTop (mkF m 56 #[.val (.long p1), .second, .val (.long p2), .second, .val (.long p3), .second, .val (.long p4), .second, .val (.int p5), .val (.ref b1), .val (.int (p5 &&& (3 : Int32))), .val (.long p3), .second, .val (.long p2), .second, .unset, .unset] [])) _
          refine st6 _ ?_
          show Steps p.tables e below (T6.setTop (mkF m 59 #[.val (.long p1), .second, .val (.long p2), .second, .val (.long p3), .second, .val (.long p4), .second, .val (.int p5), .val (.ref b1), .val (.int (p5 &&& (3 : Int32))), .val (.long p3), .second, .val (.long p2), .second, .unset, .unset] [(.ref b6)])) _
          refine XS.dup X6.here hx rfl (hb hby at_59) rfl rfl ?_
          show Steps p.tables e below (T6.setTop (mkF m 60 #[.val (.long p1), .second, .val (.long p2), .second, .val (.long p3), .second, .val (.long p4), .second, .val (.int p5), .val (.ref b1), .val (.int (p5 &&& (3 : Int32))), .val (.long p3), .second, .val (.long p2), .second, .unset, .unset] [(.ref b6), (.ref b6)])) _
          refine XS.lload X6.here hx rfl (hb hby at_60) rfl ?_
          show Steps p.tables e below (T6.setTop (mkF m 62 #[.val (.long p1), .second, .val (.long p2), .second, .val (.long p3), .second, .val (.long p4), .second, .val (.int p5), .val (.ref b1), .val (.int (p5 &&& (3 : Int32))), .val (.long p3), .second, .val (.long p2), .second, .unset, .unset] [(.long p3), (.ref b6), (.ref b6)])) _
          refine XS.lload X6.here hx rfl (hb hby at_62) rfl ?_
          show Steps p.tables e below (T6.setTop (mkF m 64 #[.val (.long p1), .second, .val (.long p2), .second, .val (.long p3), .second, .val (.long p4), .second, .val (.int p5), .val (.ref b1), .val (.int (p5 &&& (3 : Int32))), .val (.long p3), .second, .val (.long p2), .second, .unset, .unset] [(.long p2), (.long p3), (.ref b6), (.ref b6)])) _
          refine st7.trans ?_
          show Steps p.tables e below (T7.setTop (mkF m 67 #[.val (.long p1), .second, .val (.long p2), .second, .val (.long p3), .second, .val (.long p4), .second, .val (.int p5), .val (.ref b1), .val (.int (p5 &&& (3 : Int32))), .val (.long p3), .second, .val (.long p2), .second, .unset, .unset] [(.ref b6)])) _
          refine XS.astore X7.here hx rfl (hb hby at_67) rfl rfl (l' := #[.val (.long p1), .second, .val (.long p2), .second, .val (.long p3), .second, .val (.long p4), .second, .val (.int p5), .val (.ref b1), .val (.int (p5 &&& (3 : Int32))), .val (.long p3), .second, .val (.long p2), .second, .val (.ref b6), .unset]) rfl ?_
          show Steps p.tables e below (T7.setTop (mkF m 69 #[.val (.long p1), .second, .val (.long p2), .second, .val (.long p3), .second, .val (.long p4), .second, .val (.int p5), .val (.ref b1), .val (.int (p5 &&& (3 : Int32))), .val (.long p3), .second, .val (.long p2), .second, .val (.ref b6), .unset] [])) _
          refine XS.lload X7.here hx rfl (hb hby at_69) rfl ?_
          show Steps p.tables e below (T7.setTop (mkF m 71 #[.val (.long p1), .second, .val (.long p2), .second, .val (.long p3), .second, .val (.long p4), .second, .val (.int p5), .val (.ref b1), .val (.int (p5 &&& (3 : Int32))), .val (.long p3), .second, .val (.long p2), .second, .val (.ref b6), .unset] [(.long p3)])) _
          refine XS.lloadN X7.here hx rfl (hb hby at_71) rfl ?_
          show Steps p.tables e below (T7.setTop (mkF m 72 #[.val (.long p1), .second, .val (.long p2), .second, .val (.long p3), .second, .val (.long p4), .second, .val (.int p5), .val (.ref b1), .val (.int (p5 &&& (3 : Int32))), .val (.long p3), .second, .val (.long p2), .second, .val (.ref b6), .unset] [(.long p1), (.long p3)])) _
          refine XS.lcmp X7.here hx rfl (hb hby at_72) rfl ?_
          show Steps p.tables e below (T7.setTop (mkF m 73 #[.val (.long p1), .second, .val (.long p2), .second, .val (.long p3), .second, .val (.long p4), .second, .val (.int p5), .val (.ref b1), .val (.int (p5 &&& (3 : Int32))), .val (.long p3), .second, .val (.long p2), .second, .val (.ref b6), .unset] [(.int (lcmpW p3 p1))])) _
          exact kt)
        by_cases hd3 : p3 = p1
        · skip
          obtain ⟨cq9, kq9, q9a, q9b, q9c⟩ := isOf hZ rfl ((pf2_0.ext E6).keep K7)
          obtain ⟨_, _, ⟨T9, L9, k9, n9⟩, -, X9, ⟨Lc9, hQ9, l9, y9, z9⟩, st9⟩ := X7.virtualBack hx (y := (⟨"com/example/melog/melog/model/TimestampedOffset", "equals", "(Ljava/lang/Object;)Z"⟩ : MethodName)) (z := (⟨"com/example/melog/melog/model/TimestampedOffset", "equals", "(Ljava/lang/Object;)Z"⟩ : MethodName)) hown (mvT hZ (hw _ (List.mem_of_getElem? (i := 13) rfl))) (mvT hZ (hw _ (List.mem_of_getElem? (i := 14) rfl))) (notFace_of_selects (args := #[]) (mvT hZ (hw _ (List.mem_of_getElem? (i := 16) rfl)))) (mvT hZ (hw _ (List.mem_of_getElem? (i := 16) rfl))) (mvT hZ (hw _ (List.mem_of_getElem? (i := 15) rfl))) (by decide) (backOf (W := 0) (rm3_4 l Z a0 hw [] w_cache cl_w_cache b1 b6 p1 p2 p3 T7.heap n0 (own_n0 O7) O7 HW ((pf2_0.ext E6).keep K7) ((pf2_1.ext E6).keep K7 (ninS (Nat.ne_of_lt (Nat.lt_of_lt_of_le pf2_0.lt bo_b6)) nin0)) ((pf2_2.ext E6).keep K7 (ninS (Nat.ne_of_lt (Nat.lt_of_lt_of_le pf2_0.lt bo_b6)) nin0)) pf7_0 pf7_1 pf7_2 hd3) hZ (hw _ (List.mem_of_getElem? (i := 17) rfl)) (hw _ (List.mem_of_getElem? (i := 2) rfl)) (by decide) (by decide)) q9a q9c (g := (mkF m 94 #[.val (.long p1), .second, .val (.long p2), .second, .val (.long p3), .second, .val (.long p4), .second, .val (.int p5), .val (.ref b1), .val (.int (p5 &&& (3 : Int32))), .val (.long p3), .second, .val (.long p2), .second, .val (.ref b6), .val (.int (1 : Int32))] [(.ref b6), (.ref b1)])) rfl (by rw [hml]; rfl) (Steps.refl _) (argsL := [(.ref b6)]) (rest := []) (lenOf pd36 rfl) rfl (by show 2 * 0 + _ ≤ _; exact Nat.le_of_eq rfl) (hb hby at_94) (fun _ _ => ⟨rfl, rfl, (by decide : 2 + 0 ≤ _), (by decide : 4 + 0 ≤ _)⟩)
          dsimp only [Pt.U, Pt.locs, Pt.cells, Pt.slots] at X9 l9 y9 z9 st9 hQ9
          subst l9 y9 z9
          obtain ⟨rfl, N9q, e9⟩ := hQ9
          have N9 := Fr.app N7 N9q
          obtain ⟨cq10, kq10, q10a, q10b, q10c⟩ := isOf hZ e9 pf7_0
          obtain ⟨_, _, ⟨T10, L10, k10, n10⟩, -, X10, ⟨Lc10, hQ10, l10, y10, z10⟩, st10⟩ := X9.virtualBack hx (y := (⟨"com/example/melog/melog/model/TimestampedOffset", "equals", "(Ljava/lang/Object;)Z"⟩ : MethodName)) (z := (⟨"com/example/melog/melog/model/TimestampedOffset", "equals", "(Ljava/lang/Object;)Z"⟩ : MethodName)) hown (mvT hZ (hw _ (List.mem_of_getElem? (i := 13) rfl))) (mvT hZ (hw _ (List.mem_of_getElem? (i := 14) rfl))) (notFace_of_selects (args := #[]) (mvT hZ (hw _ (List.mem_of_getElem? (i := 16) rfl)))) (mvT hZ (hw _ (List.mem_of_getElem? (i := 16) rfl))) (mvT hZ (hw _ (List.mem_of_getElem? (i := 15) rfl))) (by decide) (backOf (W := 0) (rm3_4 l Z a0 hw [] w_cache cl_w_cache b6 b1 p3 p2 p1 T7.heap n0 (own_n0 O7) O7 HW pf7_0 pf7_1 pf7_2 ((pf2_0.ext E6).keep K7) ((pf2_1.ext E6).keep K7 (ninS (Nat.ne_of_lt (Nat.lt_of_lt_of_le pf2_0.lt bo_b6)) nin0)) ((pf2_2.ext E6).keep K7 (ninS (Nat.ne_of_lt (Nat.lt_of_lt_of_le pf2_0.lt bo_b6)) nin0)) (Eq.symm hd3)) hZ (hw _ (List.mem_of_getElem? (i := 17) rfl)) (hw _ (List.mem_of_getElem? (i := 2) rfl)) (by decide) (by decide)) q10a q10c (g := (mkF m 106 #[.val (.long p1), .second, .val (.long p2), .second, .val (.long p3), .second, .val (.long p4), .second, .val (.int p5), .val (.ref b1), .val (.int (p5 &&& (3 : Int32))), .val (.long p3), .second, .val (.long p2), .second, .val (.ref b6), .val (.int (1 : Int32))] [(.ref b1), (.ref b6)])) rfl (by rw [hml]; rfl) (Steps.refl _) (argsL := [(.ref b1)]) (rest := []) (lenOf pd36 rfl) rfl (by show 2 * 0 + _ ≤ _; exact Nat.le_of_eq rfl) (hb hby at_106) (fun _ _ => ⟨rfl, e9, (by decide : 2 + 0 ≤ _), (by decide : 4 + 0 ≤ _)⟩)
          dsimp only [Pt.U, Pt.locs, Pt.cells, Pt.slots] at X10 l10 y10 z10 st10 hQ10
          subst l10 y10 z10
          obtain ⟨rfl, N10q, e10⟩ := hQ10
          have N10 := Fr.app N9 N10q
          obtain ⟨fs, hr, hrun, hended, hW, hsame⟩ := X10.leave (v := some (.int (1 : Int32))) (fun h => by rw [Bd.returns] at h; cases h)
          refine ⟨_, _, c8 _ ?_, hrun, hended, _, _, rfl, ?_, ⟨_, rfl⟩, hW, hsame.mono (by decide) (by decide)⟩
          · show Steps p.tables e below (T7.setTop (mkF m 73 #[.val (.long p1), .second, .val (.long p2), .second, .val (.long p3), .second, .val (.long p4), .second, .val (.int p5), .val (.ref b1), .val (.int (p5 &&& (3 : Int32))), .val (.long p3), .second, .val (.long p2), .second, .val (.ref b6), .unset] [(.int (lcmpW p3 p1))])) _
            refine XS.ifNo X7.here hx rfl (hb hby at_73) rfl ((if0 _ _).trans (teq ((lw_eq p3 p1).mpr hd3)).2) ?_
            show Steps p.tables e below (T7.setTop (mkF m 76 #[.val (.long p1), .second, .val (.long p2), .second, .val (.long p3), .second, .val (.long p4), .second, .val (.int p5), .val (.ref b1), .val (.int (p5 &&& (3 : Int32))), .val (.long p3), .second, .val (.long p2), .second, .val (.ref b6), .unset] [])) _
            refine XS.lload X7.here hx rfl (hb hby at_76) rfl ?_
            show Steps p.tables e below (T7.setTop (mkF m 78 #[.val (.long p1), .second, .val (.long p2), .second, .val (.long p3), .second, .val (.long p4), .second, .val (.int p5), .val (.ref b1), .val (.int (p5 &&& (3 : Int32))), .val (.long p3), .second, .val (.long p2), .second, .val (.ref b6), .unset] [(.long p2)])) _
            refine XS.lloadN X7.here hx rfl (hb hby at_78) rfl ?_
            show Steps p.tables e below (T7.setTop (mkF m 79 #[.val (.long p1), .second, .val (.long p2), .second, .val (.long p3), .second, .val (.long p4), .second, .val (.int p5), .val (.ref b1), .val (.int (p5 &&& (3 : Int32))), .val (.long p3), .second, .val (.long p2), .second, .val (.ref b6), .unset] [(.long p2), (.long p2)])) _
            refine XS.lcmp X7.here hx rfl (hb hby at_79) rfl ?_
            show Steps p.tables e below (T7.setTop (mkF m 80 #[.val (.long p1), .second, .val (.long p2), .second, .val (.long p3), .second, .val (.long p4), .second, .val (.int p5), .val (.ref b1), .val (.int (p5 &&& (3 : Int32))), .val (.long p3), .second, .val (.long p2), .second, .val (.ref b6), .unset] [(.int (lcmpW p2 p2))])) _
            refine XS.ifNo X7.here hx rfl (hb hby at_80) rfl ((if0 _ _).trans (teq ((lw_eq p2 p2).mpr (rfl : p2 = p2))).2) ?_
            show Steps p.tables e below (T7.setTop (mkF m 83 #[.val (.long p1), .second, .val (.long p2), .second, .val (.long p3), .second, .val (.long p4), .second, .val (.int p5), .val (.ref b1), .val (.int (p5 &&& (3 : Int32))), .val (.long p3), .second, .val (.long p2), .second, .val (.ref b6), .unset] [])) _
            refine XS.iconst X7.here hx rfl (hb hby at_83) ?_
            show Steps p.tables e below (T7.setTop (mkF m 84 #[.val (.long p1), .second, .val (.long p2), .second, .val (.long p3), .second, .val (.long p4), .second, .val (.int p5), .val (.ref b1), .val (.int (p5 &&& (3 : Int32))), .val (.long p3), .second, .val (.long p2), .second, .val (.ref b6), .unset] [(.int (1 : Int32))])) _
            refine XS.goto X7.here hx rfl (pc0 := 84) (pc' := 88) rfl (hb hby at_84) (by decide) (by decide) ?_
            show Steps p.tables e below (T7.setTop (mkF m 88 #[.val (.long p1), .second, .val (.long p2), .second, .val (.long p3), .second, .val (.long p4), .second, .val (.int p5), .val (.ref b1), .val (.int (p5 &&& (3 : Int32))), .val (.long p3), .second, .val (.long p2), .second, .val (.ref b6), .unset] [(.int (1 : Int32))])) _
            refine XS.istore X7.here hx rfl (hb hby at_88) rfl (l' := #[.val (.long p1), .second, .val (.long p2), .second, .val (.long p3), .second, .val (.long p4), .second, .val (.int p5), .val (.ref b1), .val (.int (p5 &&& (3 : Int32))), .val (.long p3), .second, .val (.long p2), .second, .val (.ref b6), .val (.int (1 : Int32))]) rfl ?_
            show Steps p.tables e below (T7.setTop (mkF m 90 #[.val (.long p1), .second, .val (.long p2), .second, .val (.long p3), .second, .val (.long p4), .second, .val (.int p5), .val (.ref b1), .val (.int (p5 &&& (3 : Int32))), .val (.long p3), .second, .val (.long p2), .second, .val (.ref b6), .val (.int (1 : Int32))] [])) _
            refine XS.aload X7.here hx rfl (hb hby at_90) rfl rfl ?_
            show Steps p.tables e below (T7.setTop (mkF m 92 #[.val (.long p1), .second, .val (.long p2), .second, .val (.long p3), .second, .val (.long p4), .second, .val (.int p5), .val (.ref b1), .val (.int (p5 &&& (3 : Int32))), .val (.long p3), .second, .val (.long p2), .second, .val (.ref b6), .val (.int (1 : Int32))] [(.ref b1)])) _
            refine XS.aload X7.here hx rfl (hb hby at_92) rfl rfl ?_
            show Steps p.tables e below (T7.setTop (mkF m 94 #[.val (.long p1), .second, .val (.long p2), .second, .val (.long p3), .second, .val (.long p4), .second, .val (.int p5), .val (.ref b1), .val (.int (p5 &&& (3 : Int32))), .val (.long p3), .second, .val (.long p2), .second, .val (.ref b6), .val (.int (1 : Int32))] [(.ref b6), (.ref b1)])) _
            refine st9.trans ?_
            show Steps p.tables e below (T9.setTop (mkF m 97 #[.val (.long p1), .second, .val (.long p2), .second, .val (.long p3), .second, .val (.long p4), .second, .val (.int p5), .val (.ref b1), .val (.int (p5 &&& (3 : Int32))), .val (.long p3), .second, .val (.long p2), .second, .val (.ref b6), .val (.int (1 : Int32))] [(.int (1 : Int32))])) _
            refine XS.iload X9.here hx rfl (hb hby at_97) rfl ?_
            show Steps p.tables e below (T9.setTop (mkF m 99 #[.val (.long p1), .second, .val (.long p2), .second, .val (.long p3), .second, .val (.long p4), .second, .val (.int p5), .val (.ref b1), .val (.int (p5 &&& (3 : Int32))), .val (.long p3), .second, .val (.long p2), .second, .val (.ref b6), .val (.int (1 : Int32))] [(.int (1 : Int32)), (.int (1 : Int32))])) _
            refine XS.icmpNo X9.here hx rfl (hb hby at_99) rfl (teq (by decide : (1 : Int32) = (1 : Int32))).2 ?_
            show Steps p.tables e below (T9.setTop (mkF m 102 #[.val (.long p1), .second, .val (.long p2), .second, .val (.long p3), .second, .val (.long p4), .second, .val (.int p5), .val (.ref b1), .val (.int (p5 &&& (3 : Int32))), .val (.long p3), .second, .val (.long p2), .second, .val (.ref b6), .val (.int (1 : Int32))] [])) _
            refine XS.aload X9.here hx rfl (hb hby at_102) rfl rfl ?_
            show Steps p.tables e below (T9.setTop (mkF m 104 #[.val (.long p1), .second, .val (.long p2), .second, .val (.long p3), .second, .val (.long p4), .second, .val (.int p5), .val (.ref b1), .val (.int (p5 &&& (3 : Int32))), .val (.long p3), .second, .val (.long p2), .second, .val (.ref b6), .val (.int (1 : Int32))] [(.ref b6)])) _
            refine XS.aload X9.here hx rfl (hb hby at_104) rfl rfl ?_
            show Steps p.tables e below (T9.setTop (mkF m 106 #[.val (.long p1), .second, .val (.long p2), .second, .val (.long p3), .second, .val (.long p4), .second, .val (.int p5), .val (.ref b1), .val (.int (p5 &&& (3 : Int32))), .val (.long p3), .second, .val (.long p2), .second, .val (.ref b6), .val (.int (1 : Int32))] [(.ref b1), (.ref b6)])) _
            refine st10.trans ?_
            show Steps p.tables e below (T10.setTop (mkF m 109 #[.val (.long p1), .second, .val (.long p2), .second, .val (.long p3), .second, .val (.long p4), .second, .val (.int p5), .val (.ref b1), .val (.int (p5 &&& (3 : Int32))), .val (.long p3), .second, .val (.long p2), .second, .val (.ref b6), .val (.int (1 : Int32))] [(.int (1 : Int32))])) _
            refine XS.iload X10.here hx rfl (hb hby at_109) rfl ?_
            show Steps p.tables e below (T10.setTop (mkF m 111 #[.val (.long p1), .second, .val (.long p2), .second, .val (.long p3), .second, .val (.long p4), .second, .val (.int p5), .val (.ref b1), .val (.int (p5 &&& (3 : Int32))), .val (.long p3), .second, .val (.long p2), .second, .val (.ref b6), .val (.int (1 : Int32))] [(.int (1 : Int32)), (.int (1 : Int32))])) _
            refine XS.icmpNo X10.here hx rfl (hb hby at_111) rfl (teq (by decide : (1 : Int32) = (1 : Int32))).2 ?_
            show Steps p.tables e below (T10.setTop (mkF m 114 #[.val (.long p1), .second, .val (.long p2), .second, .val (.long p3), .second, .val (.long p4), .second, .val (.int p5), .val (.ref b1), .val (.int (p5 &&& (3 : Int32))), .val (.long p3), .second, .val (.long p2), .second, .val (.ref b6), .val (.int (1 : Int32))] [])) _
            refine XS.iconst X10.here hx rfl (hb hby at_114) ?_
            show Steps p.tables e below (T10.setTop (mkF m 115 #[.val (.long p1), .second, .val (.long p2), .second, .val (.long p3), .second, .val (.long p4), .second, .val (.int p5), .val (.ref b1), .val (.int (p5 &&& (3 : Int32))), .val (.long p3), .second, .val (.long p2), .second, .val (.ref b6), .val (.int (1 : Int32))] [(.int (1 : Int32))])) _
            refine XS.goto X10.here hx rfl (pc0 := 115) (pc' := 119) rfl (hb hby at_115) (by decide) (by decide) ?_
            show Steps p.tables e below (T10.setTop (mkF m 119 #[.val (.long p1), .second, .val (.long p2), .second, .val (.long p3), .second, .val (.long p4), .second, .val (.int p5), .val (.ref b1), .val (.int (p5 &&& (3 : Int32))), .val (.long p3), .second, .val (.long p2), .second, .val (.ref b6), .val (.int (1 : Int32))] [(.int (1 : Int32))])) _
            exact retN X10 hx (t := .boolean) Bd.returns (by simp) (hb hby at_119) hr
          · exact ⟨rfl, N10⟩
        · skip
          obtain ⟨cq9, kq9, q9a, q9b, q9c⟩ := isOf hZ rfl ((pf2_0.ext E6).keep K7)
          obtain ⟨_, _, ⟨T9, L9, k9, n9⟩, -, X9, ⟨Lc9, hQ9, l9, y9, z9⟩, st9⟩ := X7.virtualBack hx (y := (⟨"com/example/melog/melog/model/TimestampedOffset", "equals", "(Ljava/lang/Object;)Z"⟩ : MethodName)) (z := (⟨"com/example/melog/melog/model/TimestampedOffset", "equals", "(Ljava/lang/Object;)Z"⟩ : MethodName)) hown (mvT hZ (hw _ (List.mem_of_getElem? (i := 13) rfl))) (mvT hZ (hw _ (List.mem_of_getElem? (i := 14) rfl))) (notFace_of_selects (args := #[]) (mvT hZ (hw _ (List.mem_of_getElem? (i := 16) rfl)))) (mvT hZ (hw _ (List.mem_of_getElem? (i := 16) rfl))) (mvT hZ (hw _ (List.mem_of_getElem? (i := 15) rfl))) (by decide) (backOf (W := 0) (rm3_5 l Z a0 hw [] w_cache cl_w_cache b1 b6 p1 p2 p3 T7.heap n0 (own_n0 O7) O7 HW ((pf2_0.ext E6).keep K7) ((pf2_1.ext E6).keep K7 (ninS (Nat.ne_of_lt (Nat.lt_of_lt_of_le pf2_0.lt bo_b6)) nin0)) ((pf2_2.ext E6).keep K7 (ninS (Nat.ne_of_lt (Nat.lt_of_lt_of_le pf2_0.lt bo_b6)) nin0)) pf7_0 pf7_1 pf7_2 hd3) hZ (hw _ (List.mem_of_getElem? (i := 17) rfl)) (hw _ (List.mem_of_getElem? (i := 2) rfl)) (by decide) (by decide)) q9a q9c (g := (mkF m 94 #[.val (.long p1), .second, .val (.long p2), .second, .val (.long p3), .second, .val (.long p4), .second, .val (.int p5), .val (.ref b1), .val (.int (p5 &&& (3 : Int32))), .val (.long p3), .second, .val (.long p2), .second, .val (.ref b6), .val (.int (0 : Int32))] [(.ref b6), (.ref b1)])) rfl (by rw [hml]; rfl) (Steps.refl _) (argsL := [(.ref b6)]) (rest := []) (lenOf pd36 rfl) rfl (by show 2 * 0 + _ ≤ _; exact Nat.le_of_eq rfl) (hb hby at_94) (fun _ _ => ⟨rfl, rfl, (by decide : 2 + 0 ≤ _), (by decide : 4 + 0 ≤ _)⟩)
          dsimp only [Pt.U, Pt.locs, Pt.cells, Pt.slots] at X9 l9 y9 z9 st9 hQ9
          subst l9 y9 z9
          obtain ⟨rfl, N9q, e9⟩ := hQ9
          have N9 := Fr.app N7 N9q
          obtain ⟨cq10, kq10, q10a, q10b, q10c⟩ := isOf hZ e9 pf7_0
          obtain ⟨_, _, ⟨T10, L10, k10, n10⟩, -, X10, ⟨Lc10, hQ10, l10, y10, z10⟩, st10⟩ := X9.virtualBack hx (y := (⟨"com/example/melog/melog/model/TimestampedOffset", "equals", "(Ljava/lang/Object;)Z"⟩ : MethodName)) (z := (⟨"com/example/melog/melog/model/TimestampedOffset", "equals", "(Ljava/lang/Object;)Z"⟩ : MethodName)) hown (mvT hZ (hw _ (List.mem_of_getElem? (i := 13) rfl))) (mvT hZ (hw _ (List.mem_of_getElem? (i := 14) rfl))) (notFace_of_selects (args := #[]) (mvT hZ (hw _ (List.mem_of_getElem? (i := 16) rfl)))) (mvT hZ (hw _ (List.mem_of_getElem? (i := 16) rfl))) (mvT hZ (hw _ (List.mem_of_getElem? (i := 15) rfl))) (by decide) (backOf (W := 0) (rm3_5 l Z a0 hw [] w_cache cl_w_cache b6 b1 p3 p2 p1 T7.heap n0 (own_n0 O7) O7 HW pf7_0 pf7_1 pf7_2 ((pf2_0.ext E6).keep K7) ((pf2_1.ext E6).keep K7 (ninS (Nat.ne_of_lt (Nat.lt_of_lt_of_le pf2_0.lt bo_b6)) nin0)) ((pf2_2.ext E6).keep K7 (ninS (Nat.ne_of_lt (Nat.lt_of_lt_of_le pf2_0.lt bo_b6)) nin0)) (fun q => hd3 (Eq.symm q))) hZ (hw _ (List.mem_of_getElem? (i := 17) rfl)) (hw _ (List.mem_of_getElem? (i := 2) rfl)) (by decide) (by decide)) q10a q10c (g := (mkF m 106 #[.val (.long p1), .second, .val (.long p2), .second, .val (.long p3), .second, .val (.long p4), .second, .val (.int p5), .val (.ref b1), .val (.int (p5 &&& (3 : Int32))), .val (.long p3), .second, .val (.long p2), .second, .val (.ref b6), .val (.int (0 : Int32))] [(.ref b1), (.ref b6)])) rfl (by rw [hml]; rfl) (Steps.refl _) (argsL := [(.ref b1)]) (rest := []) (lenOf pd36 rfl) rfl (by show 2 * 0 + _ ≤ _; exact Nat.le_of_eq rfl) (hb hby at_106) (fun _ _ => ⟨rfl, e9, (by decide : 2 + 0 ≤ _), (by decide : 4 + 0 ≤ _)⟩)
          dsimp only [Pt.U, Pt.locs, Pt.cells, Pt.slots] at X10 l10 y10 z10 st10 hQ10
          subst l10 y10 z10
          obtain ⟨rfl, N10q, e10⟩ := hQ10
          have N10 := Fr.app N9 N10q
          obtain ⟨fs, hr, hrun, hended, hW, hsame⟩ := X10.leave (v := some (.int (1 : Int32))) (fun h => by rw [Bd.returns] at h; cases h)
          refine ⟨_, _, c8 _ ?_, hrun, hended, _, _, rfl, ?_, ⟨_, rfl⟩, hW, hsame.mono (by decide) (by decide)⟩
          · show Steps p.tables e below (T7.setTop (mkF m 73 #[.val (.long p1), .second, .val (.long p2), .second, .val (.long p3), .second, .val (.long p4), .second, .val (.int p5), .val (.ref b1), .val (.int (p5 &&& (3 : Int32))), .val (.long p3), .second, .val (.long p2), .second, .val (.ref b6), .unset] [(.int (lcmpW p3 p1))])) _
            refine XS.ifYes X7.here hx rfl (pc0 := 73) (pc' := 87) rfl (hb hby at_73) rfl ((if0 _ _).trans (feq (fun q => hd3 ((lw_eq p3 p1).mp q))).2) (by decide) (by decide) ?_
            show Steps p.tables e below (T7.setTop (mkF m 87 #[.val (.long p1), .second, .val (.long p2), .second, .val (.long p3), .second, .val (.long p4), .second, .val (.int p5), .val (.ref b1), .val (.int (p5 &&& (3 : Int32))), .val (.long p3), .second, .val (.long p2), .second, .val (.ref b6), .unset] [])) _
            refine XS.iconst X7.here hx rfl (hb hby at_87) ?_
            show Steps p.tables e below (T7.setTop (mkF m 88 #[.val (.long p1), .second, .val (.long p2), .second, .val (.long p3), .second, .val (.long p4), .second, .val (.int p5), .val (.ref b1), .val (.int (p5 &&& (3 : Int32))), .val (.long p3), .second, .val (.long p2), .second, .val (.ref b6), .unset] [(.int (0 : Int32))])) _
            refine XS.istore X7.here hx rfl (hb hby at_88) rfl (l' := #[.val (.long p1), .second, .val (.long p2), .second, .val (.long p3), .second, .val (.long p4), .second, .val (.int p5), .val (.ref b1), .val (.int (p5 &&& (3 : Int32))), .val (.long p3), .second, .val (.long p2), .second, .val (.ref b6), .val (.int (0 : Int32))]) rfl ?_
            show Steps p.tables e below (T7.setTop (mkF m 90 #[.val (.long p1), .second, .val (.long p2), .second, .val (.long p3), .second, .val (.long p4), .second, .val (.int p5), .val (.ref b1), .val (.int (p5 &&& (3 : Int32))), .val (.long p3), .second, .val (.long p2), .second, .val (.ref b6), .val (.int (0 : Int32))] [])) _
            refine XS.aload X7.here hx rfl (hb hby at_90) rfl rfl ?_
            show Steps p.tables e below (T7.setTop (mkF m 92 #[.val (.long p1), .second, .val (.long p2), .second, .val (.long p3), .second, .val (.long p4), .second, .val (.int p5), .val (.ref b1), .val (.int (p5 &&& (3 : Int32))), .val (.long p3), .second, .val (.long p2), .second, .val (.ref b6), .val (.int (0 : Int32))] [(.ref b1)])) _
            refine XS.aload X7.here hx rfl (hb hby at_92) rfl rfl ?_
            show Steps p.tables e below (T7.setTop (mkF m 94 #[.val (.long p1), .second, .val (.long p2), .second, .val (.long p3), .second, .val (.long p4), .second, .val (.int p5), .val (.ref b1), .val (.int (p5 &&& (3 : Int32))), .val (.long p3), .second, .val (.long p2), .second, .val (.ref b6), .val (.int (0 : Int32))] [(.ref b6), (.ref b1)])) _
            refine st9.trans ?_
            show Steps p.tables e below (T9.setTop (mkF m 97 #[.val (.long p1), .second, .val (.long p2), .second, .val (.long p3), .second, .val (.long p4), .second, .val (.int p5), .val (.ref b1), .val (.int (p5 &&& (3 : Int32))), .val (.long p3), .second, .val (.long p2), .second, .val (.ref b6), .val (.int (0 : Int32))] [(.int (0 : Int32))])) _
            refine XS.iload X9.here hx rfl (hb hby at_97) rfl ?_
            show Steps p.tables e below (T9.setTop (mkF m 99 #[.val (.long p1), .second, .val (.long p2), .second, .val (.long p3), .second, .val (.long p4), .second, .val (.int p5), .val (.ref b1), .val (.int (p5 &&& (3 : Int32))), .val (.long p3), .second, .val (.long p2), .second, .val (.ref b6), .val (.int (0 : Int32))] [(.int (0 : Int32)), (.int (0 : Int32))])) _
            refine XS.icmpNo X9.here hx rfl (hb hby at_99) rfl (teq (by decide : (0 : Int32) = (0 : Int32))).2 ?_
            show Steps p.tables e below (T9.setTop (mkF m 102 #[.val (.long p1), .second, .val (.long p2), .second, .val (.long p3), .second, .val (.long p4), .second, .val (.int p5), .val (.ref b1), .val (.int (p5 &&& (3 : Int32))), .val (.long p3), .second, .val (.long p2), .second, .val (.ref b6), .val (.int (0 : Int32))] [])) _
            refine XS.aload X9.here hx rfl (hb hby at_102) rfl rfl ?_
            show Steps p.tables e below (T9.setTop (mkF m 104 #[.val (.long p1), .second, .val (.long p2), .second, .val (.long p3), .second, .val (.long p4), .second, .val (.int p5), .val (.ref b1), .val (.int (p5 &&& (3 : Int32))), .val (.long p3), .second, .val (.long p2), .second, .val (.ref b6), .val (.int (0 : Int32))] [(.ref b6)])) _
            refine XS.aload X9.here hx rfl (hb hby at_104) rfl rfl ?_
            show Steps p.tables e below (T9.setTop (mkF m 106 #[.val (.long p1), .second, .val (.long p2), .second, .val (.long p3), .second, .val (.long p4), .second, .val (.int p5), .val (.ref b1), .val (.int (p5 &&& (3 : Int32))), .val (.long p3), .second, .val (.long p2), .second, .val (.ref b6), .val (.int (0 : Int32))] [(.ref b1), (.ref b6)])) _
            refine st10.trans ?_
            show Steps p.tables e below (T10.setTop (mkF m 109 #[.val (.long p1), .second, .val (.long p2), .second, .val (.long p3), .second, .val (.long p4), .second, .val (.int p5), .val (.ref b1), .val (.int (p5 &&& (3 : Int32))), .val (.long p3), .second, .val (.long p2), .second, .val (.ref b6), .val (.int (0 : Int32))] [(.int (0 : Int32))])) _
            refine XS.iload X10.here hx rfl (hb hby at_109) rfl ?_
            show Steps p.tables e below (T10.setTop (mkF m 111 #[.val (.long p1), .second, .val (.long p2), .second, .val (.long p3), .second, .val (.long p4), .second, .val (.int p5), .val (.ref b1), .val (.int (p5 &&& (3 : Int32))), .val (.long p3), .second, .val (.long p2), .second, .val (.ref b6), .val (.int (0 : Int32))] [(.int (0 : Int32)), (.int (0 : Int32))])) _
            refine XS.icmpNo X10.here hx rfl (hb hby at_111) rfl (teq (by decide : (0 : Int32) = (0 : Int32))).2 ?_
            show Steps p.tables e below (T10.setTop (mkF m 114 #[.val (.long p1), .second, .val (.long p2), .second, .val (.long p3), .second, .val (.long p4), .second, .val (.int p5), .val (.ref b1), .val (.int (p5 &&& (3 : Int32))), .val (.long p3), .second, .val (.long p2), .second, .val (.ref b6), .val (.int (0 : Int32))] [])) _
            refine XS.iconst X10.here hx rfl (hb hby at_114) ?_
            show Steps p.tables e below (T10.setTop (mkF m 115 #[.val (.long p1), .second, .val (.long p2), .second, .val (.long p3), .second, .val (.long p4), .second, .val (.int p5), .val (.ref b1), .val (.int (p5 &&& (3 : Int32))), .val (.long p3), .second, .val (.long p2), .second, .val (.ref b6), .val (.int (0 : Int32))] [(.int (1 : Int32))])) _
            refine XS.goto X10.here hx rfl (pc0 := 115) (pc' := 119) rfl (hb hby at_115) (by decide) (by decide) ?_
            show Steps p.tables e below (T10.setTop (mkF m 119 #[.val (.long p1), .second, .val (.long p2), .second, .val (.long p3), .second, .val (.long p4), .second, .val (.int p5), .val (.ref b1), .val (.int (p5 &&& (3 : Int32))), .val (.long p3), .second, .val (.long p2), .second, .val (.ref b6), .val (.int (0 : Int32))] [(.int (1 : Int32))])) _
            exact retN X10 hx (t := .boolean) Bd.returns (by simp) (hb hby at_119) hr
          · exact ⟨rfl, N10⟩
    · skip
      have c5 : ∀ t, Steps p.tables e below (T2.setTop (mkF m 45 #[.val (.long p1), .second, .val (.long p2), .second, .val (.long p3), .second, .val (.long p4), .second, .val (.int p5), .val (.ref b1), .val (.int (p5 &&& (3 : Int32))), .val (.long p1), .second, .unset, .unset, .unset, .unset] [(.int ((p5 >>> ((3 : Int32) &&& 31)) &&& (1 : Int32)))])) t → Steps p.tables e below (s₁.setTop (entryFrame m #[(.long p1), (.long p2), (.long p3), (.long p4), (.int p5)] maxLocals)) t := fun t kt => c4 _ (by
        show Steps p.tables e below (T2.setTop (mkF m 28 #[.val (.long p1), .second, .val (.long p2), .second, .val (.long p3), .second, .val (.long p4), .second, .val (.int p5), .val (.ref b1), .val (.int (p5 &&& (3 : Int32))), .unset, .unset, .unset, .unset, .unset, .unset] [(.int ((p5 >>> ((2 : Int32) &&& 31)) &&& (1 : Int32)))])) _
        refine XS.ifNo X2.here hx rfl (hb hby at_28) rfl ((if0 _ _).trans (feq hd1).1) ?_
        show Steps p.tables e below (T2.setTop (mkF m 31 #[.val (.long p1), .second, .val (.long p2), .second, .val (.long p3), .second, .val (.long p4), .second, .val (.int p5), .val (.ref b1), .val (.int (p5 &&& (3 : Int32))), .unset, .unset, .unset, .unset, .unset, .unset] [])) _
        refine XS.lloadN X2.here hx rfl (hb hby at_31) rfl ?_
        show Steps p.tables e below (T2.setTop (mkF m 32 #[.val (.long p1), .second, .val (.long p2), .second, .val (.long p3), .second, .val (.long p4), .second, .val (.int p5), .val (.ref b1), .val (.int (p5 &&& (3 : Int32))), .unset, .unset, .unset, .unset, .unset, .unset] [(.long p1)])) _
        refine XS.goto X2.here hx rfl (pc0 := 32) (pc' := 37) rfl (hb hby at_32) (by decide) (by decide) ?_
        show Steps p.tables e below (T2.setTop (mkF m 37 #[.val (.long p1), .second, .val (.long p2), .second, .val (.long p3), .second, .val (.long p4), .second, .val (.int p5), .val (.ref b1), .val (.int (p5 &&& (3 : Int32))), .unset, .unset, .unset, .unset, .unset, .unset] [(.long p1)])) _
        refine XS.lstore X2.here hx rfl (hb hby at_37) rfl (l' := #[.val (.long p1), .second, .val (.long p2), .second, .val (.long p3), .second, .val (.long p4), .second, .val (.int p5), .val (.ref b1), .val (.int (p5 &&& (3 : Int32))), .val (.long p1), .second, .unset, .unset, .unset, .unset]) rfl ?_
        show Steps p.tables e below (T2.setTop (mkF m 39 #[.val (.long p1), .second, .val (.long p2), .second, .val (.long p3), .second, .val (.long p4), .second, .val (.int p5), .val (.ref b1), .val (.int (p5 &&& (3 : Int32))), .val (.long p1), .second, .unset, .unset, .unset, .unset] [])) _
        refine XS.iload X2.here hx rfl (hb hby at_39) rfl ?_
        show Steps p.tables e below (T2.setTop (mkF m 41 #[.val (.long p1), .second, .val (.long p2), .second, .val (.long p3), .second, .val (.long p4), .second, .val (.int p5), .val (.ref b1), .val (.int (p5 &&& (3 : Int32))), .val (.long p1), .second, .unset, .unset, .unset, .unset] [(.int p5)])) _
        refine XS.iconst X2.here hx rfl (hb hby at_41) ?_
        show Steps p.tables e below (T2.setTop (mkF m 42 #[.val (.long p1), .second, .val (.long p2), .second, .val (.long p3), .second, .val (.long p4), .second, .val (.int p5), .val (.ref b1), .val (.int (p5 &&& (3 : Int32))), .val (.long p1), .second, .unset, .unset, .unset, .unset] [(.int (3 : Int32)), (.int p5)])) _
        refine XS.ishr X2.here hx rfl (hb hby at_42) rfl ?_
        show Steps p.tables e below (T2.setTop (mkF m 43 #[.val (.long p1), .second, .val (.long p2), .second, .val (.long p3), .second, .val (.long p4), .second, .val (.int p5), .val (.ref b1), .val (.int (p5 &&& (3 : Int32))), .val (.long p1), .second, .unset, .unset, .unset, .unset] [(.int (p5 >>> ((3 : Int32) &&& 31)))])) _
        refine XS.iconst X2.here hx rfl (hb hby at_43) ?_
        show Steps p.tables e below (T2.setTop (mkF m 44 #[.val (.long p1), .second, .val (.long p2), .second, .val (.long p3), .second, .val (.long p4), .second, .val (.int p5), .val (.ref b1), .val (.int (p5 &&& (3 : Int32))), .val (.long p1), .second, .unset, .unset, .unset, .unset] [(.int (1 : Int32)), (.int (p5 >>> ((3 : Int32) &&& 31)))])) _
        refine XS.iand X2.here hx rfl (hb hby at_44) rfl ?_
        show Steps p.tables e below (T2.setTop (mkF m 45 #[.val (.long p1), .second, .val (.long p2), .second, .val (.long p3), .second, .val (.long p4), .second, .val (.int p5), .val (.ref b1), .val (.int (p5 &&& (3 : Int32))), .val (.long p1), .second, .unset, .unset, .unset, .unset] [(.int ((p5 >>> ((3 : Int32) &&& 31)) &&& (1 : Int32)))])) _
        exact kt)
      by_cases hd2 : ((p5 >>> ((3 : Int32) &&& 31)) &&& (1 : Int32)) = (0 : Int32)
      · skip
        obtain ⟨T6, h6, X6, e6, E6, A6, D6, -, st6⟩ := newO X2 hx hZ hown (hw _ (List.mem_of_getElem? (i := 0) rfl)) (hw _ (List.mem_of_getElem? (i := 1) rfl)) (hw _ (List.mem_of_getElem? (i := 2) rfl)) rfl (g := (mkF m 56 #[.val (.long p1), .second, .val (.long p2), .second, .val (.long p3), .second, .val (.long p4), .second, .val (.int p5), .val (.ref b1), .val (.int (p5 &&& (3 : Int32))), .val (.long p1), .second, .val (.long p4), .second, .unset, .unset] [])) rfl (hb hby at_56) (by decide) (by decide)
        obtain ⟨b6, gg6⟩ : ∃ z, z = T2.heap.size := ⟨_, rfl⟩
        rw [← gg6] at A6 D6 st6
        have bo_b6 : T2.heap.size ≤ b6 := Nat.le_of_eq gg6.symm
        have g_b6 : n0 ≤ b6 := Nat.le_trans (own_n0 O2) bo_b6
        have O6 := O2.ext E6
        have F_offset_b6 : Fld Z h6 b6 "com/example/melog/melog/model/TimestampedOffset" "offset" "J" (.long (0 : Int64)) := D6 (Or.inr (hw _ (List.mem_of_getElem? (i := 10) rfl))) (ty := .long) (by decide)
        have F_timestamp_b6 : Fld Z h6 b6 "com/example/melog/melog/model/TimestampedOffset" "timestamp" "J" (.long (0 : Int64)) := D6 (Or.inr (hw _ (List.mem_of_getElem? (i := 12) rfl))) (ty := .long) (by decide)
        obtain ⟨_, _, ⟨T7, L7, k7, n7⟩, -, X7, ⟨Lc7, hQ7, l7, y7, z7⟩, st7⟩ := X6.specialBack hx (y := (⟨"com/example/melog/melog/model/TimestampedOffset", "<init>", "(JJ)V"⟩ : MethodName)) rfl hown (mvT hZ (hw _ (List.mem_of_getElem? (i := 3) rfl))) (mvT hZ (hw _ (List.mem_of_getElem? (i := 4) rfl))) (mvT hZ (hw _ (List.mem_of_getElem? (i := 5) rfl))) (by decide) (backOf (W := 1) (rm1_0 l Z a0 hw [] w_cache cl_w_cache b6 p1 p4 h6 n0 (own_n0 O6) O6 HW A6 F_offset_b6 F_timestamp_b6 g_b6) hZ (hw _ (List.mem_of_getElem? (i := 5) rfl)) (hw _ (List.mem_of_getElem? (i := 2) rfl)) (by decide) (by decide)) (g := (mkF m 64 #[.val (.long p1), .second, .val (.long p2), .second, .val (.long p3), .second, .val (.long p4), .second, .val (.int p5), .val (.ref b1), .val (.int (p5 &&& (3 : Int32))), .val (.long p1), .second, .val (.long p4), .second, .unset, .unset] [(.long p4), (.long p1), (.ref b6), (.ref b6)])) rfl (by rw [hml]; rfl) (Steps.refl _) (a := b6) (argsL := [(.long p1), (.long p4)]) (rest := [(.ref b6)]) (lenOf pd12 rfl) rfl (by show 2 * 0 + _ ≤ _; exact Nat.le_of_eq rfl) (hb hby at_64) (fun _ _ => ⟨rfl, e6, (by decide : 2 + 0 ≤ _), (by decide : 4 + 0 ≤ _)⟩)
        dsimp only [Pt.U, Pt.locs, Pt.cells, Pt.slots] at X7 l7 y7 z7 st7 hQ7
        subst l7 y7 z7
        obtain ⟨rfl, N7q, K7, O7, pf7_0, pf7_1, pf7_2, -⟩ := hQ7
        have N7 := Fr.app N2 N7q
        have c8 : ∀ t, Steps p.tables e below (T7.setTop (mkF m 80 #[.val (.long p1), .second, .val (.long p2), .second, .val (.long p3), .second, .val (.long p4), .second, .val (.int p5), .val (.ref b1), .val (.int (p5 &&& (3 : Int32))), .val (.long p1), .second, .val (.long p4), .second, .val (.ref b6), .unset] [(.int (lcmpW p4 p2))])) t → Steps p.tables e below (s₁.setTop (entryFrame m #[(.long p1), (.long p2), (.long p3), (.long p4), (.int p5)] maxLocals)) t := fun t kt => c5 _ (by
          show Steps p.tables e below (T2.setTop (mkF m 45 #[.val (.long p1), .second, .val (.long p2), .second, .val (.long p3), .second, .val (.long p4), .second, .val (.int p5), .val (.ref b1), .val (.int (p5 &&& (3 : Int32))), .val (.long p1), .second, .unset, .unset, .unset, .unset] [(.int ((p5 >>> ((3 : Int32) &&& 31)) &&& (1 : Int32)))])) _
          refine XS.ifYes X2.here hx rfl (pc0 := 45) (pc' := 52) rfl (hb hby at_45) rfl ((if0 _ _).trans (teq hd2).1) (by decide) (by decide) ?_
          show Steps p.tables e below (T2.setTop (mkF m 52 #[.val (.long p1), .second, .val (.long p2), .second, .val (.long p3), .second, .val (.long p4), .second, .val (.int p5), .val (.ref b1), .val (.int (p5 &&& (3 : Int32))), .val (.long p1), .second, .unset, .unset, .unset, .unset] [])) _
          refine XS.lload X2.here hx rfl (hb hby at_52) rfl ?_
          show Steps p.tables e below (T2.setTop (mkF m 54 #[.val (.long p1), .second, .val (.long p2), .second, .val (.long p3), .second, .val (.long p4), .second, .val (.int p5), .val (.ref b1), .val (.int (p5 &&& (3 : Int32))), .val (.long p1), .second, .unset, .unset, .unset, .unset] [(.long p4)])) _
          refine XS.lstore X2.here hx rfl (hb hby at_54) rfl (l' := #[.val (.long p1), .second, .val (.long p2), .second, .val (.long p3), .second, .val (.long p4), .second, .val (.int p5), .val (.ref b1), .val (.int (p5 &&& (3 : Int32))), .val (.long p1), .second, .val (.long p4), .second, .unset, .unset]) rfl ?_
          show Steps p.tables e below (T2.setTop (mkF m 56 #[.val (.long p1), .second, .val (.long p2), .second, .val (.long p3), .second, .val (.long p4), .second, .val (.int p5), .val (.ref b1), .val (.int (p5 &&& (3 : Int32))), .val (.long p1), .second, .val (.long p4), .second, .unset, .unset] [])) _
          refine st6 _ ?_
          show Steps p.tables e below (T6.setTop (mkF m 59 #[.val (.long p1), .second, .val (.long p2), .second, .val (.long p3), .second, .val (.long p4), .second, .val (.int p5), .val (.ref b1), .val (.int (p5 &&& (3 : Int32))), .val (.long p1), .second, .val (.long p4), .second, .unset, .unset] [(.ref b6)])) _
          refine XS.dup X6.here hx rfl (hb hby at_59) rfl rfl ?_
          show Steps p.tables e below (T6.setTop (mkF m 60 #[.val (.long p1), .second, .val (.long p2), .second, .val (.long p3), .second, .val (.long p4), .second, .val (.int p5), .val (.ref b1), .val (.int (p5 &&& (3 : Int32))), .val (.long p1), .second, .val (.long p4), .second, .unset, .unset] [(.ref b6), (.ref b6)])) _
          refine XS.lload X6.here hx rfl (hb hby at_60) rfl ?_
          show Steps p.tables e below (T6.setTop (mkF m 62 #[.val (.long p1), .second, .val (.long p2), .second, .val (.long p3), .second, .val (.long p4), .second, .val (.int p5), .val (.ref b1), .val (.int (p5 &&& (3 : Int32))), .val (.long p1), .second, .val (.long p4), .second, .unset, .unset] [(.long p1), (.ref b6), (.ref b6)])) _
          refine XS.lload X6.here hx rfl (hb hby at_62) rfl ?_
          show Steps p.tables e below (T6.setTop (mkF m 64 #[.val (.long p1), .second, .val (.long p2), .second, .val (.long p3), .second, .val (.long p4), .second, .val (.int p5), .val (.ref b1), .val (.int (p5 &&& (3 : Int32))), .val (.long p1), .second, .val (.long p4), .second, .unset, .unset] [(.long p4), (.long p1), (.ref b6), (.ref b6)])) _
          refine st7.trans ?_
          show Steps p.tables e below (T7.setTop (mkF m 67 #[.val (.long p1), .second, .val (.long p2), .second, .val (.long p3), .second, .val (.long p4), .second, .val (.int p5), .val (.ref b1), .val (.int (p5 &&& (3 : Int32))), .val (.long p1), .second, .val (.long p4), .second, .unset, .unset] [(.ref b6)])) _
          refine XS.astore X7.here hx rfl (hb hby at_67) rfl rfl (l' := #[.val (.long p1), .second, .val (.long p2), .second, .val (.long p3), .second, .val (.long p4), .second, .val (.int p5), .val (.ref b1), .val (.int (p5 &&& (3 : Int32))), .val (.long p1), .second, .val (.long p4), .second, .val (.ref b6), .unset]) rfl ?_
          show Steps p.tables e below (T7.setTop (mkF m 69 #[.val (.long p1), .second, .val (.long p2), .second, .val (.long p3), .second, .val (.long p4), .second, .val (.int p5), .val (.ref b1), .val (.int (p5 &&& (3 : Int32))), .val (.long p1), .second, .val (.long p4), .second, .val (.ref b6), .unset] [])) _
          refine XS.lload X7.here hx rfl (hb hby at_69) rfl ?_
          show Steps p.tables e below (T7.setTop (mkF m 71 #[.val (.long p1), .second, .val (.long p2), .second, .val (.long p3), .second, .val (.long p4), .second, .val (.int p5), .val (.ref b1), .val (.int (p5 &&& (3 : Int32))), .val (.long p1), .second, .val (.long p4), .second, .val (.ref b6), .unset] [(.long p1)])) _
          refine XS.lloadN X7.here hx rfl (hb hby at_71) rfl ?_
          show Steps p.tables e below (T7.setTop (mkF m 72 #[.val (.long p1), .second, .val (.long p2), .second, .val (.long p3), .second, .val (.long p4), .second, .val (.int p5), .val (.ref b1), .val (.int (p5 &&& (3 : Int32))), .val (.long p1), .second, .val (.long p4), .second, .val (.ref b6), .unset] [(.long p1), (.long p1)])) _
          refine XS.lcmp X7.here hx rfl (hb hby at_72) rfl ?_
          show Steps p.tables e below (T7.setTop (mkF m 73 #[.val (.long p1), .second, .val (.long p2), .second, .val (.long p3), .second, .val (.long p4), .second, .val (.int p5), .val (.ref b1), .val (.int (p5 &&& (3 : Int32))), .val (.long p1), .second, .val (.long p4), .second, .val (.ref b6), .unset] [(.int (lcmpW p1 p1))])) _
          refine XS.ifNo X7.here hx rfl (hb hby at_73) rfl ((if0 _ _).trans (teq ((lw_eq p1 p1).mpr (rfl : p1 = p1))).2) ?_
          show Steps p.tables e below (T7.setTop (mkF m 76 #[.val (.long p1), .second, .val (.long p2), .second, .val (.long p3), .second, .val (.long p4), .second, .val (.int p5), .val (.ref b1), .val (.int (p5 &&& (3 : Int32))), .val (.long p1), .second, .val (.long p4), .second, .val (.ref b6), .unset] [])) _
          refine XS.lload X7.here hx rfl (hb hby at_76) rfl ?_
          show Steps p.tables e below (T7.setTop (mkF m 78 #[.val (.long p1), .second, .val (.long p2), .second, .val (.long p3), .second, .val (.long p4), .second, .val (.int p5), .val (.ref b1), .val (.int (p5 &&& (3 : Int32))), .val (.long p1), .second, .val (.long p4), .second, .val (.ref b6), .unset] [(.long p4)])) _
          refine XS.lloadN X7.here hx rfl (hb hby at_78) rfl ?_
          show Steps p.tables e below (T7.setTop (mkF m 79 #[.val (.long p1), .second, .val (.long p2), .second, .val (.long p3), .second, .val (.long p4), .second, .val (.int p5), .val (.ref b1), .val (.int (p5 &&& (3 : Int32))), .val (.long p1), .second, .val (.long p4), .second, .val (.ref b6), .unset] [(.long p2), (.long p4)])) _
          refine XS.lcmp X7.here hx rfl (hb hby at_79) rfl ?_
          show Steps p.tables e below (T7.setTop (mkF m 80 #[.val (.long p1), .second, .val (.long p2), .second, .val (.long p3), .second, .val (.long p4), .second, .val (.int p5), .val (.ref b1), .val (.int (p5 &&& (3 : Int32))), .val (.long p1), .second, .val (.long p4), .second, .val (.ref b6), .unset] [(.int (lcmpW p4 p2))])) _
          exact kt)
        by_cases hd3 : p4 = p2
        · skip
          obtain ⟨cq9, kq9, q9a, q9b, q9c⟩ := isOf hZ rfl ((pf2_0.ext E6).keep K7)
          obtain ⟨_, _, ⟨T9, L9, k9, n9⟩, -, X9, ⟨Lc9, hQ9, l9, y9, z9⟩, st9⟩ := X7.virtualBack hx (y := (⟨"com/example/melog/melog/model/TimestampedOffset", "equals", "(Ljava/lang/Object;)Z"⟩ : MethodName)) (z := (⟨"com/example/melog/melog/model/TimestampedOffset", "equals", "(Ljava/lang/Object;)Z"⟩ : MethodName)) hown (mvT hZ (hw _ (List.mem_of_getElem? (i := 13) rfl))) (mvT hZ (hw _ (List.mem_of_getElem? (i := 14) rfl))) (notFace_of_selects (args := #[]) (mvT hZ (hw _ (List.mem_of_getElem? (i := 16) rfl)))) (mvT hZ (hw _ (List.mem_of_getElem? (i := 16) rfl))) (mvT hZ (hw _ (List.mem_of_getElem? (i := 15) rfl))) (by decide) (backOf (W := 0) (rm3_6 l Z a0 hw [] w_cache cl_w_cache b1 b6 p1 p2 p4 T7.heap n0 (own_n0 O7) O7 HW ((pf2_0.ext E6).keep K7) ((pf2_1.ext E6).keep K7 (ninS (Nat.ne_of_lt (Nat.lt_of_lt_of_le pf2_0.lt bo_b6)) nin0)) ((pf2_2.ext E6).keep K7 (ninS (Nat.ne_of_lt (Nat.lt_of_lt_of_le pf2_0.lt bo_b6)) nin0)) pf7_0 pf7_1 pf7_2 hd3) hZ (hw _ (List.mem_of_getElem? (i := 17) rfl)) (hw _ (List.mem_of_getElem? (i := 2) rfl)) (by decide) (by decide)) q9a q9c (g := (mkF m 94 #[.val (.long p1), .second, .val (.long p2), .second, .val (.long p3), .second, .val (.long p4), .second, .val (.int p5), .val (.ref b1), .val (.int (p5 &&& (3 : Int32))), .val (.long p1), .second, .val (.long p4), .second, .val (.ref b6), .val (.int (1 : Int32))] [(.ref b6), (.ref b1)])) rfl (by rw [hml]; rfl) (Steps.refl _) (argsL := [(.ref b6)]) (rest := []) (lenOf pd36 rfl) rfl (by show 2 * 0 + _ ≤ _; exact Nat.le_of_eq rfl) (hb hby at_94) (fun _ _ => ⟨rfl, rfl, (by decide : 2 + 0 ≤ _), (by decide : 4 + 0 ≤ _)⟩)
          dsimp only [Pt.U, Pt.locs, Pt.cells, Pt.slots] at X9 l9 y9 z9 st9 hQ9
          subst l9 y9 z9
          obtain ⟨rfl, N9q, e9⟩ := hQ9
          have N9 := Fr.app N7 N9q
          obtain ⟨cq10, kq10, q10a, q10b, q10c⟩ := isOf hZ e9 pf7_0
          obtain ⟨_, _, ⟨T10, L10, k10, n10⟩, -, X10, ⟨Lc10, hQ10, l10, y10, z10⟩, st10⟩ := X9.virtualBack hx (y := (⟨"com/example/melog/melog/model/TimestampedOffset", "equals", "(Ljava/lang/Object;)Z"⟩ : MethodName)) (z := (⟨"com/example/melog/melog/model/TimestampedOffset", "equals", "(Ljava/lang/Object;)Z"⟩ : MethodName)) hown (mvT hZ (hw _ (List.mem_of_getElem? (i := 13) rfl))) (mvT hZ (hw _ (List.mem_of_getElem? (i := 14) rfl))) (notFace_of_selects (args := #[]) (mvT hZ (hw _ (List.mem_of_getElem? (i := 16) rfl)))) (mvT hZ (hw _ (List.mem_of_getElem? (i := 16) rfl))) (mvT hZ (hw _ (List.mem_of_getElem? (i := 15) rfl))) (by decide) (backOf (W := 0) (rm3_6 l Z a0 hw [] w_cache cl_w_cache b6 b1 p1 p4 p2 T7.heap n0 (own_n0 O7) O7 HW pf7_0 pf7_1 pf7_2 ((pf2_0.ext E6).keep K7) ((pf2_1.ext E6).keep K7 (ninS (Nat.ne_of_lt (Nat.lt_of_lt_of_le pf2_0.lt bo_b6)) nin0)) ((pf2_2.ext E6).keep K7 (ninS (Nat.ne_of_lt (Nat.lt_of_lt_of_le pf2_0.lt bo_b6)) nin0)) (Eq.symm hd3)) hZ (hw _ (List.mem_of_getElem? (i := 17) rfl)) (hw _ (List.mem_of_getElem? (i := 2) rfl)) (by decide) (by decide)) q10a q10c (g := (mkF m 106 #[.val (.long p1), .second, .val (.long p2), .second, .val (.long p3), .second, .val (.long p4), .second, .val (.int p5), .val (.ref b1), .val (.int (p5 &&& (3 : Int32))), .val (.long p1), .second, .val (.long p4), .second, .val (.ref b6), .val (.int (1 : Int32))] [(.ref b1), (.ref b6)])) rfl (by rw [hml]; rfl) (Steps.refl _) (argsL := [(.ref b1)]) (rest := []) (lenOf pd36 rfl) rfl (by show 2 * 0 + _ ≤ _; exact Nat.le_of_eq rfl) (hb hby at_106) (fun _ _ => ⟨rfl, e9, (by decide : 2 + 0 ≤ _), (by decide : 4 + 0 ≤ _)⟩)
          dsimp only [Pt.U, Pt.locs, Pt.cells, Pt.slots] at X10 l10 y10 z10 st10 hQ10
          subst l10 y10 z10
          obtain ⟨rfl, N10q, e10⟩ := hQ10
          have N10 := Fr.app N9 N10q
          obtain ⟨fs, hr, hrun, hended, hW, hsame⟩ := X10.leave (v := some (.int (1 : Int32))) (fun h => by rw [Bd.returns] at h; cases h)
          refine ⟨_, _, c8 _ ?_, hrun, hended, _, _, rfl, ?_, ⟨_, rfl⟩, hW, hsame.mono (by decide) (by decide)⟩
          · show Steps p.tables e below (T7.setTop (mkF m 80 #[.val (.long p1), .second, .val (.long p2), .second, .val (.long p3), .second, .val (.long p4), .second, .val (.int p5), .val (.ref b1), .val (.int (p5 &&& (3 : Int32))), .val (.long p1), .second, .val (.long p4), .second, .val (.ref b6), .unset] [(.int (lcmpW p4 p2))])) _
            refine XS.ifNo X7.here hx rfl (hb hby at_80) rfl ((if0 _ _).trans (teq ((lw_eq p4 p2).mpr hd3)).2) ?_
            show Steps p.tables e below (T7.setTop (mkF m 83 #[.val (.long p1), .second, .val (.long p2), .second, .val (.long p3), .second, .val (.long p4), .second, .val (.int p5), .val (.ref b1), .val (.int (p5 &&& (3 : Int32))), .val (.long p1), .second, .val (.long p4), .second, .val (.ref b6), .unset] [])) _
            refine XS.iconst X7.here hx rfl (hb hby at_83) ?_
            show Steps p.tables e below (T7.setTop (mkF m 84 #[.val (.long p1), .second, .val (.long p2), .second, .val (.long p3), .second, .val (.long p4), .second, .val (.int p5), .val (.ref b1), .val (.int (p5 &&& (3 : Int32))), .val (.long p1), .second, .val (.long p4), .second, .val (.ref b6), .unset] [(.int (1 : Int32))])) _
            refine XS.goto X7.here hx rfl (pc0 := 84) (pc' := 88) rfl (hb hby at_84) (by decide) (by decide) ?_
            show Steps p.tables e below (T7.setTop (mkF m 88 #[.val (.long p1), .second, .val (.long p2), .second, .val (.long p3), .second, .val (.long p4), .second, .val (.int p5), .val (.ref b1), .val (.int (p5 &&& (3 : Int32))), .val (.long p1), .second, .val (.long p4), .second, .val (.ref b6), .unset] [(.int (1 : Int32))])) _
            refine XS.istore X7.here hx rfl (hb hby at_88) rfl (l' := #[.val (.long p1), .second, .val (.long p2), .second, .val (.long p3), .second, .val (.long p4), .second, .val (.int p5), .val (.ref b1), .val (.int (p5 &&& (3 : Int32))), .val (.long p1), .second, .val (.long p4), .second, .val (.ref b6), .val (.int (1 : Int32))]) rfl ?_
            show Steps p.tables e below (T7.setTop (mkF m 90 #[.val (.long p1), .second, .val (.long p2), .second, .val (.long p3), .second, .val (.long p4), .second, .val (.int p5), .val (.ref b1), .val (.int (p5 &&& (3 : Int32))), .val (.long p1), .second, .val (.long p4), .second, .val (.ref b6), .val (.int (1 : Int32))] [])) _
            refine XS.aload X7.here hx rfl (hb hby at_90) rfl rfl ?_
            show Steps p.tables e below (T7.setTop (mkF m 92 #[.val (.long p1), .second, .val (.long p2), .second, .val (.long p3), .second, .val (.long p4), .second, .val (.int p5), .val (.ref b1), .val (.int (p5 &&& (3 : Int32))), .val (.long p1), .second, .val (.long p4), .second, .val (.ref b6), .val (.int (1 : Int32))] [(.ref b1)])) _
            refine XS.aload X7.here hx rfl (hb hby at_92) rfl rfl ?_
            show Steps p.tables e below (T7.setTop (mkF m 94 #[.val (.long p1), .second, .val (.long p2), .second, .val (.long p3), .second, .val (.long p4), .second, .val (.int p5), .val (.ref b1), .val (.int (p5 &&& (3 : Int32))), .val (.long p1), .second, .val (.long p4), .second, .val (.ref b6), .val (.int (1 : Int32))] [(.ref b6), (.ref b1)])) _
            refine st9.trans ?_
            show Steps p.tables e below (T9.setTop (mkF m 97 #[.val (.long p1), .second, .val (.long p2), .second, .val (.long p3), .second, .val (.long p4), .second, .val (.int p5), .val (.ref b1), .val (.int (p5 &&& (3 : Int32))), .val (.long p1), .second, .val (.long p4), .second, .val (.ref b6), .val (.int (1 : Int32))] [(.int (1 : Int32))])) _
            refine XS.iload X9.here hx rfl (hb hby at_97) rfl ?_
            show Steps p.tables e below (T9.setTop (mkF m 99 #[.val (.long p1), .second, .val (.long p2), .second, .val (.long p3), .second, .val (.long p4), .second, .val (.int p5), .val (.ref b1), .val (.int (p5 &&& (3 : Int32))), .val (.long p1), .second, .val (.long p4), .second, .val (.ref b6), .val (.int (1 : Int32))] [(.int (1 : Int32)), (.int (1 : Int32))])) _
            refine XS.icmpNo X9.here hx rfl (hb hby at_99) rfl (teq (by decide : (1 : Int32) = (1 : Int32))).2 ?_
            show Steps p.tables e below (T9.setTop (mkF m 102 #[.val (.long p1), .second, .val (.long p2), .second, .val (.long p3), .second, .val (.long p4), .second, .val (.int p5), .val (.ref b1), .val (.int (p5 &&& (3 : Int32))), .val (.long p1), .second, .val (.long p4), .second, .val (.ref b6), .val (.int (1 : Int32))] [])) _
            refine XS.aload X9.here hx rfl (hb hby at_102) rfl rfl ?_
            show Steps p.tables e below (T9.setTop (mkF m 104 #[.val (.long p1), .second, .val (.long p2), .second, .val (.long p3), .second, .val (.long p4), .second, .val (.int p5), .val (.ref b1), .val (.int (p5 &&& (3 : Int32))), .val (.long p1), .second, .val (.long p4), .second, .val (.ref b6), .val (.int (1 : Int32))] [(.ref b6)])) _
            refine XS.aload X9.here hx rfl (hb hby at_104) rfl rfl ?_
            show Steps p.tables e below (T9.setTop (mkF m 106 #[.val (.long p1), .second, .val (.long p2), .second, .val (.long p3), .second, .val (.long p4), .second, .val (.int p5), .val (.ref b1), .val (.int (p5 &&& (3 : Int32))), .val (.long p1), .second, .val (.long p4), .second, .val (.ref b6), .val (.int (1 : Int32))] [(.ref b1), (.ref b6)])) _
            refine st10.trans ?_
            show Steps p.tables e below (T10.setTop (mkF m 109 #[.val (.long p1), .second, .val (.long p2), .second, .val (.long p3), .second, .val (.long p4), .second, .val (.int p5), .val (.ref b1), .val (.int (p5 &&& (3 : Int32))), .val (.long p1), .second, .val (.long p4), .second, .val (.ref b6), .val (.int (1 : Int32))] [(.int (1 : Int32))])) _
            refine XS.iload X10.here hx rfl (hb hby at_109) rfl ?_
            show Steps p.tables e below (T10.setTop (mkF m 111 #[.val (.long p1), .second, .val (.long p2), .second, .val (.long p3), .second, .val (.long p4), .second, .val (.int p5), .val (.ref b1), .val (.int (p5 &&& (3 : Int32))), .val (.long p1), .second, .val (.long p4), .second, .val (.ref b6), .val (.int (1 : Int32))] [(.int (1 : Int32)), (.int (1 : Int32))])) _
            refine XS.icmpNo X10.here hx rfl (hb hby at_111) rfl (teq (by decide : (1 : Int32) = (1 : Int32))).2 ?_
            show Steps p.tables e below (T10.setTop (mkF m 114 #[.val (.long p1), .second, .val (.long p2), .second, .val (.long p3), .second, .val (.long p4), .second, .val (.int p5), .val (.ref b1), .val (.int (p5 &&& (3 : Int32))), .val (.long p1), .second, .val (.long p4), .second, .val (.ref b6), .val (.int (1 : Int32))] [])) _
            refine XS.iconst X10.here hx rfl (hb hby at_114) ?_
            show Steps p.tables e below (T10.setTop (mkF m 115 #[.val (.long p1), .second, .val (.long p2), .second, .val (.long p3), .second, .val (.long p4), .second, .val (.int p5), .val (.ref b1), .val (.int (p5 &&& (3 : Int32))), .val (.long p1), .second, .val (.long p4), .second, .val (.ref b6), .val (.int (1 : Int32))] [(.int (1 : Int32))])) _
            refine XS.goto X10.here hx rfl (pc0 := 115) (pc' := 119) rfl (hb hby at_115) (by decide) (by decide) ?_
            show Steps p.tables e below (T10.setTop (mkF m 119 #[.val (.long p1), .second, .val (.long p2), .second, .val (.long p3), .second, .val (.long p4), .second, .val (.int p5), .val (.ref b1), .val (.int (p5 &&& (3 : Int32))), .val (.long p1), .second, .val (.long p4), .second, .val (.ref b6), .val (.int (1 : Int32))] [(.int (1 : Int32))])) _
            exact retN X10 hx (t := .boolean) Bd.returns (by simp) (hb hby at_119) hr
          · exact ⟨rfl, N10⟩
        · skip
          obtain ⟨cq9, kq9, q9a, q9b, q9c⟩ := isOf hZ rfl ((pf2_0.ext E6).keep K7)
          obtain ⟨_, _, ⟨T9, L9, k9, n9⟩, -, X9, ⟨Lc9, hQ9, l9, y9, z9⟩, st9⟩ := X7.virtualBack hx (y := (⟨"com/example/melog/melog/model/TimestampedOffset", "equals", "(Ljava/lang/Object;)Z"⟩ : MethodName)) (z := (⟨"com/example/melog/melog/model/TimestampedOffset", "equals", "(Ljava/lang/Object;)Z"⟩ : MethodName)) hown (mvT hZ (hw _ (List.mem_of_getElem? (i := 13) rfl))) (mvT hZ (hw _ (List.mem_of_getElem? (i := 14) rfl))) (notFace_of_selects (args := #[]) (mvT hZ (hw _ (List.mem_of_getElem? (i := 16) rfl)))) (mvT hZ (hw _ (List.mem_of_getElem? (i := 16) rfl))) (mvT hZ (hw _ (List.mem_of_getElem? (i := 15) rfl))) (by decide) (backOf (W := 0) (rm3_7 l Z a0 hw [] w_cache cl_w_cache b1 b6 p1 p2 p4 T7.heap n0 (own_n0 O7) O7 HW ((pf2_0.ext E6).keep K7) ((pf2_1.ext E6).keep K7 (ninS (Nat.ne_of_lt (Nat.lt_of_lt_of_le pf2_0.lt bo_b6)) nin0)) ((pf2_2.ext E6).keep K7 (ninS (Nat.ne_of_lt (Nat.lt_of_lt_of_le pf2_0.lt bo_b6)) nin0)) pf7_0 pf7_1 pf7_2 hd3) hZ (hw _ (List.mem_of_getElem? (i := 17) rfl)) (hw _ (List.mem_of_getElem? (i := 2) rfl)) (by decide) (by decide)) q9a q9c (g := (mkF m 94 #[.val (.long p1), .second, .val (.long p2), .second, .val (.long p3), .second, .val (.long p4), .second, .val (.int p5), .val (.ref b1), .val (.int (p5 &&& (3 : Int32))), .val (.long p1), .second, .val (.long p4), .second, .val (.ref b6), .val (.int (0 : Int32))] [(.ref b6), (.ref b1)])) rfl (by rw [hml]; rfl) (Steps.refl _) (argsL := [(.ref b6)]) (rest := []) (lenOf pd36 rfl) rfl (by show 2 * 0 + _ ≤ _; exact Nat.le_of_eq rfl) (hb hby at_94) (fun _ _ => ⟨rfl, rfl, (by decide : 2 + 0 ≤ _), (by decide : 4 + 0 ≤ _)⟩)
          dsimp only [Pt.U, Pt.locs, Pt.cells, Pt.slots] at X9 l9 y9 z9 st9 hQ9
          subst l9 y9 z9
          obtain ⟨rfl, N9q, e9⟩ := hQ9
          have N9 := Fr.app N7 N9q
          obtain ⟨cq10, kq10, q10a, q10b, q10c⟩ := isOf hZ e9 pf7_0
          obtain ⟨_, _, ⟨T10, L10, k10, n10⟩, -, X10, ⟨Lc10, hQ10, l10, y10, z10⟩, st10⟩ := X9.virtualBack hx (y := (⟨"com/example/melog/melog/model/TimestampedOffset", "equals", "(Ljava/lang/Object;)Z"⟩ : MethodName)) (z := (⟨"com/example/melog/melog/model/TimestampedOffset", "equals", "(Ljava/lang/Object;)Z"⟩ : MethodName)) hown (mvT hZ (hw _ (List.mem_of_getElem? (i := 13) rfl))) (mvT hZ (hw _ (List.mem_of_getElem? (i := 14) rfl))) (notFace_of_selects (args := #[]) (mvT hZ (hw _ (List.mem_of_getElem? (i := 16) rfl)))) (mvT hZ (hw _ (List.mem_of_getElem? (i := 16) rfl))) (mvT hZ (hw _ (List.mem_of_getElem? (i := 15) rfl))) (by decide) (backOf (W := 0) (rm3_7 l Z a0 hw [] w_cache cl_w_cache b6 b1 p1 p4 p2 T7.heap n0 (own_n0 O7) O7 HW pf7_0 pf7_1 pf7_2 ((pf2_0.ext E6).keep K7) ((pf2_1.ext E6).keep K7 (ninS (Nat.ne_of_lt (Nat.lt_of_lt_of_le pf2_0.lt bo_b6)) nin0)) ((pf2_2.ext E6).keep K7 (ninS (Nat.ne_of_lt (Nat.lt_of_lt_of_le pf2_0.lt bo_b6)) nin0)) (fun q => hd3 (Eq.symm q))) hZ (hw _ (List.mem_of_getElem? (i := 17) rfl)) (hw _ (List.mem_of_getElem? (i := 2) rfl)) (by decide) (by decide)) q10a q10c (g := (mkF m 106 #[.val (.long p1), .second, .val (.long p2), .second, .val (.long p3), .second, .val (.long p4), .second, .val (.int p5), .val (.ref b1), .val (.int (p5 &&& (3 : Int32))), .val (.long p1), .second, .val (.long p4), .second, .val (.ref b6), .val (.int (0 : Int32))] [(.ref b1), (.ref b6)])) rfl (by rw [hml]; rfl) (Steps.refl _) (argsL := [(.ref b1)]) (rest := []) (lenOf pd36 rfl) rfl (by show 2 * 0 + _ ≤ _; exact Nat.le_of_eq rfl) (hb hby at_106) (fun _ _ => ⟨rfl, e9, (by decide : 2 + 0 ≤ _), (by decide : 4 + 0 ≤ _)⟩)
          dsimp only [Pt.U, Pt.locs, Pt.cells, Pt.slots] at X10 l10 y10 z10 st10 hQ10
          subst l10 y10 z10
          obtain ⟨rfl, N10q, e10⟩ := hQ10
          have N10 := Fr.app N9 N10q
          obtain ⟨fs, hr, hrun, hended, hW, hsame⟩ := X10.leave (v := some (.int (1 : Int32))) (fun h => by rw [Bd.returns] at h; cases h)
          refine ⟨_, _, c8 _ ?_, hrun, hended, _, _, rfl, ?_, ⟨_, rfl⟩, hW, hsame.mono (by decide) (by decide)⟩
          · show Steps p.tables e below (T7.setTop (mkF m 80 #[.val (.long p1), .second, .val (.long p2), .second, .val (.long p3), .second, .val (.long p4), .second, .val (.int p5), .val (.ref b1), .val (.int (p5 &&& (3 : Int32))), .val (.long p1), .second, .val (.long p4), .second, .val (.ref b6), .unset] [(.int (lcmpW p4 p2))])) _
            refine XS.ifYes X7.here hx rfl (pc0 := 80) (pc' := 87) rfl (hb hby at_80) rfl ((if0 _ _).trans (feq (fun q => hd3 ((lw_eq p4 p2).mp q))).2) (by decide) (by decide) ?_
            show Steps p.tables e below (T7.setTop (mkF m 87 #[.val (.long p1), .second, .val (.long p2), .second, .val (.long p3), .second, .val (.long p4), .second, .val (.int p5), .val (.ref b1), .val (.int (p5 &&& (3 : Int32))), .val (.long p1), .second, .val (.long p4), .second, .val (.ref b6), .unset] [])) _
            refine XS.iconst X7.here hx rfl (hb hby at_87) ?_
            show Steps p.tables e below (T7.setTop (mkF m 88 #[.val (.long p1), .second, .val (.long p2), .second, .val (.long p3), .second, .val (.long p4), .second, .val (.int p5), .val (.ref b1), .val (.int (p5 &&& (3 : Int32))), .val (.long p1), .second, .val (.long p4), .second, .val (.ref b6), .unset] [(.int (0 : Int32))])) _
            refine XS.istore X7.here hx rfl (hb hby at_88) rfl (l' := #[.val (.long p1), .second, .val (.long p2), .second, .val (.long p3), .second, .val (.long p4), .second, .val (.int p5), .val (.ref b1), .val (.int (p5 &&& (3 : Int32))), .val (.long p1), .second, .val (.long p4), .second, .val (.ref b6), .val (.int (0 : Int32))]) rfl ?_
            show Steps p.tables e below (T7.setTop (mkF m 90 #[.val (.long p1), .second, .val (.long p2), .second, .val (.long p3), .second, .val (.long p4), .second, .val (.int p5), .val (.ref b1), .val (.int (p5 &&& (3 : Int32))), .val (.long p1), .second, .val (.long p4), .second, .val (.ref b6), .val (.int (0 : Int32))] [])) _
            refine XS.aload X7.here hx rfl (hb hby at_90) rfl rfl ?_
            show Steps p.tables e below (T7.setTop (mkF m 92 #[.val (.long p1), .second, .val (.long p2), .second, .val (.long p3), .second, .val (.long p4), .second, .val (.int p5), .val (.ref b1), .val (.int (p5 &&& (3 : Int32))), .val (.long p1), .second, .val (.long p4), .second, .val (.ref b6), .val (.int (0 : Int32))] [(.ref b1)])) _
            refine XS.aload X7.here hx rfl (hb hby at_92) rfl rfl ?_
            show Steps p.tables e below (T7.setTop (mkF m 94 #[.val (.long p1), .second, .val (.long p2), .second, .val (.long p3), .second, .val (.long p4), .second, .val (.int p5), .val (.ref b1), .val (.int (p5 &&& (3 : Int32))), .val (.long p1), .second, .val (.long p4), .second, .val (.ref b6), .val (.int (0 : Int32))] [(.ref b6), (.ref b1)])) _
            refine st9.trans ?_
            show Steps p.tables e below (T9.setTop (mkF m 97 #[.val (.long p1), .second, .val (.long p2), .second, .val (.long p3), .second, .val (.long p4), .second, .val (.int p5), .val (.ref b1), .val (.int (p5 &&& (3 : Int32))), .val (.long p1), .second, .val (.long p4), .second, .val (.ref b6), .val (.int (0 : Int32))] [(.int (0 : Int32))])) _
            refine XS.iload X9.here hx rfl (hb hby at_97) rfl ?_
            show Steps p.tables e below (T9.setTop (mkF m 99 #[.val (.long p1), .second, .val (.long p2), .second, .val (.long p3), .second, .val (.long p4), .second, .val (.int p5), .val (.ref b1), .val (.int (p5 &&& (3 : Int32))), .val (.long p1), .second, .val (.long p4), .second, .val (.ref b6), .val (.int (0 : Int32))] [(.int (0 : Int32)), (.int (0 : Int32))])) _
            refine XS.icmpNo X9.here hx rfl (hb hby at_99) rfl (teq (by decide : (0 : Int32) = (0 : Int32))).2 ?_
            show Steps p.tables e below (T9.setTop (mkF m 102 #[.val (.long p1), .second, .val (.long p2), .second, .val (.long p3), .second, .val (.long p4), .second, .val (.int p5), .val (.ref b1), .val (.int (p5 &&& (3 : Int32))), .val (.long p1), .second, .val (.long p4), .second, .val (.ref b6), .val (.int (0 : Int32))] [])) _
            refine XS.aload X9.here hx rfl (hb hby at_102) rfl rfl ?_
            show Steps p.tables e below (T9.setTop (mkF m 104 #[.val (.long p1), .second, .val (.long p2), .second, .val (.long p3), .second, .val (.long p4), .second, .val (.int p5), .val (.ref b1), .val (.int (p5 &&& (3 : Int32))), .val (.long p1), .second, .val (.long p4), .second, .val (.ref b6), .val (.int (0 : Int32))] [(.ref b6)])) _
            refine XS.aload X9.here hx rfl (hb hby at_104) rfl rfl ?_
            show Steps p.tables e below (T9.setTop (mkF m 106 #[.val (.long p1), .second, .val (.long p2), .second, .val (.long p3), .second, .val (.long p4), .second, .val (.int p5), .val (.ref b1), .val (.int (p5 &&& (3 : Int32))), .val (.long p1), .second, .val (.long p4), .second, .val (.ref b6), .val (.int (0 : Int32))] [(.ref b1), (.ref b6)])) _
            refine st10.trans ?_
            show Steps p.tables e below (T10.setTop (mkF m 109 #[.val (.long p1), .second, .val (.long p2), .second, .val (.long p3), .second, .val (.long p4), .second, .val (.int p5), .val (.ref b1), .val (.int (p5 &&& (3 : Int32))), .val (.long p1), .second, .val (.long p4), .second, .val (.ref b6), .val (.int (0 : Int32))] [(.int (0 : Int32))])) _
            refine XS.iload X10.here hx rfl (hb hby at_109) rfl ?_
            show Steps p.tables e below (T10.setTop (mkF m 111 #[.val (.long p1), .second, .val (.long p2), .second, .val (.long p3), .second, .val (.long p4), .second, .val (.int p5), .val (.ref b1), .val (.int (p5 &&& (3 : Int32))), .val (.long p1), .second, .val (.long p4), .second, .val (.ref b6), .val (.int (0 : Int32))] [(.int (0 : Int32)), (.int (0 : Int32))])) _
            refine XS.icmpNo X10.here hx rfl (hb hby at_111) rfl (teq (by decide : (0 : Int32) = (0 : Int32))).2 ?_
            show Steps p.tables e below (T10.setTop (mkF m 114 #[.val (.long p1), .second, .val (.long p2), .second, .val (.long p3), .second, .val (.long p4), .second, .val (.int p5), .val (.ref b1), .val (.int (p5 &&& (3 : Int32))), .val (.long p1), .second, .val (.long p4), .second, .val (.ref b6), .val (.int (0 : Int32))] [])) _
            refine XS.iconst X10.here hx rfl (hb hby at_114) ?_
            show Steps p.tables e below (T10.setTop (mkF m 115 #[.val (.long p1), .second, .val (.long p2), .second, .val (.long p3), .second, .val (.long p4), .second, .val (.int p5), .val (.ref b1), .val (.int (p5 &&& (3 : Int32))), .val (.long p1), .second, .val (.long p4), .second, .val (.ref b6), .val (.int (0 : Int32))] [(.int (1 : Int32))])) _
            refine XS.goto X10.here hx rfl (pc0 := 115) (pc' := 119) rfl (hb hby at_115) (by decide) (by decide) ?_
            show Steps p.tables e below (T10.setTop (mkF m 119 #[.val (.long p1), .second, .val (.long p2), .second, .val (.long p3), .second, .val (.long p4), .second, .val (.int p5), .val (.ref b1), .val (.int (p5 &&& (3 : Int32))), .val (.long p1), .second, .val (.long p4), .second, .val (.ref b6), .val (.int (0 : Int32))] [(.int (1 : Int32))])) _
            exact retN X10 hx (t := .boolean) Bd.returns (by simp) (hb hby at_119) hr
          · exact ⟨rfl, N10⟩
      · skip
        obtain ⟨T6, h6, X6, e6, E6, A6, D6, -, st6⟩ := newO X2 hx hZ hown (hw _ (List.mem_of_getElem? (i := 0) rfl)) (hw _ (List.mem_of_getElem? (i := 1) rfl)) (hw _ (List.mem_of_getElem? (i := 2) rfl)) rfl (g := (mkF m 56 #[.val (.long p1), .second, .val (.long p2), .second, .val (.long p3), .second, .val (.long p4), .second, .val (.int p5), .val (.ref b1), .val (.int (p5 &&& (3 : Int32))), .val (.long p1), .second, .val (.long p2), .second, .unset, .unset] [])) rfl (hb hby at_56) (by decide) (by decide)
        obtain ⟨b6, gg6⟩ : ∃ z, z = T2.heap.size := ⟨_, rfl⟩
        rw [← gg6] at A6 D6 st6
        have bo_b6 : T2.heap.size ≤ b6 := Nat.le_of_eq gg6.symm
        have g_b6 : n0 ≤ b6 := Nat.le_trans (own_n0 O2) bo_b6
        have O6 := O2.ext E6
        have F_offset_b6 : Fld Z h6 b6 "com/example/melog/melog/model/TimestampedOffset" "offset" "J" (.long (0 : Int64)) := D6 (Or.inr (hw _ (List.mem_of_getElem? (i := 10) rfl))) (ty := .long) (by decide)
        have F_timestamp_b6 : Fld Z h6 b6 "com/example/melog/melog/model/TimestampedOffset" "timestamp" "J" (.long (0 : Int64)) := D6 (Or.inr (hw _ (List.mem_of_getElem? (i := 12) rfl))) (ty := .long) (by decide)
        obtain ⟨_, _, ⟨T7, L7, k7, n7⟩, -, X7, ⟨Lc7, hQ7, l7, y7, z7⟩, st7⟩ := X6.specialBack hx (y := (⟨"com/example/melog/melog/model/TimestampedOffset", "<init>", "(JJ)V"⟩ : MethodName)) rfl hown (mvT hZ (hw _ (List.mem_of_getElem? (i := 3) rfl))) (mvT hZ (hw _ (List.mem_of_getElem? (i := 4) rfl))) (mvT hZ (hw _ (List.mem_of_getElem? (i := 5) rfl))) (by decide) (backOf (W := 1) (rm1_0 l Z a0 hw [] w_cache cl_w_cache b6 p1 p2 h6 n0 (own_n0 O6) O6 HW A6 F_offset_b6 F_timestamp_b6 g_b6) hZ (hw _ (List.mem_of_getElem? (i := 5) rfl)) (hw _ (List.mem_of_getElem? (i := 2) rfl)) (by decide) (by decide)) (g := (mkF m 64 #[.val (.long p1), .second, .val (.long p2), .second, .val (.long p3), .second, .val (.long p4), .second, .val (.int p5), .val (.ref b1), .val (.int (p5 &&& (3 : Int32))), .val (.long p1), .second, .val (.long p2), .second, .unset, .unset] [(.long p2), (.long p1), (.ref b6), (.ref b6)])) rfl (by rw [hml]; rfl) (Steps.refl _) (a := b6) (argsL := [(.long p1), (.long p2)]) (rest := [(.ref b6)]) (lenOf pd12 rfl) rfl (by show 2 * 0 + _ ≤ _; exact Nat.le_of_eq rfl) (hb hby at_64) (fun _ _ => ⟨rfl, e6, (by decide : 2 + 0 ≤ _), (by decide : 4 + 0 ≤ _)⟩)
        dsimp only [Pt.U, Pt.locs, Pt.cells, Pt.slots] at X7 l7 y7 z7 st7 hQ7
        subst l7 y7 z7
        obtain ⟨rfl, N7q, K7, O7, pf7_0, pf7_1, pf7_2, -⟩ := hQ7
        have N7 := Fr.app N2 N7q
        obtain ⟨cq8, kq8, q8a, q8b, q8c⟩ := isOf hZ rfl ((pf2_0.ext E6).keep K7)
        obtain ⟨_, _, ⟨T8, L8, k8, n8⟩, -, X8, ⟨Lc8, hQ8, l8, y8, z8⟩, st8⟩ := X7.virtualBack hx (y := (⟨"com/example/melog/melog/model/TimestampedOffset", "equals", "(Ljava/lang/Object;)Z"⟩ : MethodName)) (z := (⟨"com/example/melog/melog/model/TimestampedOffset", "equals", "(Ljava/lang/Object;)Z"⟩ : MethodName)) hown (mvT hZ (hw _ (List.mem_of_getElem? (i := 13) rfl))) (mvT hZ (hw _ (List.mem_of_getElem? (i := 14) rfl))) (notFace_of_selects (args := #[]) (mvT hZ (hw _ (List.mem_of_getElem? (i := 16) rfl)))) (mvT hZ (hw _ (List.mem_of_getElem? (i := 16) rfl))) (mvT hZ (hw _ (List.mem_of_getElem? (i := 15) rfl))) (by decide) (backOf (W := 0) (rm3_8 l Z a0 hw [] w_cache cl_w_cache b1 b6 p1 p2 T7.heap n0 (own_n0 O7) O7 HW ((pf2_0.ext E6).keep K7) ((pf2_1.ext E6).keep K7 (ninS (Nat.ne_of_lt (Nat.lt_of_lt_of_le pf2_0.lt bo_b6)) nin0)) ((pf2_2.ext E6).keep K7 (ninS (Nat.ne_of_lt (Nat.lt_of_lt_of_le pf2_0.lt bo_b6)) nin0)) pf7_0 pf7_1 pf7_2) hZ (hw _ (List.mem_of_getElem? (i := 17) rfl)) (hw _ (List.mem_of_getElem? (i := 2) rfl)) (by decide) (by decide)) q8a q8c (g := (mkF m 94 #[.val (.long p1), .second, .val (.long p2), .second, .val (.long p3), .second, .val (.long p4), .second, .val (.int p5), .val (.ref b1), .val (.int (p5 &&& (3 : Int32))), .val (.long p1), .second, .val (.long p2), .second, .val (.ref b6), .val (.int (1 : Int32))] [(.ref b6), (.ref b1)])) rfl (by rw [hml]; rfl) (Steps.refl _) (argsL := [(.ref b6)]) (rest := []) (lenOf pd36 rfl) rfl (by show 2 * 0 + _ ≤ _; exact Nat.le_of_eq rfl) (hb hby at_94) (fun _ _ => ⟨rfl, rfl, (by decide : 2 + 0 ≤ _), (by decide : 4 + 0 ≤ _)⟩)
        dsimp only [Pt.U, Pt.locs, Pt.cells, Pt.slots] at X8 l8 y8 z8 st8 hQ8
        subst l8 y8 z8
        obtain ⟨rfl, N8q, e8⟩ := hQ8
        have N8 := Fr.app N7 N8q
        obtain ⟨cq9, kq9, q9a, q9b, q9c⟩ := isOf hZ e8 pf7_0
        obtain ⟨_, _, ⟨T9, L9, k9, n9⟩, -, X9, ⟨Lc9, hQ9, l9, y9, z9⟩, st9⟩ := X8.virtualBack hx (y := (⟨"com/example/melog/melog/model/TimestampedOffset", "equals", "(Ljava/lang/Object;)Z"⟩ : MethodName)) (z := (⟨"com/example/melog/melog/model/TimestampedOffset", "equals", "(Ljava/lang/Object;)Z"⟩ : MethodName)) hown (mvT hZ (hw _ (List.mem_of_getElem? (i := 13) rfl))) (mvT hZ (hw _ (List.mem_of_getElem? (i := 14) rfl))) (notFace_of_selects (args := #[]) (mvT hZ (hw _ (List.mem_of_getElem? (i := 16) rfl)))) (mvT hZ (hw _ (List.mem_of_getElem? (i := 16) rfl))) (mvT hZ (hw _ (List.mem_of_getElem? (i := 15) rfl))) (by decide) (backOf (W := 0) (rm3_8 l Z a0 hw [] w_cache cl_w_cache b6 b1 p1 p2 T7.heap n0 (own_n0 O7) O7 HW pf7_0 pf7_1 pf7_2 ((pf2_0.ext E6).keep K7) ((pf2_1.ext E6).keep K7 (ninS (Nat.ne_of_lt (Nat.lt_of_lt_of_le pf2_0.lt bo_b6)) nin0)) ((pf2_2.ext E6).keep K7 (ninS (Nat.ne_of_lt (Nat.lt_of_lt_of_le pf2_0.lt bo_b6)) nin0))) hZ (hw _ (List.mem_of_getElem? (i := 17) rfl)) (hw _ (List.mem_of_getElem? (i := 2) rfl)) (by decide) (by decide)) q9a q9c (g := (mkF m 106 #[.val (.long p1), .second, .val (.long p2), .second, .val (.long p3), .second, .val (.long p4), .second, .val (.int p5), .val (.ref b1), .val (.int (p5 &&& (3 : Int32))), .val (.long p1), .second, .val (.long p2), .second, .val (.ref b6), .val (.int (1 : Int32))] [(.ref b1), (.ref b6)])) rfl (by rw [hml]; rfl) (Steps.refl _) (argsL := [(.ref b1)]) (rest := []) (lenOf pd36 rfl) rfl (by show 2 * 0 + _ ≤ _; exact Nat.le_of_eq rfl) (hb hby at_106) (fun _ _ => ⟨rfl, e8, (by decide : 2 + 0 ≤ _), (by decide : 4 + 0 ≤ _)⟩)
        dsimp only [Pt.U, Pt.locs, Pt.cells, Pt.slots] at X9 l9 y9 z9 st9 hQ9
        subst l9 y9 z9
        obtain ⟨rfl, N9q, e9⟩ := hQ9
        have N9 := Fr.app N8 N9q
        obtain ⟨fs, hr, hrun, hended, hW, hsame⟩ := X9.leave (v := some (.int (1 : Int32))) (fun h => by rw [Bd.returns] at h; cases h)
        refine ⟨_, _, c5 _ ?_, hrun, hended, _, _, rfl, ?_, ⟨_, rfl⟩, hW, hsame.mono (by decide) (by decide)⟩
        · show Steps p.tables e below (T2.setTop (mkF m 45 #[.val (.long p1), .second, .val (.long p2), .second, .val (.long p3), .second, .val (.long p4), .second, .val (.int p5), .val (.ref b1), .val (.int (p5 &&& (3 : Int32))), .val (.long p1), .second, .unset, .unset, .unset, .unset] [(.int ((p5 >>> ((3 : Int32) &&& 31)) &&& (1 : Int32)))])) _
          refine XS.ifNo X2.here hx rfl (hb hby at_45) rfl ((if0 _ _).trans (feq hd2).1) ?_
          show Steps p.tables e below (T2.setTop (mkF m 48 #[.val (.long p1), .second, .val (.long p2), .second, .val (.long p3), .second, .val (.long p4), .second, .val (.int p5), .val (.ref b1), .val (.int (p5 &&& (3 : Int32))), .val (.long p1), .second, .unset, .unset, .unset, .unset] [])) _
          refine XS.lloadN X2.here hx rfl (hb hby at_48) rfl ?_
          show Steps p.tables e below (T2.setTop (mkF m 49 #[.val (.long p1), .second, .val (.long p2), .second, .val (.long p3), .second, .val (.long p4), .second, .val (.int p5), .val (.ref b1), .val (.int (p5 &&& (3 : Int32))), .val (.long p1), .second, .unset, .unset, .unset, .unset] [(.long p2)])) _
          refine XS.goto X2.here hx rfl (pc0 := 49) (pc' := 54) rfl (hb hby at_49) (by decide) (by decide) ?_
          show Steps p.tables e below (T2.setTop (mkF m 54 #[.val (.long p1), .second, .val (.long p2), .second, .val (.long p3), .second, .val (.long p4), .second, .val (.int p5), .val (.ref b1), .val (.int (p5 &&& (3 : Int32))), .val (.long p1), .second, .unset, .unset, .unset, .unset] [(.long p2)])) _
          refine XS.lstore X2.here hx rfl (hb hby at_54) rfl (l' := #[.val (.long p1), .second, .val (.long p2), .second, .val (.long p3), .second, .val (.long p4), .second, .val (.int p5), .val (.ref b1), .val (.int (p5 &&& (3 : Int32))), .val (.long p1), .second, .val (.long p2), .second, .unset, .unset]) rfl ?_
          show Steps p.tables e below (T2.setTop (mkF m 56 #[.val (.long p1), .second, .val (.long p2), .second, .val (.long p3), .second, .val (.long p4), .second, .val (.int p5), .val (.ref b1), .val (.int (p5 &&& (3 : Int32))), .val (.long p1), .second, .val (.long p2), .second, .unset, .unset] [])) _
          refine st6 _ ?_
          show Steps p.tables e below (T6.setTop (mkF m 59 #[.val (.long p1), .second, .val (.long p2), .second, .val (.long p3), .second, .val (.long p4), .second, .val (.int p5), .val (.ref b1), .val (.int (p5 &&& (3 : Int32))), .val (.long p1), .second, .val (.long p2), .second, .unset, .unset] [(.ref b6)])) _
          refine XS.dup X6.here hx rfl (hb hby at_59) rfl rfl ?_
          show Steps p.tables e below (T6.setTop (mkF m 60 #[.val (.long p1), .second, .val (.long p2), .second, .val (.long p3), .second, .val (.long p4), .second, .val (.int p5), .val (.ref b1), .val (.int (p5 &&& (3 : Int32))), .val (.long p1), .second, .val (.long p2), .second, .unset, .unset] [(.ref b6), (.ref b6)])) _
          refine XS.lload X6.here hx rfl (hb hby at_60) rfl ?_
          show Steps p.tables e below (T6.setTop (mkF m 62 #[.val (.long p1), .second, .val (.long p2), .second, .val (.long p3), .second, .val (.long p4), .second, .val (.int p5), .val (.ref b1), .val (.int (p5 &&& (3 : Int32))), .val (.long p1), .second, .val (.long p2), .second, .unset, .unset] [(.long p1), (.ref b6), (.ref b6)])) _
          refine XS.lload X6.here hx rfl (hb hby at_62) rfl ?_
          show Steps p.tables e below (T6.setTop (mkF m 64 #[.val (.long p1), .second, .val (.long p2), .second, .val (.long p3), .second, .val (.long p4), .second, .val (.int p5), .val (.ref b1), .val (.int (p5 &&& (3 : Int32))), .val (.long p1), .second, .val (.long p2), .second, .unset, .unset] [(.long p2), (.long p1), (.ref b6), (.ref b6)])) _
          refine st7.trans ?_
          show Steps p.tables e below (T7.setTop (mkF m 67 #[.val (.long p1), .second, .val (.long p2), .second, .val (.long p3), .second, .val (.long p4), .second, .val (.int p5), .val (.ref b1), .val (.int (p5 &&& (3 : Int32))), .val (.long p1), .second, .val (.long p2), .second, .unset, .unset] [(.ref b6)])) _
          refine XS.astore X7.here hx rfl (hb hby at_67) rfl rfl (l' := #[.val (.long p1), .second, .val (.long p2), .second, .val (.long p3), .second, .val (.long p4), .second, .val (.int p5), .val (.ref b1), .val (.int (p5 &&& (3 : Int32))), .val (.long p1), .second, .val (.long p2), .second, .val (.ref b6), .unset]) rfl ?_
          show Steps p.tables e below (T7.setTop (mkF m 69 #[.val (.long p1), .second, .val (.long p2), .second, .val (.long p3), .second, .val (.long p4), .second, .val (.int p5), .val (.ref b1), .val (.int (p5 &&& (3 : Int32))), .val (.long p1), .second, .val (.long p2), .second, .val (.ref b6), .unset] [])) _
          refine XS.lload X7.here hx rfl (hb hby at_69) rfl ?_
          show Steps p.tables e below (T7.setTop (mkF m 71 #[.val (.long p1), .second, .val (.long p2), .second, .val (.long p3), .second, .val (.long p4), .second, .val (.int p5), .val (.ref b1), .val (.int (p5 &&& (3 : Int32))), .val (.long p1), .second, .val (.long p2), .second, .val (.ref b6), .unset] [(.long p1)])) _
          refine XS.lloadN X7.here hx rfl (hb hby at_71) rfl ?_
          show Steps p.tables e below (T7.setTop (mkF m 72 #[.val (.long p1), .second, .val (.long p2), .second, .val (.long p3), .second, .val (.long p4), .second, .val (.int p5), .val (.ref b1), .val (.int (p5 &&& (3 : Int32))), .val (.long p1), .second, .val (.long p2), .second, .val (.ref b6), .unset] [(.long p1), (.long p1)])) _
          refine XS.lcmp X7.here hx rfl (hb hby at_72) rfl ?_
          show Steps p.tables e below (T7.setTop (mkF m 73 #[.val (.long p1), .second, .val (.long p2), .second, .val (.long p3), .second, .val (.long p4), .second, .val (.int p5), .val (.ref b1), .val (.int (p5 &&& (3 : Int32))), .val (.long p1), .second, .val (.long p2), .second, .val (.ref b6), .unset] [(.int (lcmpW p1 p1))])) _
          refine XS.ifNo X7.here hx rfl (hb hby at_73) rfl ((if0 _ _).trans (teq ((lw_eq p1 p1).mpr (rfl : p1 = p1))).2) ?_
          show Steps p.tables e below (T7.setTop (mkF m 76 #[.val (.long p1), .second, .val (.long p2), .second, .val (.long p3), .second, .val (.long p4), .second, .val (.int p5), .val (.ref b1), .val (.int (p5 &&& (3 : Int32))), .val (.long p1), .second, .val (.long p2), .second, .val (.ref b6), .unset] [])) _
          refine XS.lload X7.here hx rfl (hb hby at_76) rfl ?_
          show Steps p.tables e below (T7.setTop (mkF m 78 #[.val (.long p1), .second, .val (.long p2), .second, .val (.long p3), .second, .val (.long p4), .second, .val (.int p5), .val (.ref b1), .val (.int (p5 &&& (3 : Int32))), .val (.long p1), .second, .val (.long p2), .second, .val (.ref b6), .unset] [(.long p2)])) _
          refine XS.lloadN X7.here hx rfl (hb hby at_78) rfl ?_
          show Steps p.tables e below (T7.setTop (mkF m 79 #[.val (.long p1), .second, .val (.long p2), .second, .val (.long p3), .second, .val (.long p4), .second, .val (.int p5), .val (.ref b1), .val (.int (p5 &&& (3 : Int32))), .val (.long p1), .second, .val (.long p2), .second, .val (.ref b6), .unset] [(.long p2), (.long p2)])) _
          refine XS.lcmp X7.here hx rfl (hb hby at_79) rfl ?_
          show Steps p.tables e below (T7.setTop (mkF m 80 #[.val (.long p1), .second, .val (.long p2), .second, .val (.long p3), .second, .val (.long p4), .second, .val (.int p5), .val (.ref b1), .val (.int (p5 &&& (3 : Int32))), .val (.long p1), .second, .val (.long p2), .second, .val (.ref b6), .unset] [(.int (lcmpW p2 p2))])) _
          refine XS.ifNo X7.here hx rfl (hb hby at_80) rfl ((if0 _ _).trans (teq ((lw_eq p2 p2).mpr (rfl : p2 = p2))).2) ?_
          show Steps p.tables e below (T7.setTop (mkF m 83 #[.val (.long p1), .second, .val (.long p2), .second, .val (.long p3), .second, .val (.long p4), .second, .val (.int p5), .val (.ref b1), .val (.int (p5 &&& (3 : Int32))), .val (.long p1), .second, .val (.long p2), .second, .val (.ref b6), .unset] [])) _
          refine XS.iconst X7.here hx rfl (hb hby at_83) ?_
          show Steps p.tables e below (T7.setTop (mkF m 84 #[.val (.long p1), .second, .val (.long p2), .second, .val (.long p3), .second, .val (.long p4), .second, .val (.int p5), .val (.ref b1), .val (.int (p5 &&& (3 : Int32))), .val (.long p1), .second, .val (.long p2), .second, .val (.ref b6), .unset] [(.int (1 : Int32))])) _
          refine XS.goto X7.here hx rfl (pc0 := 84) (pc' := 88) rfl (hb hby at_84) (by decide) (by decide) ?_
          show Steps p.tables e below (T7.setTop (mkF m 88 #[.val (.long p1), .second, .val (.long p2), .second, .val (.long p3), .second, .val (.long p4), .second, .val (.int p5), .val (.ref b1), .val (.int (p5 &&& (3 : Int32))), .val (.long p1), .second, .val (.long p2), .second, .val (.ref b6), .unset] [(.int (1 : Int32))])) _
          refine XS.istore X7.here hx rfl (hb hby at_88) rfl (l' := #[.val (.long p1), .second, .val (.long p2), .second, .val (.long p3), .second, .val (.long p4), .second, .val (.int p5), .val (.ref b1), .val (.int (p5 &&& (3 : Int32))), .val (.long p1), .second, .val (.long p2), .second, .val (.ref b6), .val (.int (1 : Int32))]) rfl ?_
          show Steps p.tables e below (T7.setTop (mkF m 90 #[.val (.long p1), .second, .val (.long p2), .second, .val (.long p3), .second, .val (.long p4), .second, .val (.int p5), .val (.ref b1), .val (.int (p5 &&& (3 : Int32))), .val (.long p1), .second, .val (.long p2), .second, .val (.ref b6), .val (.int (1 : Int32))] [])) _
          refine XS.aload X7.here hx rfl (hb hby at_90) rfl rfl ?_
          show Steps p.tables e below (T7.setTop (mkF m 92 #[.val (.long p1), .second, .val (.long p2), .second, .val (.long p3), .second, .val (.long p4), .second, .val (.int p5), .val (.ref b1), .val (.int (p5 &&& (3 : Int32))), .val (.long p1), .second, .val (.long p2), .second, .val (.ref b6), .val (.int (1 : Int32))] [(.ref b1)])) _
          refine XS.aload X7.here hx rfl (hb hby at_92) rfl rfl ?_
          show Steps p.tables e below (T7.setTop (mkF m 94 #[.val (.long p1), .second, .val (.long p2), .second, .val (.long p3), .second, .val (.long p4), .second, .val (.int p5), .val (.ref b1), .val (.int (p5 &&& (3 : Int32))), .val (.long p1), .second, .val (.long p2), .second, .val (.ref b6), .val (.int (1 : Int32))] [(.ref b6), (.ref b1)])) _
          refine st8.trans ?_
          show Steps p.tables e below (T8.setTop (mkF m 97 #[.val (.long p1), .second, .val (.long p2), .second, .val (.long p3), .second, .val (.long p4), .second, .val (.int p5), .val (.ref b1), .val (.int (p5 &&& (3 : Int32))), .val (.long p1), .second, .val (.long p2), .second, .val (.ref b6), .val (.int (1 : Int32))] [(.int (1 : Int32))])) _
          refine XS.iload X8.here hx rfl (hb hby at_97) rfl ?_
          show Steps p.tables e below (T8.setTop (mkF m 99 #[.val (.long p1), .second, .val (.long p2), .second, .val (.long p3), .second, .val (.long p4), .second, .val (.int p5), .val (.ref b1), .val (.int (p5 &&& (3 : Int32))), .val (.long p1), .second, .val (.long p2), .second, .val (.ref b6), .val (.int (1 : Int32))] [(.int (1 : Int32)), (.int (1 : Int32))])) _
          refine XS.icmpNo X8.here hx rfl (hb hby at_99) rfl (teq (by decide : (1 : Int32) = (1 : Int32))).2 ?_
          show Steps p.tables e below (T8.setTop (mkF m 102 #[.val (.long p1), .second, .val (.long p2), .second, .val (.long p3), .second, .val (.long p4), .second, .val (.int p5), .val (.ref b1), .val (.int (p5 &&& (3 : Int32))), .val (.long p1), .second, .val (.long p2), .second, .val (.ref b6), .val (.int (1 : Int32))] [])) _
          refine XS.aload X8.here hx rfl (hb hby at_102) rfl rfl ?_
          show Steps p.tables e below (T8.setTop (mkF m 104 #[.val (.long p1), .second, .val (.long p2), .second, .val (.long p3), .second, .val (.long p4), .second, .val (.int p5), .val (.ref b1), .val (.int (p5 &&& (3 : Int32))), .val (.long p1), .second, .val (.long p2), .second, .val (.ref b6), .val (.int (1 : Int32))] [(.ref b6)])) _
          refine XS.aload X8.here hx rfl (hb hby at_104) rfl rfl ?_
          show Steps p.tables e below (T8.setTop (mkF m 106 #[.val (.long p1), .second, .val (.long p2), .second, .val (.long p3), .second, .val (.long p4), .second, .val (.int p5), .val (.ref b1), .val (.int (p5 &&& (3 : Int32))), .val (.long p1), .second, .val (.long p2), .second, .val (.ref b6), .val (.int (1 : Int32))] [(.ref b1), (.ref b6)])) _
          refine st9.trans ?_
          show Steps p.tables e below (T9.setTop (mkF m 109 #[.val (.long p1), .second, .val (.long p2), .second, .val (.long p3), .second, .val (.long p4), .second, .val (.int p5), .val (.ref b1), .val (.int (p5 &&& (3 : Int32))), .val (.long p1), .second, .val (.long p2), .second, .val (.ref b6), .val (.int (1 : Int32))] [(.int (1 : Int32))])) _
          refine XS.iload X9.here hx rfl (hb hby at_109) rfl ?_
          show Steps p.tables e below (T9.setTop (mkF m 111 #[.val (.long p1), .second, .val (.long p2), .second, .val (.long p3), .second, .val (.long p4), .second, .val (.int p5), .val (.ref b1), .val (.int (p5 &&& (3 : Int32))), .val (.long p1), .second, .val (.long p2), .second, .val (.ref b6), .val (.int (1 : Int32))] [(.int (1 : Int32)), (.int (1 : Int32))])) _
          refine XS.icmpNo X9.here hx rfl (hb hby at_111) rfl (teq (by decide : (1 : Int32) = (1 : Int32))).2 ?_
          show Steps p.tables e below (T9.setTop (mkF m 114 #[.val (.long p1), .second, .val (.long p2), .second, .val (.long p3), .second, .val (.long p4), .second, .val (.int p5), .val (.ref b1), .val (.int (p5 &&& (3 : Int32))), .val (.long p1), .second, .val (.long p2), .second, .val (.ref b6), .val (.int (1 : Int32))] [])) _
          refine XS.iconst X9.here hx rfl (hb hby at_114) ?_
          show Steps p.tables e below (T9.setTop (mkF m 115 #[.val (.long p1), .second, .val (.long p2), .second, .val (.long p3), .second, .val (.long p4), .second, .val (.int p5), .val (.ref b1), .val (.int (p5 &&& (3 : Int32))), .val (.long p1), .second, .val (.long p2), .second, .val (.ref b6), .val (.int (1 : Int32))] [(.int (1 : Int32))])) _
          refine XS.goto X9.here hx rfl (pc0 := 115) (pc' := 119) rfl (hb hby at_115) (by decide) (by decide) ?_
          show Steps p.tables e below (T9.setTop (mkF m 119 #[.val (.long p1), .second, .val (.long p2), .second, .val (.long p3), .second, .val (.long p4), .second, .val (.int p5), .val (.ref b1), .val (.int (p5 &&& (3 : Int32))), .val (.long p1), .second, .val (.long p2), .second, .val (.ref b6), .val (.int (1 : Int32))] [(.int (1 : Int32))])) _
          exact retN X9 hx (t := .boolean) Bd.returns (by simp) (hb hby at_119) hr
        · exact ⟨rfl, N9⟩
  · skip
    have c4 : ∀ t, Steps p.tables e below (T2.setTop (mkF m 123 #[.val (.long p1), .second, .val (.long p2), .second, .val (.long p3), .second, .val (.long p4), .second, .val (.int p5), .val (.ref b1), .val (.int (p5 &&& (3 : Int32))), .unset, .unset, .unset, .unset, .unset, .unset] [(.int (1 : Int32)), (.int (p5 &&& (3 : Int32)))])) t → Steps p.tables e below (s₁.setTop (entryFrame m #[(.long p1), (.long p2), (.long p3), (.long p4), (.int p5)] maxLocals)) t := fun t kt => c3 _ (by
      show Steps p.tables e below (T2.setTop (mkF m 19 #[.val (.long p1), .second, .val (.long p2), .second, .val (.long p3), .second, .val (.long p4), .second, .val (.int p5), .val (.ref b1), .val (.int (p5 &&& (3 : Int32))), .unset, .unset, .unset, .unset, .unset, .unset] [(.int (p5 &&& (3 : Int32)))])) _
      refine XS.ifYes X2.here hx rfl (pc0 := 19) (pc' := 120) rfl (hb hby at_19) rfl ((if0 _ _).trans (feq hd0).2) (by decide) (by decide) ?_
      show Steps p.tables e below (T2.setTop (mkF m 120 #[.val (.long p1), .second, .val (.long p2), .second, .val (.long p3), .second, .val (.long p4), .second, .val (.int p5), .val (.ref b1), .val (.int (p5 &&& (3 : Int32))), .unset, .unset, .unset, .unset, .unset, .unset] [])) _
      refine XS.iload X2.here hx rfl (hb hby at_120) rfl ?_
      show Steps p.tables e below (T2.setTop (mkF m 122 #[.val (.long p1), .second, .val (.long p2), .second, .val (.long p3), .second, .val (.long p4), .second, .val (.int p5), .val (.ref b1), .val (.int (p5 &&& (3 : Int32))), .unset, .unset, .unset, .unset, .unset, .unset] [(.int (p5 &&& (3 : Int32)))])) _
      refine XS.iconst X2.here hx rfl (hb hby at_122) ?_
      show Steps p.tables e below (T2.setTop (mkF m 123 #[.val (.long p1), .second, .val (.long p2), .second, .val (.long p3), .second, .val (.long p4), .second, .val (.int p5), .val (.ref b1), .val (.int (p5 &&& (3 : Int32))), .unset, .unset, .unset, .unset, .unset, .unset] [(.int (1 : Int32)), (.int (p5 &&& (3 : Int32)))])) _
      exact kt)
    by_cases hd1 : (p5 &&& (3 : Int32)) = (1 : Int32)
    · skip
      obtain ⟨cq5, kq5, q5a, q5b, q5c⟩ := isOf hZ rfl pf2_0
      obtain ⟨_, _, ⟨T5, L5, k5, n5⟩, -, X5, ⟨Lc5, hQ5, l5, y5, z5⟩, st5⟩ := X2.virtualBack hx (y := (⟨"com/example/melog/melog/model/TimestampedOffset", "equals", "(Ljava/lang/Object;)Z"⟩ : MethodName)) (z := (⟨"com/example/melog/melog/model/TimestampedOffset", "equals", "(Ljava/lang/Object;)Z"⟩ : MethodName)) hown (mvT hZ (hw _ (List.mem_of_getElem? (i := 13) rfl))) (mvT hZ (hw _ (List.mem_of_getElem? (i := 14) rfl))) (notFace_of_selects (args := #[]) (mvT hZ (hw _ (List.mem_of_getElem? (i := 16) rfl)))) (mvT hZ (hw _ (List.mem_of_getElem? (i := 16) rfl))) (mvT hZ (hw _ (List.mem_of_getElem? (i := 15) rfl))) (by decide) (backOf (W := 0) (rm3_9 l Z a0 hw [] w_cache cl_w_cache b1 p1 p2 T2.heap n0 (own_n0 O2) O2 HW pf2_0 pf2_1 pf2_2) hZ (hw _ (List.mem_of_getElem? (i := 17) rfl)) (hw _ (List.mem_of_getElem? (i := 2) rfl)) (by decide) (by decide)) q5a q5c (g := (mkF m 133 #[.val (.long p1), .second, .val (.long p2), .second, .val (.long p3), .second, .val (.long p4), .second, .val (.int p5), .val (.ref b1), .val (.int (p5 &&& (3 : Int32))), .val .null, .unset, .unset, .unset, .unset, .unset] [.null, (.ref b1)])) rfl (by rw [hml]; rfl) (Steps.refl _) (argsL := [.null]) (rest := []) (lenOf pd36 rfl) rfl (by show 2 * 0 + _ ≤ _; exact Nat.le_of_eq rfl) (hb hby at_133) (fun _ _ => ⟨rfl, rfl, (by decide : 1 + 0 ≤ _), (by decide : 2 + 0 ≤ _)⟩)
      dsimp only [Pt.U, Pt.locs, Pt.cells, Pt.slots] at X5 l5 y5 z5 st5 hQ5
      subst l5 y5 z5
      obtain ⟨rfl, N5q, e5⟩ := hQ5
      have N5 := Fr.app N2 N5q
      obtain ⟨fs, hr, hrun, hended, hW, hsame⟩ := X5.leave (v := some (.int (1 : Int32))) (fun h => by rw [Bd.returns] at h; cases h)
      refine ⟨_, _, c4 _ ?_, hrun, hended, _, _, rfl, ?_, ⟨_, rfl⟩, hW, hsame.mono (by decide) (by decide)⟩
      · show Steps p.tables e below (T2.setTop (mkF m 123 #[.val (.long p1), .second, .val (.long p2), .second, .val (.long p3), .second, .val (.long p4), .second, .val (.int p5), .val (.ref b1), .val (.int (p5 &&& (3 : Int32))), .unset, .unset, .unset, .unset, .unset, .unset] [(.int (1 : Int32)), (.int (p5 &&& (3 : Int32)))])) _
        refine XS.icmpNo X2.here hx rfl (hb hby at_123) rfl (teq hd1).2 ?_
        show Steps p.tables e below (T2.setTop (mkF m 126 #[.val (.long p1), .second, .val (.long p2), .second, .val (.long p3), .second, .val (.long p4), .second, .val (.int p5), .val (.ref b1), .val (.int (p5 &&& (3 : Int32))), .unset, .unset, .unset, .unset, .unset, .unset] [])) _
        refine XS.aconstNull X2.here hx rfl (hb hby at_126) ?_
        show Steps p.tables e below (T2.setTop (mkF m 127 #[.val (.long p1), .second, .val (.long p2), .second, .val (.long p3), .second, .val (.long p4), .second, .val (.int p5), .val (.ref b1), .val (.int (p5 &&& (3 : Int32))), .unset, .unset, .unset, .unset, .unset, .unset] [.null])) _
        refine XS.astore X2.here hx rfl (hb hby at_127) rfl rfl (l' := #[.val (.long p1), .second, .val (.long p2), .second, .val (.long p3), .second, .val (.long p4), .second, .val (.int p5), .val (.ref b1), .val (.int (p5 &&& (3 : Int32))), .val .null, .unset, .unset, .unset, .unset, .unset]) rfl ?_
        show Steps p.tables e below (T2.setTop (mkF m 129 #[.val (.long p1), .second, .val (.long p2), .second, .val (.long p3), .second, .val (.long p4), .second, .val (.int p5), .val (.ref b1), .val (.int (p5 &&& (3 : Int32))), .val .null, .unset, .unset, .unset, .unset, .unset] [])) _
        refine XS.aload X2.here hx rfl (hb hby at_129) rfl rfl ?_
        show Steps p.tables e below (T2.setTop (mkF m 131 #[.val (.long p1), .second, .val (.long p2), .second, .val (.long p3), .second, .val (.long p4), .second, .val (.int p5), .val (.ref b1), .val (.int (p5 &&& (3 : Int32))), .val .null, .unset, .unset, .unset, .unset, .unset] [(.ref b1)])) _
        refine XS.aload X2.here hx rfl (hb hby at_131) rfl rfl ?_
        show Steps p.tables e below (T2.setTop (mkF m 133 #[.val (.long p1), .second, .val (.long p2), .second, .val (.long p3), .second, .val (.long p4), .second, .val (.int p5), .val (.ref b1), .val (.int (p5 &&& (3 : Int32))), .val .null, .unset, .unset, .unset, .unset, .unset] [.null, (.ref b1)])) _
        refine st5.trans ?_
        show Steps p.tables e below (T5.setTop (mkF m 136 #[.val (.long p1), .second, .val (.long p2), .second, .val (.long p3), .second, .val (.long p4), .second, .val (.int p5), .val (.ref b1), .val (.int (p5 &&& (3 : Int32))), .val .null, .unset, .unset, .unset, .unset, .unset] [(.int (0 : Int32))])) _
        refine XS.ifNo X5.here hx rfl (hb hby at_136) rfl ((if0 _ _).trans (teq (by decide : (0 : Int32) = (0 : Int32))).2) ?_
        show Steps p.tables e below (T5.setTop (mkF m 139 #[.val (.long p1), .second, .val (.long p2), .second, .val (.long p3), .second, .val (.long p4), .second, .val (.int p5), .val (.ref b1), .val (.int (p5 &&& (3 : Int32))), .val .null, .unset, .unset, .unset, .unset, .unset] [])) _
        refine XS.iconst X5.here hx rfl (hb hby at_139) ?_
        show Steps p.tables e below (T5.setTop (mkF m 140 #[.val (.long p1), .second, .val (.long p2), .second, .val (.long p3), .second, .val (.long p4), .second, .val (.int p5), .val (.ref b1), .val (.int (p5 &&& (3 : Int32))), .val .null, .unset, .unset, .unset, .unset, .unset] [(.int (1 : Int32))])) _
        refine XS.goto X5.here hx rfl (pc0 := 140) (pc' := 144) rfl (hb hby at_140) (by decide) (by decide) ?_
        show Steps p.tables e below (T5.setTop (mkF m 144 #[.val (.long p1), .second, .val (.long p2), .second, .val (.long p3), .second, .val (.long p4), .second, .val (.int p5), .val (.ref b1), .val (.int (p5 &&& (3 : Int32))), .val .null, .unset, .unset, .unset, .unset, .unset] [(.int (1 : Int32))])) _
        exact retN X5 hx (t := .boolean) Bd.returns (by simp) (hb hby at_144) hr
      · exact ⟨rfl, N5⟩
    · skip
      have c5 : ∀ t, Steps p.tables e below (T2.setTop (mkF m 148 #[.val (.long p1), .second, .val (.long p2), .second, .val (.long p3), .second, .val (.long p4), .second, .val (.int p5), .val (.ref b1), .val (.int (p5 &&& (3 : Int32))), .unset, .unset, .unset, .unset, .unset, .unset] [(.int (2 : Int32)), (.int (p5 &&& (3 : Int32)))])) t → Steps p.tables e below (s₁.setTop (entryFrame m #[(.long p1), (.long p2), (.long p3), (.long p4), (.int p5)] maxLocals)) t := fun t kt => c4 _ (by
        show Steps p.tables e below (T2.setTop (mkF m 123 #[.val (.long p1), .second, .val (.long p2), .second, .val (.long p3), .second, .val (.long p4), .second, .val (.int p5), .val (.ref b1), .val (.int (p5 &&& (3 : Int32))), .unset, .unset, .unset, .unset, .unset, .unset] [(.int (1 : Int32)), (.int (p5 &&& (3 : Int32)))])) _
        refine XS.icmpYes X2.here hx rfl (pc0 := 123) (pc' := 145) rfl (hb hby at_123) rfl (feq hd1).2 (by decide) (by decide) ?_
        show Steps p.tables e below (T2.setTop (mkF m 145 #[.val (.long p1), .second, .val (.long p2), .second, .val (.long p3), .second, .val (.long p4), .second, .val (.int p5), .val (.ref b1), .val (.int (p5 &&& (3 : Int32))), .unset, .unset, .unset, .unset, .unset, .unset] [])) _
        refine XS.iload X2.here hx rfl (hb hby at_145) rfl ?_
        show Steps p.tables e below (T2.setTop (mkF m 147 #[.val (.long p1), .second, .val (.long p2), .second, .val (.long p3), .second, .val (.long p4), .second, .val (.int p5), .val (.ref b1), .val (.int (p5 &&& (3 : Int32))), .unset, .unset, .unset, .unset, .unset, .unset] [(.int (p5 &&& (3 : Int32)))])) _
        refine XS.iconst X2.here hx rfl (hb hby at_147) ?_
        show Steps p.tables e below (T2.setTop (mkF m 148 #[.val (.long p1), .second, .val (.long p2), .second, .val (.long p3), .second, .val (.long p4), .second, .val (.int p5), .val (.ref b1), .val (.int (p5 &&& (3 : Int32))), .unset, .unset, .unset, .unset, .unset, .unset] [(.int (2 : Int32)), (.int (p5 &&& (3 : Int32)))])) _
        exact kt)
      by_cases hd2 : (p5 &&& (3 : Int32)) = (2 : Int32)
      · skip
        have c6 : ∀ t, Steps p.tables e below (T2.setTop (mkF m 152 #[.val (.long p1), .second, .val (.long p2), .second, .val (.long p3), .second, .val (.long p4), .second, .val (.int p5), .val (.ref b1), .val (.int (p5 &&& (3 : Int32))), .unset, .unset, .unset, .unset, .unset, .unset] [(.long p1)])) t → Steps p.tables e below (s₁.setTop (entryFrame m #[(.long p1), (.long p2), (.long p3), (.long p4), (.int p5)] maxLocals)) t := fun t kt => c5 _ (by
          show Steps p.tables e below (T2.setTop (mkF m 148 #[.val (.long p1), .second, .val (.long p2), .second, .val (.long p3), .second, .val (.long p4), .second, .val (.int p5), .val (.ref b1), .val (.int (p5 &&& (3 : Int32))), .unset, .unset, .unset, .unset, .unset, .unset] [(.int (2 : Int32)), (.int (p5 &&& (3 : Int32)))])) _
          refine XS.icmpNo X2.here hx rfl (hb hby at_148) rfl (teq hd2).2 ?_
          show Steps p.tables e below (T2.setTop (mkF m 151 #[.val (.long p1), .second, .val (.long p2), .second, .val (.long p3), .second, .val (.long p4), .second, .val (.int p5), .val (.ref b1), .val (.int (p5 &&& (3 : Int32))), .unset, .unset, .unset, .unset, .unset, .unset] [])) _
          refine XS.lloadN X2.here hx rfl (hb hby at_151) rfl ?_
          show Steps p.tables e below (T2.setTop (mkF m 152 #[.val (.long p1), .second, .val (.long p2), .second, .val (.long p3), .second, .val (.long p4), .second, .val (.int p5), .val (.ref b1), .val (.int (p5 &&& (3 : Int32))), .unset, .unset, .unset, .unset, .unset, .unset] [(.long p1)])) _
          exact kt)
        by_cases hd3 : p1 < (-128 : Int64)
        · skip
          obtain ⟨_, _, ⟨T7, L7, k7, n7⟩, -, X7, ⟨Lc7, hQ7, l7, y7, z7⟩, st7⟩ := Jvm.LawKit.callS X2 hx (y := (⟨"java/lang/Long", "valueOf", "(J)Ljava/lang/Long;"⟩ : MethodName)) hown (mvT hZ (hw _ (List.mem_of_getElem? (i := 20) rfl))) (mvT hZ (hw _ (List.mem_of_getElem? (i := 21) rfl))) (mvT hZ (hw _ (List.mem_of_getElem? (i := 22) rfl))) (mvT hZ (hw _ (List.mem_of_getElem? (i := 23) rfl))) (by decide) (backOf (W := 0) (rm4_12 l Z a0 hw [] w_cache cl_w_cache p1 T2.heap n0 (own_n0 O2) O2 HW hd3) hZ (hw _ (List.mem_of_getElem? (i := 23) rfl)) (hw _ (List.mem_of_getElem? (i := 22) rfl)) (by decide) (by decide)) (g := (mkF m 152 #[.val (.long p1), .second, .val (.long p2), .second, .val (.long p3), .second, .val (.long p4), .second, .val (.int p5), .val (.ref b1), .val (.int (p5 &&& (3 : Int32))), .unset, .unset, .unset, .unset, .unset, .unset] [(.long p1)])) rfl (by rw [hml]; rfl) (argsL := [(.long p1)]) (rest := []) (lenOf pd77 rfl) rfl (by show 2 * 0 + _ ≤ _; exact Nat.le_of_eq rfl) (hb hby at_152) (fun _ _ => ⟨rfl, rfl, (by decide : 1 + 1 ≤ _), (by decide : 2 + 1 ≤ _)⟩)
          dsimp only [Pt.U, Pt.locs, Pt.cells, Pt.slots] at X7 l7 y7 z7 st7 hQ7
          subst l7 y7 z7
          obtain ⟨b7_0, rfl, N7q, K7, O7, pz_b7_0, pf7_0, pf7_1, -⟩ := hQ7
          have bo_b7_0 : T2.heap.size ≤ b7_0 := pz_b7_0
          have g_b7_0 : n0 ≤ b7_0 := Nat.le_trans (own_n0 O2) bo_b7_0
          have N7 := Fr.app N2 N7q
          obtain ⟨cq8, kq8, q8a, q8b, q8c⟩ := isOf hZ rfl (pf2_0.keep K7)
          obtain ⟨_, _, ⟨T8, L8, k8, n8⟩, -, X8, ⟨Lc8, hQ8, l8, y8, z8⟩, st8⟩ := X7.virtualBack hx (y := (⟨"com/example/melog/melog/model/TimestampedOffset", "equals", "(Ljava/lang/Object;)Z"⟩ : MethodName)) (z := (⟨"com/example/melog/melog/model/TimestampedOffset", "equals", "(Ljava/lang/Object;)Z"⟩ : MethodName)) hown (mvT hZ (hw _ (List.mem_of_getElem? (i := 13) rfl))) (mvT hZ (hw _ (List.mem_of_getElem? (i := 14) rfl))) (notFace_of_selects (args := #[]) (mvT hZ (hw _ (List.mem_of_getElem? (i := 16) rfl)))) (mvT hZ (hw _ (List.mem_of_getElem? (i := 16) rfl))) (mvT hZ (hw _ (List.mem_of_getElem? (i := 15) rfl))) (by decide) (backOf (W := 0) (rm3_13 l Z a0 hw [] w_cache cl_w_cache b1 b7_0 p1 p2 T7.heap n0 (own_n0 O7) O7 HW (pf2_0.keep K7) (pf2_1.keep K7 nin0) (pf2_2.keep K7 nin0) pf7_0 pf7_1) hZ (hw _ (List.mem_of_getElem? (i := 17) rfl)) (hw _ (List.mem_of_getElem? (i := 2) rfl)) (by decide) (by decide)) q8a q8c (g := (mkF m 161 #[.val (.long p1), .second, .val (.long p2), .second, .val (.long p3), .second, .val (.long p4), .second, .val (.int p5), .val (.ref b1), .val (.int (p5 &&& (3 : Int32))), .val (.ref b7_0), .unset, .unset, .unset, .unset, .unset] [(.ref b7_0), (.ref b1)])) rfl (by rw [hml]; rfl) (Steps.refl _) (argsL := [(.ref b7_0)]) (rest := []) (lenOf pd36 rfl) rfl (by show 2 * 0 + _ ≤ _; exact Nat.le_of_eq rfl) (hb hby at_161) (fun _ _ => ⟨rfl, rfl, (by decide : 2 + 0 ≤ _), (by decide : 3 + 0 ≤ _)⟩)
          dsimp only [Pt.U, Pt.locs, Pt.cells, Pt.slots] at X8 l8 y8 z8 st8 hQ8
          subst l8 y8 z8
          obtain ⟨rfl, N8q, e8⟩ := hQ8
          have N8 := Fr.app N7 N8q
          obtain ⟨fs, hr, hrun, hended, hW, hsame⟩ := X8.leave (v := some (.int (1 : Int32))) (fun h => by rw [Bd.returns] at h; cases h)
          refine ⟨_, _, c6 _ ?_, hrun, hended, _, _, rfl, ?_, ⟨_, rfl⟩, hW, hsame.mono (by decide) (by decide)⟩
          · show Steps p.tables e below (T2.setTop (mkF m 152 #[.val (.long p1), .second, .val (.long p2), .second, .val (.long p3), .second, .val (.long p4), .second, .val (.int p5), .val (.ref b1), .val (.int (p5 &&& (3 : Int32))), .unset, .unset, .unset, .unset, .unset, .unset] [(.long p1)])) _
            refine st7 _ ?_
            show Steps p.tables e below (T7.setTop (mkF m 155 #[.val (.long p1), .second, .val (.long p2), .second, .val (.long p3), .second, .val (.long p4), .second, .val (.int p5), .val (.ref b1), .val (.int (p5 &&& (3 : Int32))), .unset, .unset, .unset, .unset, .unset, .unset] [(.ref b7_0)])) _
            refine XS.astore X7.here hx rfl (hb hby at_155) rfl rfl (l' := #[.val (.long p1), .second, .val (.long p2), .second, .val (.long p3), .second, .val (.long p4), .second, .val (.int p5), .val (.ref b1), .val (.int (p5 &&& (3 : Int32))), .val (.ref b7_0), .unset, .unset, .unset, .unset, .unset]) rfl ?_
            show Steps p.tables e below (T7.setTop (mkF m 157 #[.val (.long p1), .second, .val (.long p2), .second, .val (.long p3), .second, .val (.long p4), .second, .val (.int p5), .val (.ref b1), .val (.int (p5 &&& (3 : Int32))), .val (.ref b7_0), .unset, .unset, .unset, .unset, .unset] [])) _
            refine XS.aload X7.here hx rfl (hb hby at_157) rfl rfl ?_
            show Steps p.tables e below (T7.setTop (mkF m 159 #[.val (.long p1), .second, .val (.long p2), .second, .val (.long p3), .second, .val (.long p4), .second, .val (.int p5), .val (.ref b1), .val (.int (p5 &&& (3 : Int32))), .val (.ref b7_0), .unset, .unset, .unset, .unset, .unset] [(.ref b1)])) _
            refine XS.aload X7.here hx rfl (hb hby at_159) rfl rfl ?_
            show Steps p.tables e below (T7.setTop (mkF m 161 #[.val (.long p1), .second, .val (.long p2), .second, .val (.long p3), .second, .val (.long p4), .second, .val (.int p5), .val (.ref b1), .val (.int (p5 &&& (3 : Int32))), .val (.ref b7_0), .unset, .unset, .unset, .unset, .unset] [(.ref b7_0), (.ref b1)])) _
            refine st8.trans ?_
            show Steps p.tables e below (T8.setTop (mkF m 164 #[.val (.long p1), .second, .val (.long p2), .second, .val (.long p3), .second, .val (.long p4), .second, .val (.int p5), .val (.ref b1), .val (.int (p5 &&& (3 : Int32))), .val (.ref b7_0), .unset, .unset, .unset, .unset, .unset] [(.int (0 : Int32))])) _
            refine XS.ifNo X8.here hx rfl (hb hby at_164) rfl ((if0 _ _).trans (teq (by decide : (0 : Int32) = (0 : Int32))).2) ?_
            show Steps p.tables e below (T8.setTop (mkF m 167 #[.val (.long p1), .second, .val (.long p2), .second, .val (.long p3), .second, .val (.long p4), .second, .val (.int p5), .val (.ref b1), .val (.int (p5 &&& (3 : Int32))), .val (.ref b7_0), .unset, .unset, .unset, .unset, .unset] [])) _
            refine XS.iconst X8.here hx rfl (hb hby at_167) ?_
            show Steps p.tables e below (T8.setTop (mkF m 168 #[.val (.long p1), .second, .val (.long p2), .second, .val (.long p3), .second, .val (.long p4), .second, .val (.int p5), .val (.ref b1), .val (.int (p5 &&& (3 : Int32))), .val (.ref b7_0), .unset, .unset, .unset, .unset, .unset] [(.int (1 : Int32))])) _
            refine XS.goto X8.here hx rfl (pc0 := 168) (pc' := 172) rfl (hb hby at_168) (by decide) (by decide) ?_
            show Steps p.tables e below (T8.setTop (mkF m 172 #[.val (.long p1), .second, .val (.long p2), .second, .val (.long p3), .second, .val (.long p4), .second, .val (.int p5), .val (.ref b1), .val (.int (p5 &&& (3 : Int32))), .val (.ref b7_0), .unset, .unset, .unset, .unset, .unset] [(.int (1 : Int32))])) _
            exact retN X8 hx (t := .boolean) Bd.returns (by simp) (hb hby at_172) hr
          · exact ⟨rfl, N8⟩
        · skip
          by_cases hd4 : (127 : Int64) < p1
          · skip
            obtain ⟨_, _, ⟨T7, L7, k7, n7⟩, -, X7, ⟨Lc7, hQ7, l7, y7, z7⟩, st7⟩ := Jvm.LawKit.callS X2 hx (y := (⟨"java/lang/Long", "valueOf", "(J)Ljava/lang/Long;"⟩ : MethodName)) hown (mvT hZ (hw _ (List.mem_of_getElem? (i := 20) rfl))) (mvT hZ (hw _ (List.mem_of_getElem? (i := 21) rfl))) (mvT hZ (hw _ (List.mem_of_getElem? (i := 22) rfl))) (mvT hZ (hw _ (List.mem_of_getElem? (i := 23) rfl))) (by decide) (backOf (W := 0) (rm4_14 l Z a0 hw [] w_cache cl_w_cache p1 T2.heap n0 (own_n0 O2) O2 HW hd3 hd4) hZ (hw _ (List.mem_of_getElem? (i := 23) rfl)) (hw _ (List.mem_of_getElem? (i := 22) rfl)) (by decide) (by decide)) (g := (mkF m 152 #[.val (.long p1), .second, .val (.long p2), .second, .val (.long p3), .second, .val (.long p4), .second, .val (.int p5), .val (.ref b1), .val (.int (p5 &&& (3 : Int32))), .unset, .unset, .unset, .unset, .unset, .unset] [(.long p1)])) rfl (by rw [hml]; rfl) (argsL := [(.long p1)]) (rest := []) (lenOf pd77 rfl) rfl (by show 2 * 0 + _ ≤ _; exact Nat.le_of_eq rfl) (hb hby at_152) (fun _ _ => ⟨rfl, rfl, (by decide : 1 + 1 ≤ _), (by decide : 2 + 1 ≤ _)⟩)
            dsimp only [Pt.U, Pt.locs, Pt.cells, Pt.slots] at X7 l7 y7 z7 st7 hQ7
            subst l7 y7 z7
            obtain ⟨b7_0, rfl, N7q, K7, O7, pz_b7_0, pf7_0, pf7_1, -⟩ := hQ7
            have bo_b7_0 : T2.heap.size ≤ b7_0 := pz_b7_0
            have g_b7_0 : n0 ≤ b7_0 := Nat.le_trans (own_n0 O2) bo_b7_0
            have N7 := Fr.app N2 N7q
            obtain ⟨cq8, kq8, q8a, q8b, q8c⟩ := isOf hZ rfl (pf2_0.keep K7)
            obtain ⟨_, _, ⟨T8, L8, k8, n8⟩, -, X8, ⟨Lc8, hQ8, l8, y8, z8⟩, st8⟩ := X7.virtualBack hx (y := (⟨"com/example/melog/melog/model/TimestampedOffset", "equals", "(Ljava/lang/Object;)Z"⟩ : MethodName)) (z := (⟨"com/example/melog/melog/model/TimestampedOffset", "equals", "(Ljava/lang/Object;)Z"⟩ : MethodName)) hown (mvT hZ (hw _ (List.mem_of_getElem? (i := 13) rfl))) (mvT hZ (hw _ (List.mem_of_getElem? (i := 14) rfl))) (notFace_of_selects (args := #[]) (mvT hZ (hw _ (List.mem_of_getElem? (i := 16) rfl)))) (mvT hZ (hw _ (List.mem_of_getElem? (i := 16) rfl))) (mvT hZ (hw _ (List.mem_of_getElem? (i := 15) rfl))) (by decide) (backOf (W := 0) (rm3_13 l Z a0 hw [] w_cache cl_w_cache b1 b7_0 p1 p2 T7.heap n0 (own_n0 O7) O7 HW (pf2_0.keep K7) (pf2_1.keep K7 nin0) (pf2_2.keep K7 nin0) pf7_0 pf7_1) hZ (hw _ (List.mem_of_getElem? (i := 17) rfl)) (hw _ (List.mem_of_getElem? (i := 2) rfl)) (by decide) (by decide)) q8a q8c (g := (mkF m 161 #[.val (.long p1), .second, .val (.long p2), .second, .val (.long p3), .second, .val (.long p4), .second, .val (.int p5), .val (.ref b1), .val (.int (p5 &&& (3 : Int32))), .val (.ref b7_0), .unset, .unset, .unset, .unset, .unset] [(.ref b7_0), (.ref b1)])) rfl (by rw [hml]; rfl) (Steps.refl _) (argsL := [(.ref b7_0)]) (rest := []) (lenOf pd36 rfl) rfl (by show 2 * 0 + _ ≤ _; exact Nat.le_of_eq rfl) (hb hby at_161) (fun _ _ => ⟨rfl, rfl, (by decide : 2 + 0 ≤ _), (by decide : 3 + 0 ≤ _)⟩)
            dsimp only [Pt.U, Pt.locs, Pt.cells, Pt.slots] at X8 l8 y8 z8 st8 hQ8
            subst l8 y8 z8
            obtain ⟨rfl, N8q, e8⟩ := hQ8
            have N8 := Fr.app N7 N8q
            obtain ⟨fs, hr, hrun, hended, hW, hsame⟩ := X8.leave (v := some (.int (1 : Int32))) (fun h => by rw [Bd.returns] at h; cases h)
            refine ⟨_, _, c6 _ ?_, hrun, hended, _, _, rfl, ?_, ⟨_, rfl⟩, hW, hsame.mono (by decide) (by decide)⟩
            · show Steps p.tables e below (T2.setTop (mkF m 152 #[.val (.long p1), .second, .val (.long p2), .second, .val (.long p3), .second, .val (.long p4), .second, .val (.int p5), .val (.ref b1), .val (.int (p5 &&& (3 : Int32))), .unset, .unset, .unset, .unset, .unset, .unset] [(.long p1)])) _
              refine st7 _ ?_
              show Steps p.tables e below (T7.setTop (mkF m 155 #[.val (.long p1), .second, .val (.long p2), .second, .val (.long p3), .second, .val (.long p4), .second, .val (.int p5), .val (.ref b1), .val (.int (p5 &&& (3 : Int32))), .unset, .unset, .unset, .unset, .unset, .unset] [(.ref b7_0)])) _
              refine XS.astore X7.here hx rfl (hb hby at_155) rfl rfl (l' := #[.val (.long p1), .second, .val (.long p2), .second, .val (.long p3), .second, .val (.long p4), .second, .val (.int p5), .val (.ref b1), .val (.int (p5 &&& (3 : Int32))), .val (.ref b7_0), .unset, .unset, .unset, .unset, .unset]) rfl ?_
              show Steps p.tables e below (T7.setTop (mkF m 157 #[.val (.long p1), .second, .val (.long p2), .second, .val (.long p3), .second, .val (.long p4), .second, .val (.int p5), .val (.ref b1), .val (.int (p5 &&& (3 : Int32))), .val (.ref b7_0), .unset, .unset, .unset, .unset, .unset] [])) _
              refine XS.aload X7.here hx rfl (hb hby at_157) rfl rfl ?_
              show Steps p.tables e below (T7.setTop (mkF m 159 #[.val (.long p1), .second, .val (.long p2), .second, .val (.long p3), .second, .val (.long p4), .second, .val (.int p5), .val (.ref b1), .val (.int (p5 &&& (3 : Int32))), .val (.ref b7_0), .unset, .unset, .unset, .unset, .unset] [(.ref b1)])) _
              refine XS.aload X7.here hx rfl (hb hby at_159) rfl rfl ?_
              show Steps p.tables e below (T7.setTop (mkF m 161 #[.val (.long p1), .second, .val (.long p2), .second, .val (.long p3), .second, .val (.long p4), .second, .val (.int p5), .val (.ref b1), .val (.int (p5 &&& (3 : Int32))), .val (.ref b7_0), .unset, .unset, .unset, .unset, .unset] [(.ref b7_0), (.ref b1)])) _
              refine st8.trans ?_
              show Steps p.tables e below (T8.setTop (mkF m 164 #[.val (.long p1), .second, .val (.long p2), .second, .val (.long p3), .second, .val (.long p4), .second, .val (.int p5), .val (.ref b1), .val (.int (p5 &&& (3 : Int32))), .val (.ref b7_0), .unset, .unset, .unset, .unset, .unset] [(.int (0 : Int32))])) _
              refine XS.ifNo X8.here hx rfl (hb hby at_164) rfl ((if0 _ _).trans (teq (by decide : (0 : Int32) = (0 : Int32))).2) ?_
              show Steps p.tables e below (T8.setTop (mkF m 167 #[.val (.long p1), .second, .val (.long p2), .second, .val (.long p3), .second, .val (.long p4), .second, .val (.int p5), .val (.ref b1), .val (.int (p5 &&& (3 : Int32))), .val (.ref b7_0), .unset, .unset, .unset, .unset, .unset] [])) _
              refine XS.iconst X8.here hx rfl (hb hby at_167) ?_
              show Steps p.tables e below (T8.setTop (mkF m 168 #[.val (.long p1), .second, .val (.long p2), .second, .val (.long p3), .second, .val (.long p4), .second, .val (.int p5), .val (.ref b1), .val (.int (p5 &&& (3 : Int32))), .val (.ref b7_0), .unset, .unset, .unset, .unset, .unset] [(.int (1 : Int32))])) _
              refine XS.goto X8.here hx rfl (pc0 := 168) (pc' := 172) rfl (hb hby at_168) (by decide) (by decide) ?_
              show Steps p.tables e below (T8.setTop (mkF m 172 #[.val (.long p1), .second, .val (.long p2), .second, .val (.long p3), .second, .val (.long p4), .second, .val (.int p5), .val (.ref b1), .val (.int (p5 &&& (3 : Int32))), .val (.ref b7_0), .unset, .unset, .unset, .unset, .unset] [(.int (1 : Int32))])) _
              exact retN X8 hx (t := .boolean) Bd.returns (by simp) (hb hby at_172) hr
            · exact ⟨rfl, N8⟩
          · skip
            obtain ⟨_, _, ⟨T7, L7, k7, n7⟩, -, X7, ⟨Lc7, hQ7, l7, y7, z7⟩, st7⟩ := Jvm.LawKit.callS X2 hx (y := (⟨"java/lang/Long", "valueOf", "(J)Ljava/lang/Long;"⟩ : MethodName)) hown (mvT hZ (hw _ (List.mem_of_getElem? (i := 20) rfl))) (mvT hZ (hw _ (List.mem_of_getElem? (i := 21) rfl))) (mvT hZ (hw _ (List.mem_of_getElem? (i := 22) rfl))) (mvT hZ (hw _ (List.mem_of_getElem? (i := 23) rfl))) (by decide) (backOf (W := 0) (rm4_15 l Z a0 hw [] w_cache cl_w_cache p1 T2.heap n0 (own_n0 O2) O2 HW hd3 hd4) hZ (hw _ (List.mem_of_getElem? (i := 23) rfl)) (hw _ (List.mem_of_getElem? (i := 22) rfl)) (by decide) (by decide)) (g := (mkF m 152 #[.val (.long p1), .second, .val (.long p2), .second, .val (.long p3), .second, .val (.long p4), .second, .val (.int p5), .val (.ref b1), .val (.int (p5 &&& (3 : Int32))), .unset, .unset, .unset, .unset, .unset, .unset] [(.long p1)])) rfl (by rw [hml]; rfl) (argsL := [(.long p1)]) (rest := []) (lenOf pd77 rfl) rfl (by show 2 * 0 + _ ≤ _; exact Nat.le_of_eq rfl) (hb hby at_152) (fun _ _ => ⟨rfl, rfl, (by decide : 1 + 0 ≤ _), (by decide : 2 + 0 ≤ _)⟩)
            dsimp only [Pt.U, Pt.locs, Pt.cells, Pt.slots] at X7 l7 y7 z7 st7 hQ7
            subst l7 y7 z7
            obtain ⟨o7_0, rfl, N7q, e7, of7_0⟩ := hQ7
            have N7 := Fr.app N2 N7q
            obtain ⟨cq8, kq8, q8a, q8b, q8c⟩ := isOf hZ e7 pf2_0
            obtain ⟨_, _, ⟨T8, L8, k8, n8⟩, -, X8, ⟨Lc8, hQ8, l8, y8, z8⟩, st8⟩ := X7.virtualBack hx (y := (⟨"com/example/melog/melog/model/TimestampedOffset", "equals", "(Ljava/lang/Object;)Z"⟩ : MethodName)) (z := (⟨"com/example/melog/melog/model/TimestampedOffset", "equals", "(Ljava/lang/Object;)Z"⟩ : MethodName)) hown (mvT hZ (hw _ (List.mem_of_getElem? (i := 13) rfl))) (mvT hZ (hw _ (List.mem_of_getElem? (i := 14) rfl))) (notFace_of_selects (args := #[]) (mvT hZ (hw _ (List.mem_of_getElem? (i := 16) rfl)))) (mvT hZ (hw _ (List.mem_of_getElem? (i := 16) rfl))) (mvT hZ (hw _ (List.mem_of_getElem? (i := 15) rfl))) (by decide) (backOf (W := 0) (rm3_16 l Z a0 hw [] w_cache cl_w_cache b1 o7_0 p1 p2 T2.heap n0 (own_n0 O2) O2 HW pf2_0 pf2_1 pf2_2 (of7_0.ext O2.2)) hZ (hw _ (List.mem_of_getElem? (i := 17) rfl)) (hw _ (List.mem_of_getElem? (i := 2) rfl)) (by decide) (by decide)) q8a q8c (g := (mkF m 161 #[.val (.long p1), .second, .val (.long p2), .second, .val (.long p3), .second, .val (.long p4), .second, .val (.int p5), .val (.ref b1), .val (.int (p5 &&& (3 : Int32))), .val (.ref o7_0), .unset, .unset, .unset, .unset, .unset] [(.ref o7_0), (.ref b1)])) rfl (by rw [hml]; rfl) (Steps.refl _) (argsL := [(.ref o7_0)]) (rest := []) (lenOf pd36 rfl) rfl (by show 2 * 0 + _ ≤ _; exact Nat.le_of_eq rfl) (hb hby at_161) (fun _ _ => ⟨rfl, e7, (by decide : 1 + 0 ≤ _), (by decide : 2 + 0 ≤ _)⟩)
            dsimp only [Pt.U, Pt.locs, Pt.cells, Pt.slots] at X8 l8 y8 z8 st8 hQ8
            subst l8 y8 z8
            obtain ⟨rfl, N8q, e8⟩ := hQ8
            have N8 := Fr.app N7 N8q
            obtain ⟨fs, hr, hrun, hended, hW, hsame⟩ := X8.leave (v := some (.int (1 : Int32))) (fun h => by rw [Bd.returns] at h; cases h)
            refine ⟨_, _, c6 _ ?_, hrun, hended, _, _, rfl, ?_, ⟨_, rfl⟩, hW, hsame.mono (by decide) (by decide)⟩
            · show Steps p.tables e below (T2.setTop (mkF m 152 #[.val (.long p1), .second, .val (.long p2), .second, .val (.long p3), .second, .val (.long p4), .second, .val (.int p5), .val (.ref b1), .val (.int (p5 &&& (3 : Int32))), .unset, .unset, .unset, .unset, .unset, .unset] [(.long p1)])) _
              refine st7 _ ?_
              show Steps p.tables e below (T7.setTop (mkF m 155 #[.val (.long p1), .second, .val (.long p2), .second, .val (.long p3), .second, .val (.long p4), .second, .val (.int p5), .val (.ref b1), .val (.int (p5 &&& (3 : Int32))), .unset, .unset, .unset, .unset, .unset, .unset] [(.ref o7_0)])) _
              refine XS.astore X7.here hx rfl (hb hby at_155) rfl rfl (l' := #[.val (.long p1), .second, .val (.long p2), .second, .val (.long p3), .second, .val (.long p4), .second, .val (.int p5), .val (.ref b1), .val (.int (p5 &&& (3 : Int32))), .val (.ref o7_0), .unset, .unset, .unset, .unset, .unset]) rfl ?_
              show Steps p.tables e below (T7.setTop (mkF m 157 #[.val (.long p1), .second, .val (.long p2), .second, .val (.long p3), .second, .val (.long p4), .second, .val (.int p5), .val (.ref b1), .val (.int (p5 &&& (3 : Int32))), .val (.ref o7_0), .unset, .unset, .unset, .unset, .unset] [])) _
              refine XS.aload X7.here hx rfl (hb hby at_157) rfl rfl ?_
              show Steps p.tables e below (T7.setTop (mkF m 159 #[.val (.long p1), .second, .val (.long p2), .second, .val (.long p3), .second, .val (.long p4), .second, .val (.int p5), .val (.ref b1), .val (.int (p5 &&& (3 : Int32))), .val (.ref o7_0), .unset, .unset, .unset, .unset, .unset] [(.ref b1)])) _
              refine XS.aload X7.here hx rfl (hb hby at_159) rfl rfl ?_
              show Steps p.tables e below (T7.setTop (mkF m 161 #[.val (.long p1), .second, .val (.long p2), .second, .val (.long p3), .second, .val (.long p4), .second, .val (.int p5), .val (.ref b1), .val (.int (p5 &&& (3 : Int32))), .val (.ref o7_0), .unset, .unset, .unset, .unset, .unset] [(.ref o7_0), (.ref b1)])) _
              refine st8.trans ?_
              show Steps p.tables e below (T8.setTop (mkF m 164 #[.val (.long p1), .second, .val (.long p2), .second, .val (.long p3), .second, .val (.long p4), .second, .val (.int p5), .val (.ref b1), .val (.int (p5 &&& (3 : Int32))), .val (.ref o7_0), .unset, .unset, .unset, .unset, .unset] [(.int (0 : Int32))])) _
              refine XS.ifNo X8.here hx rfl (hb hby at_164) rfl ((if0 _ _).trans (teq (by decide : (0 : Int32) = (0 : Int32))).2) ?_
              show Steps p.tables e below (T8.setTop (mkF m 167 #[.val (.long p1), .second, .val (.long p2), .second, .val (.long p3), .second, .val (.long p4), .second, .val (.int p5), .val (.ref b1), .val (.int (p5 &&& (3 : Int32))), .val (.ref o7_0), .unset, .unset, .unset, .unset, .unset] [])) _
              refine XS.iconst X8.here hx rfl (hb hby at_167) ?_
              show Steps p.tables e below (T8.setTop (mkF m 168 #[.val (.long p1), .second, .val (.long p2), .second, .val (.long p3), .second, .val (.long p4), .second, .val (.int p5), .val (.ref b1), .val (.int (p5 &&& (3 : Int32))), .val (.ref o7_0), .unset, .unset, .unset, .unset, .unset] [(.int (1 : Int32))])) _
              refine XS.goto X8.here hx rfl (pc0 := 168) (pc' := 172) rfl (hb hby at_168) (by decide) (by decide) ?_
              show Steps p.tables e below (T8.setTop (mkF m 172 #[.val (.long p1), .second, .val (.long p2), .second, .val (.long p3), .second, .val (.long p4), .second, .val (.int p5), .val (.ref b1), .val (.int (p5 &&& (3 : Int32))), .val (.ref o7_0), .unset, .unset, .unset, .unset, .unset] [(.int (1 : Int32))])) _
              exact retN X8 hx (t := .boolean) Bd.returns (by simp) (hb hby at_172) hr
            · exact ⟨rfl, N8⟩
      · skip
        obtain ⟨cq6, kq6, q6a, q6b, q6c⟩ := isOf hZ rfl pf2_0
        obtain ⟨_, _, ⟨T6, L6, k6, n6⟩, -, X6, ⟨Lc6, hQ6, l6, y6, z6⟩, st6⟩ := X2.virtualBack hx (y := (⟨"com/example/melog/melog/model/TimestampedOffset", "equals", "(Ljava/lang/Object;)Z"⟩ : MethodName)) (z := (⟨"com/example/melog/melog/model/TimestampedOffset", "equals", "(Ljava/lang/Object;)Z"⟩ : MethodName)) hown (mvT hZ (hw _ (List.mem_of_getElem? (i := 13) rfl))) (mvT hZ (hw _ (List.mem_of_getElem? (i := 14) rfl))) (notFace_of_selects (args := #[]) (mvT hZ (hw _ (List.mem_of_getElem? (i := 16) rfl)))) (mvT hZ (hw _ (List.mem_of_getElem? (i := 16) rfl))) (mvT hZ (hw _ (List.mem_of_getElem? (i := 15) rfl))) (by decide) (backOf (W := 0) (rm3_17 l Z a0 hw [] w_cache cl_w_cache b1 p1 p2 T2.heap n0 (own_n0 O2) O2 HW pf2_0 pf2_1 pf2_2) hZ (hw _ (List.mem_of_getElem? (i := 17) rfl)) (hw _ (List.mem_of_getElem? (i := 2) rfl)) (by decide) (by decide)) q6a q6c (g := (mkF m 177 #[.val (.long p1), .second, .val (.long p2), .second, .val (.long p3), .second, .val (.long p4), .second, .val (.int p5), .val (.ref b1), .val (.int (p5 &&& (3 : Int32))), .unset, .unset, .unset, .unset, .unset, .unset] [(.ref b1), (.ref b1)])) rfl (by rw [hml]; rfl) (Steps.refl _) (argsL := [(.ref b1)]) (rest := []) (lenOf pd36 rfl) rfl (by show 2 * 0 + _ ≤ _; exact Nat.le_of_eq rfl) (hb hby at_177) (fun _ _ => ⟨rfl, rfl, (by decide : 1 + 0 ≤ _), (by decide : 2 + 0 ≤ _)⟩)
        dsimp only [Pt.U, Pt.locs, Pt.cells, Pt.slots] at X6 l6 y6 z6 st6 hQ6
        subst l6 y6 z6
        obtain ⟨rfl, N6q, e6⟩ := hQ6
        have N6 := Fr.app N2 N6q
        obtain ⟨fs, hr, hrun, hended, hW, hsame⟩ := X6.leave (v := some (.int (1 : Int32))) (fun h => by rw [Bd.returns] at h; cases h)
        refine ⟨_, _, c5 _ ?_, hrun, hended, _, _, rfl, ?_, ⟨_, rfl⟩, hW, hsame.mono (by decide) (by decide)⟩
        · show Steps p.tables e below (T2.setTop (mkF m 148 #[.val (.long p1), .second, .val (.long p2), .second, .val (.long p3), .second, .val (.long p4), .second, .val (.int p5), .val (.ref b1), .val (.int (p5 &&& (3 : Int32))), .unset, .unset, .unset, .unset, .unset, .unset] [(.int (2 : Int32)), (.int (p5 &&& (3 : Int32)))])) _
          refine XS.icmpYes X2.here hx rfl (pc0 := 148) (pc' := 173) rfl (hb hby at_148) rfl (feq hd2).2 (by decide) (by decide) ?_
          show Steps p.tables e below (T2.setTop (mkF m 173 #[.val (.long p1), .second, .val (.long p2), .second, .val (.long p3), .second, .val (.long p4), .second, .val (.int p5), .val (.ref b1), .val (.int (p5 &&& (3 : Int32))), .unset, .unset, .unset, .unset, .unset, .unset] [])) _
          refine XS.aload X2.here hx rfl (hb hby at_173) rfl rfl ?_
          show Steps p.tables e below (T2.setTop (mkF m 175 #[.val (.long p1), .second, .val (.long p2), .second, .val (.long p3), .second, .val (.long p4), .second, .val (.int p5), .val (.ref b1), .val (.int (p5 &&& (3 : Int32))), .unset, .unset, .unset, .unset, .unset, .unset] [(.ref b1)])) _
          refine XS.aload X2.here hx rfl (hb hby at_175) rfl rfl ?_
          show Steps p.tables e below (T2.setTop (mkF m 177 #[.val (.long p1), .second, .val (.long p2), .second, .val (.long p3), .second, .val (.long p4), .second, .val (.int p5), .val (.ref b1), .val (.int (p5 &&& (3 : Int32))), .unset, .unset, .unset, .unset, .unset, .unset] [(.ref b1), (.ref b1)])) _
          refine st6.trans ?_
          show Steps p.tables e below (T6.setTop (mkF m 180 #[.val (.long p1), .second, .val (.long p2), .second, .val (.long p3), .second, .val (.long p4), .second, .val (.int p5), .val (.ref b1), .val (.int (p5 &&& (3 : Int32))), .unset, .unset, .unset, .unset, .unset, .unset] [(.int (1 : Int32))])) _
          exact retN X6 hx (t := .boolean) Bd.returns (by simp) (hb hby at_180) hr
        · exact ⟨rfl, N6⟩
theorem rm0_all (l : Launch) (Z : State) (a0 : Array Value) (hw : ∀ d ∈ tables_1, d.before a0 Z = true) (ws : List Jvm.Cond) (w_cache : Addr) (cl_w_cache : Cell) (p1 : Int64) (p2 : Int64) (p3 : Int64) (p4 : Int64) (p5 : Int32) (h0 : Heap) (n0 : Nat) (Z0 : n0 ≤ h0.size) (O0 : Old Z n0 h0) (HW : World Z w_cache cl_w_cache) :
    MetFree l x (head1 (Jvm.Cond.code x code maxLocals ret :: ws) room_1) (fun a U => a = #[(.long p1), (.long p2), (.long p3), (.long p4), (.int p5)] ∧ Z.Warmed39 U.vm ∧ U.heap = h0) (fun _ _ _ _ _ => True) (fun _ U o U' => ∃ v L, o = .returned v ∧ Q0 h0 n0 v U'.heap L ∧ FrameEnd U o U' L room_1.cells room_1.slots) := by
  exact rm0_a l Z a0 hw ws w_cache cl_w_cache p1 p2 p3 p4 p5 h0 n0 Z0 O0 HW
set_option maxRecDepth 65536 in
set_option maxHeartbeats 40000000 in
theorem comes_1 {Post : Tables → Env → Array Value → State → Outcome → State → Prop} (hpost : ∀ tb e args s v u, (limb_1_1.after args s (.returned v) u = true ∧ limb_1_2.after args s (.returned v) u = true ∧ True) → FrameEnd s (.returned v) u (Jvm.fieldLocs frame_1_writes args s ++ Jvm.arrayLocs frame_1_arrays args s ++ Jvm.staticLocs frame_1_statics s) 16 128 → Post tb e args s (.returned v) u) :
    ArmFor flags0 classFile x code maxLocals ret World_1 tables_1 room_1 Calls_1 rest_1 Pre_1 Post := by
  intro l hfl _ _ p e ha hc hk s m args below hf hA hF happ hP
  obtain ⟨hcalls, hrest, hpre⟩ := hP
  obtain ⟨-, -, -, hnamed, -, -, -, hat⟩ := (Spec.applies_iff hf).mp happ
  obtain ⟨hg, hn⟩ := and_e (Cond.before_iff.mp (show (Jvm.Cond.and given_1 narrow_1).before args s = true from hpre))
  obtain ⟨hg1a, hg1b⟩ := and_e hg
  obtain ⟨hg2a, hg2b⟩ := and_e hg1b
  obtain ⟨hg3a, hg3b⟩ := and_e hg2b
  obtain ⟨hg4a, hg4b⟩ := and_e hg3b
  obtain ⟨hg5a, hg5b⟩ := and_e hg4b
  obtain ⟨w0, w1, w2, w3, w4, rfl⟩ : ∃ w0 w1 w2 w3 w4 : Value, args = #[w0, w1, w2, w3, w4] := by
    have hs : args.size = 5 := by simpa [Cond.value, given_1] using hg1a
    obtain ⟨L⟩ := args
    match L, hs with
    | [w0, w1, w2, w3, w4], _ => exact ⟨w0, w1, w2, w3, w4, rfl⟩
  have hw := fun d (hd : d ∈ tables_1) => atoms_spec (ws := Jvm.Cond.code x code maxLocals ret :: tables_1) hat d (List.mem_cons_of_mem _ hd)
  have hfit : Fit s := fun {y c} hc i hi => by
    obtain ⟨ha, rfl⟩ := Array.getElem?_eq_some_iff.mp hc
    have q := List.all_eq_true.mp ((Array.all_eq_true_iff_forall_mem.mp hF) _ (Array.getElem_mem ha)) i (List.mem_range.mpr hi)
    simpa [Array.getElem?_eq_getElem hi] using q
  obtain ⟨i0, ei0⟩ := isL_v hg2a
  obtain rfl : w0 = (.long i0) := Option.some.inj ei0
  obtain ⟨i1, ei1⟩ := isL_v hg3a
  obtain rfl : w1 = (.long i1) := Option.some.inj ei1
  obtain ⟨i2, ei2⟩ := isL_v hg4a
  obtain rfl : w2 = (.long i2) := Option.some.inj ei2
  obtain ⟨i3, ei3⟩ := isL_v hg5a
  obtain rfl : w3 = (.long i3) := Option.some.inj ei3
  obtain ⟨i4, ei4⟩ := is_v hg5b
  obtain rfl : w4 = (.int i4) := Option.some.inj ei4
  obtain ⟨hsets, hown0⟩ := atoms_of _ (rest_1_c_eq ▸ (show rest_1_c.before _ s = true from hrest))
  have hs2 := Cond.before_iff.mp (hsets _ (List.mem_of_getElem? (i := 2) rfl))
  obtain ⟨w_cache, ev_w_cache⟩ := arr_v hs2
  have S_w_cache := Sta.start ev_w_cache (Or.inl (hsets _ (List.mem_of_getElem? (i := 1) rfl)))
  obtain ⟨cl_w_cache, Ar_w_cache⟩ := Arr.start ev_w_cache hs2
  have hs4 := Cond.before_iff.mp (hsets _ (List.mem_of_getElem? (i := 4) rfl))
  have Sz_w_cache := own_len (n := (256 : Int32)) hs4 ev_w_cache Ar_w_cache
  have AL_w_cache : ∀ j : Int32, (¬ j < 0 ∧ j < 256) → ∃ b : Addr, ¬ (j < 0 ∨ cl_w_cache.slots.size ≤ j.toNatClampNeg) ∧ cl_w_cache.slots[j.toNatClampNeg]? = some (.ref b) ∧ Exa s s.heap b "java/lang/Long" := fun j hj => by
    obtain ⟨b, q1, q2, q3, -⟩ := own_allE (Cond.before_iff.mp (hsets _ (List.mem_of_getElem? (i := 5) rfl))) ev_w_cache Ar_w_cache (own_small hs4 ev_w_cache Ar_w_cache) Sz_w_cache j hj
    exact ⟨b, q1, q2, q3⟩
  have HW : World s w_cache cl_w_cache := ⟨S_w_cache, Ar_w_cache, Sz_w_cache, AL_w_cache, trivial⟩
  obtain ⟨n, o, h1, h2, h3, _, L, rfl, ⟨rfl, N⟩, hq⟩ := rm0_all l s _ hw tables_1 w_cache cl_w_cache i0 i1 i2 i3 i4 s.heap s.heap.size (Nat.le_refl _) (Old.start s) HW p e ha hc hk s m _ below hf ((Spec.applies_iff_loose hf).mp happ).1 ⟨rfl, State.Warmed39.refl s, rfl⟩ trivial
  exact ⟨n, _, h1, h2, h3, hpost _ _ _ _ _ _ ⟨Cond.after_iff.mpr rfl, Cond.after_iff.mpr (eq_i res_at (Term.int_eval (1)) rfl), trivial⟩ ⟨hq.1, hq.2.1, (hq.2.2.sift fun y hy => Or.inr (N y hy)).mono (by decide) (by decide)⟩⟩
theorem main_1_1 : Claimed_1_1 := comes_1 fun _ _ _ _ _ _ h hF => ⟨h.1, hF⟩
theorem main_1_2 : Claimed_1_2 := comes_1 fun _ _ _ _ _ _ h hF => ⟨h.2.1, hF⟩
end Jvm.Pilot.@@N@@
namespace Jvm.Pilot.@@N@@
open Jvm Jvm.ClassFile Sem Op Lib Jvm.Free Jvm.Stand Jvm.Pilot.@@N@@.Jvm.D
/-! MADE BY PROGRAM (witnessworld.py) out of the Statement's table words and the real class files: 16 classes; the members and pool entries that the words name. The judged class is class 1, her method 1. -/
namespace start1
open Jvm.ClassFile
def u (s : String) : CpInfo := .utf8 (stringToUtf16 s)
/-- a pool by its gaps: so many unusable entries, then the entry; so many at the end -/
def gap : Nat → List CpInfo → List CpInfo
  | 0, r => r
  | n + 1, r => .unusable :: gap n r
def poolList (es : List (Nat × CpInfo)) (last : Nat) : List CpInfo := es.foldr (fun e r => gap e.1 (e.2 :: r)) (gap last [])
def pool (es : List (Nat × CpInfo)) (last : Nat) : Array CpInfo := ⟨poolList es last⟩
def fileOf (pool : Array CpInfo) (this : Nat) (attrs : Array Attribute := #[]) (ms : Array MethodInfo := #[]) (fl : Nat := 33) (sup : Nat := 0) (ifs : Array Nat := #[]) (fds : Array FieldInfo := #[]) : ClassFile where
  minorVersion := 0
  majorVersion := 65
  constantPool := pool
  accessFlags := fl
  thisClass := this
  superClass := sup
  interfaces := ifs
  fields := fds
  methods := ms
  attributes := attrs
def plain (name : String) (sup : Option ClassId) : Class where
  name := name
  kind := .ordinary
  loader := none
  accessFlags := 33
  super := sup
  interfaces := #[]
  cf := none
  fields := #[]
  methods := #[]
  instanceTypes := #[]
  staticTypes := #[]
  resolved := #[]
  callSites := []
  init := .initialized
  statics := none
  mirror := none

def pool0 : Array CpInfo := pool [(5, u "<init>"), (0, u "()V"), (1, .class_ 10), (1, u "java/lang/Object")] 113

def k0c0 : Code := { maxStack := 0, maxLocals := 1, code := object_method_1_code, exceptionTable := #[], attributes := #[] }
def k0m0 : Method := { name := "<init>", desc := "()V", sig := { parameters := [], returnType := none }, accessFlags := 1, code := some k0c0 }
/-- java/lang/Object -/
def k0 : Class := { plain "java/lang/Object" none with
  accessFlags := 33
  interfaces := #[]
  cf := some (fileOf pool0 8 #[] #[{ accessFlags := 1, nameIndex := 5, descriptorIndex := 6, attributes := #[] }] 33 0 #[] #[])
  fields := #[]
  methods := #[k0m0]
  instanceTypes := #[]
  staticTypes := #[]
  resolved := Array.replicate 124 none
  statics := none }

def pool1 : Array CpInfo := pool [(2, .class_ 4), (1, u "java/lang/Object"), (0, u "<init>"), (0, u "()V"), (0, .class_ 8), (0, u "com/example/melog/melog/model/TimestampedOffset"), (0, .methodref 7 10), (0, .nameAndType 5 11), (0, u "(JJ)V"), (0, .methodref 7 13), (0, .nameAndType 14 15), (0, u "equals"), (0, u "(Ljava/lang/Object;)Z"), (0, .methodref 17 18), (0, .class_ 19), (0, .nameAndType 20 21), (0, u "java/lang/Long"), (0, u "valueOf"), (0, u "(J)Ljava/lang/Long;"), (0, .class_ 23), (0, u "com/example/melog/melog/model/TimestampedOffsetEqualsPinLaw"), (2, u "law"), (0, u "(JJJJI)Z")] 3

def k1m0 : Method := { name := "<init>", desc := "()V", sig := { parameters := [], returnType := none }, accessFlags := 1, code := none }
def k1c1 : Code := { maxStack := 6, maxLocals := 17, code := code, exceptionTable := #[], attributes := #[] }
def k1m1 : Method := { name := "law", desc := "(JJJJI)Z", sig := { parameters := [.long, .long, .long, .long, .int], returnType := some .boolean }, accessFlags := 9, code := some k1c1 }
/-- com/example/melog/melog/model/TimestampedOffsetEqualsPinLaw -/
def k1 : Class := { plain "com/example/melog/melog/model/TimestampedOffsetEqualsPinLaw" (some 0) with
  accessFlags := 49
  interfaces := #[]
  cf := some (fileOf pool1 22 #[] #[{ accessFlags := 1, nameIndex := 5, descriptorIndex := 6, attributes := #[] }, { accessFlags := 9, nameIndex := 26, descriptorIndex := 27, attributes := #[] }] 49 2 #[] #[])
  fields := #[]
  methods := #[k1m0, k1m1]
  instanceTypes := #[]
  staticTypes := #[]
  resolved := Array.replicate 31 none
  statics := none }

def pool2 : Array CpInfo := pool [(1, .methodref 2 3), (0, .class_ 4), (0, .nameAndType 5 6), (0, u "java/lang/Object"), (0, u "<init>"), (0, u "()V"), (0, .fieldref 8 9), (0, .class_ 10), (0, .nameAndType 11 12), (0, u "com/example/melog/melog/model/TimestampedOffset"), (0, u "offset"), (0, u "J"), (0, .fieldref 8 14), (0, .nameAndType 15 12), (0, u "timestamp"), (10, u "(JJ)V"), (3, u "equals"), (0, u "(Ljava/lang/Object;)Z")] 21

def k2c0 : Code := { maxStack := 3, maxLocals := 5, code := prog_7_method_1_code, exceptionTable := #[], attributes := #[] }
def k2m0 : Method := { name := "<init>", desc := "(JJ)V", sig := { parameters := [.long, .long], returnType := none }, accessFlags := 1, code := some k2c0 }
def k2c1 : Code := { maxStack := 4, maxLocals := 3, code := prog_7_method_4_code, exceptionTable := #[], attributes := #[] }
def k2m1 : Method := { name := "equals", desc := "(Ljava/lang/Object;)Z", sig := { parameters := [(.object "java/lang/Object")], returnType := some .boolean }, accessFlags := 1, code := some k2c1 }
/-- com/example/melog/melog/model/TimestampedOffset -/
def k2 : Class := { plain "com/example/melog/melog/model/TimestampedOffset" (some 0) with
  accessFlags := 49
  interfaces := #[]
  cf := some (fileOf pool2 8 #[] #[{ accessFlags := 1, nameIndex := 5, descriptorIndex := 26, attributes := #[] }, { accessFlags := 1, nameIndex := 30, descriptorIndex := 31, attributes := #[] }] 49 2 #[] #[{ accessFlags := 18, nameIndex := 11, descriptorIndex := 12, attributes := #[] }, { accessFlags := 18, nameIndex := 15, descriptorIndex := 12, attributes := #[] }])
  fields := #[{ name := "offset", type := .long, accessFlags := 18, slot := 0, constantValue := 0 }, { name := "timestamp", type := .long, accessFlags := 18, slot := 1, constantValue := 0 }]
  methods := #[k2m0, k2m1]
  instanceTypes := #[.long, .long]
  staticTypes := #[]
  resolved := Array.replicate 53 none
  statics := none }

def pool3 : Array CpInfo := pool [(1, .class_ 2), (0, u "java/io/Serializable"), (0, .class_ 4), (0, u "java/lang/Object")] 2

/-- java/io/Serializable -/
def k3 : Class := { plain "java/io/Serializable" (some 0) with
  accessFlags := 1537
  interfaces := #[]
  cf := some (fileOf pool3 1 #[] #[] 1537 3 #[] #[])
  fields := #[]
  methods := #[]
  instanceTypes := #[]
  staticTypes := #[]
  resolved := Array.replicate 7 none
  statics := none }

def pool4 : Array CpInfo := pool [(1, .methodref 2 3), (0, .class_ 4), (0, .nameAndType 5 6), (0, u "java/lang/Object"), (0, u "<init>"), (0, u "()V"), (1, .class_ 10), (1, u "java/lang/Number"), (2, .class_ 14), (0, u "java/io/Serializable"), (0, u "serialVersionUID"), (0, u "J")] 20

def k4c0 : Code := { maxStack := 1, maxLocals := 1, code := jdk_18_method_1_code, exceptionTable := #[], attributes := #[] }
def k4m0 : Method := { name := "<init>", desc := "()V", sig := { parameters := [], returnType := none }, accessFlags := 1, code := some k4c0 }
/-- java/lang/Number -/
def k4 : Class := { plain "java/lang/Number" (some 0) with
  accessFlags := 1057
  interfaces := #[3]
  cf := some (fileOf pool4 8 #[] #[{ accessFlags := 1, nameIndex := 5, descriptorIndex := 6, attributes := #[] }] 1057 2 #[13] #[{ accessFlags := 26, nameIndex := 15, descriptorIndex := 16, attributes := #[] }])
  fields := #[{ name := "serialVersionUID", type := .long, accessFlags := 26, slot := 0, constantValue := 0 }]
  methods := #[k4m0]
  instanceTypes := #[]
  staticTypes := #[.long]
  resolved := Array.replicate 37 none
  statics := none }

def pool5 : Array CpInfo := pool [(1, .class_ 2), (0, u "java/lang/Comparable"), (0, .class_ 4), (0, u "java/lang/Object")] 7

/-- java/lang/Comparable -/
def k5 : Class := { plain "java/lang/Comparable" (some 0) with
  accessFlags := 1537
  interfaces := #[]
  cf := some (fileOf pool5 1 #[] #[] 1537 3 #[] #[])
  fields := #[]
  methods := #[]
  instanceTypes := #[]
  staticTypes := #[]
  resolved := Array.replicate 12 none
  statics := none }

def pool6 : Array CpInfo := pool [(1, .class_ 2), (0, u "java/lang/constant/Constable"), (0, .class_ 4), (0, u "java/lang/Object")] 6

/-- java/lang/constant/Constable -/
def k6 : Class := { plain "java/lang/constant/Constable" (some 0) with
  accessFlags := 1537
  interfaces := #[]
  cf := some (fileOf pool6 1 #[] #[] 1537 3 #[] #[])
  fields := #[]
  methods := #[]
  instanceTypes := #[]
  staticTypes := #[]
  resolved := Array.replicate 11 none
  statics := none }

def pool7 : Array CpInfo := pool [(1, .class_ 2), (0, u "java/lang/constant/ConstantDesc"), (0, .class_ 4), (0, u "java/lang/Object")] 32

/-- java/lang/constant/ConstantDesc -/
def k7 : Class := { plain "java/lang/constant/ConstantDesc" (some 0) with
  accessFlags := 1537
  interfaces := #[]
  cf := some (fileOf pool7 1 #[] #[] 1537 3 #[] #[])
  fields := #[]
  methods := #[]
  instanceTypes := #[]
  staticTypes := #[]
  resolved := Array.replicate 37 none
  statics := none }

def pool8 : Array CpInfo := pool [(1, .class_ 2), (0, u "java/lang/Long"), (55, .nameAndType 59 60), (0, u "<init>"), (0, u "()V"), (24, u "valueOf"), (143, u "(J)Ljava/lang/Long;"), (0, .long 18446744073709551488), (1, .long 127), (1, .fieldref 235 236), (0, .class_ 237), (0, .nameAndType 238 239), (0, u "java/lang/Long$LongCache"), (0, u "cache"), (0, u "[Ljava/lang/Long;"), (0, .methodref 1 241), (0, .nameAndType 59 242), (0, u "(J)V"), (27, .methodref 271 58), (0, .class_ 272), (0, u "java/lang/Number"), (0, .fieldref 1 274), (0, .nameAndType 275 276), (0, u "value"), (0, u "J"), (84, u "TYPE"), (0, u "Ljava/lang/Class;"), (0, .class_ 364), (0, u "java/lang/Comparable"), (0, .class_ 366), (0, u "java/lang/constant/Constable"), (0, .class_ 368), (0, u "java/lang/constant/ConstantDesc"), (0, u "MIN_VALUE"), (1, u "MAX_VALUE"), (4, u "SIZE"), (0, u "I"), (1, u "BYTES"), (1, u "serialVersionUID")] 142

def k8c0 : Code := { maxStack := 4, maxLocals := 3, code := jdk_35_method_24_code, exceptionTable := #[], attributes := #[] }
def k8m0 : Method := { name := "valueOf", desc := "(J)Ljava/lang/Long;", sig := { parameters := [.long], returnType := some (.object "java/lang/Long") }, accessFlags := 9, code := some k8c0 }
def k8c1 : Code := { maxStack := 3, maxLocals := 3, code := jdk_35_method_26_code, exceptionTable := #[], attributes := #[] }
def k8m1 : Method := { name := "<init>", desc := "(J)V", sig := { parameters := [.long], returnType := none }, accessFlags := 1, code := some k8c1 }
/-- java/lang/Long -/
def k8 : Class := { plain "java/lang/Long" (some 4) with
  accessFlags := 49
  interfaces := #[5, 6, 7]
  cf := some (fileOf pool8 1 #[.nestMembers #[235]] #[{ accessFlags := 9, nameIndex := 85, descriptorIndex := 229, attributes := #[] }, { accessFlags := 1, nameIndex := 59, descriptorIndex := 242, attributes := #[] }] 49 271 #[363, 365, 367] #[{ accessFlags := 25, nameIndex := 369, descriptorIndex := 276, attributes := #[] }, { accessFlags := 25, nameIndex := 371, descriptorIndex := 276, attributes := #[] }, { accessFlags := 25, nameIndex := 361, descriptorIndex := 362, attributes := #[] }, { accessFlags := 18, nameIndex := 275, descriptorIndex := 276, attributes := #[] }, { accessFlags := 25, nameIndex := 376, descriptorIndex := 377, attributes := #[] }, { accessFlags := 25, nameIndex := 379, descriptorIndex := 377, attributes := #[] }, { accessFlags := 26, nameIndex := 381, descriptorIndex := 276, attributes := #[] }])
  fields := #[{ name := "MIN_VALUE", type := .long, accessFlags := 25, slot := 0, constantValue := 0 }, { name := "MAX_VALUE", type := .long, accessFlags := 25, slot := 1, constantValue := 0 }, { name := "TYPE", type := (.object "java/lang/Class"), accessFlags := 25, slot := 2, constantValue := 0 }, { name := "value", type := .long, accessFlags := 18, slot := 0, constantValue := 0 }, { name := "SIZE", type := .int, accessFlags := 25, slot := 3, constantValue := 0 }, { name := "BYTES", type := .int, accessFlags := 25, slot := 4, constantValue := 0 }, { name := "serialVersionUID", type := .long, accessFlags := 26, slot := 5, constantValue := 0 }]
  methods := #[k8m0, k8m1]
  instanceTypes := #[.long]
  staticTypes := #[.long, .long, (.object "java/lang/Class"), .int, .int, .long]
  resolved := Array.replicate 524 none
  statics := none }

def pool9 : Array CpInfo := pool [(2, .class_ 4), (1, u "java/lang/Object"), (0, u "<init>"), (0, u "()V"), (0, .class_ 8), (0, u "java/lang/Long"), (7, .class_ 18), (1, u "java/lang/Long$LongCache"), (0, u "$assertionsDisabled"), (0, u "Z"), (8, u "archivedCache"), (0, u "[Ljava/lang/Long;"), (7, u "cache")] 24

def k9m0 : Method := { name := "<init>", desc := "()V", sig := { parameters := [], returnType := none }, accessFlags := 2, code := none }
/-- java/lang/Long$LongCache -/
def k9 : Class := { plain "java/lang/Long$LongCache" (some 0) with
  accessFlags := 48
  interfaces := #[]
  cf := some (fileOf pool9 16 #[.nestHost 7] #[{ accessFlags := 2, nameIndex := 5, descriptorIndex := 6, attributes := #[] }] 48 2 #[] #[{ accessFlags := 24, nameIndex := 38, descriptorIndex := 30, attributes := #[] }, { accessFlags := 8, nameIndex := 29, descriptorIndex := 30, attributes := #[] }, { accessFlags := 4120, nameIndex := 19, descriptorIndex := 20, attributes := #[] }])
  fields := #[{ name := "cache", type := (.array (.object "java/lang/Long")), accessFlags := 24, slot := 0, constantValue := 0 }, { name := "archivedCache", type := (.array (.object "java/lang/Long")), accessFlags := 8, slot := 1, constantValue := 0 }, { name := "$assertionsDisabled", type := .boolean, accessFlags := 4120, slot := 2, constantValue := 0 }]
  methods := #[k9m0]
  instanceTypes := #[]
  staticTypes := #[(.array (.object "java/lang/Long")), (.array (.object "java/lang/Long")), .boolean]
  resolved := Array.replicate 63 none
  statics := some 0 }

def pool10 : Array CpInfo := pool [(1, u "java/lang/Cloneable"), (0, .class_ 1), (0, u "java/lang/Object"), (0, .class_ 3)] 3

/-- java/lang/Cloneable -/
def k10 : Class := { plain "java/lang/Cloneable" (some 0) with
  accessFlags := 1537
  interfaces := #[]
  cf := some (fileOf pool10 2 #[] #[] 1537 4 #[] #[])
  fields := #[]
  methods := #[]
  instanceTypes := #[]
  staticTypes := #[]
  resolved := Array.replicate 8 none
  statics := none }

/-- the primitive byte -/
def k11 : Class := { plain "byte" none with kind := .primitive 'B', accessFlags := 0x411 }
/-- [B -/
def k12 : Class := { plain "[B" (some 0) with kind := .array 11 .byte, interfaces := #[10, 3], accessFlags := 1041 }

/-- the primitive int -/
def k13 : Class := { plain "int" none with kind := .primitive 'I', accessFlags := 0x411 }
/-- [I -/
def k14 : Class := { plain "[I" (some 0) with kind := .array 13 .int, interfaces := #[10, 3], accessFlags := 1041 }

/-- [Ljava/lang/Long; -/
def k15 : Class := { plain "[Ljava/lang/Long;" (some 0) with kind := .array 8 (.object "java/lang/Long"), interfaces := #[10, 3], accessFlags := 1041 }

def heap : Heap := #[{ cls := 9, slots := #[.ref 1, .null, .int 0], vm := .statics 9 },
  { cls := 15, slots := #[.ref 2, .ref 3, .ref 4, .ref 5, .ref 6, .ref 7, .ref 8, .ref 9, .ref 10, .ref 11, .ref 12, .ref 13, .ref 14, .ref 15, .ref 16, .ref 17, .ref 18, .ref 19, .ref 20, .ref 21, .ref 22, .ref 23, .ref 24, .ref 25, .ref 26, .ref 27, .ref 28, .ref 29, .ref 30, .ref 31, .ref 32, .ref 33, .ref 34, .ref 35, .ref 36, .ref 37, .ref 38, .ref 39, .ref 40, .ref 41, .ref 42, .ref 43, .ref 44, .ref 45, .ref 46, .ref 47, .ref 48, .ref 49, .ref 50, .ref 51, .ref 52, .ref 53, .ref 54, .ref 55, .ref 56, .ref 57, .ref 58, .ref 59, .ref 60, .ref 61, .ref 62, .ref 63, .ref 64, .ref 65, .ref 66, .ref 67, .ref 68, .ref 69, .ref 70, .ref 71, .ref 72, .ref 73, .ref 74, .ref 75, .ref 76, .ref 77, .ref 78, .ref 79, .ref 80, .ref 81, .ref 82, .ref 83, .ref 84, .ref 85, .ref 86, .ref 87, .ref 88, .ref 89, .ref 90, .ref 91, .ref 92, .ref 93, .ref 94, .ref 95, .ref 96, .ref 97, .ref 98, .ref 99, .ref 100, .ref 101, .ref 102, .ref 103, .ref 104, .ref 105, .ref 106, .ref 107, .ref 108, .ref 109, .ref 110, .ref 111, .ref 112, .ref 113, .ref 114, .ref 115, .ref 116, .ref 117, .ref 118, .ref 119, .ref 120, .ref 121, .ref 122, .ref 123, .ref 124, .ref 125, .ref 126, .ref 127, .ref 128, .ref 129, .ref 130, .ref 131, .ref 132, .ref 133, .ref 134, .ref 135, .ref 136, .ref 137, .ref 138, .ref 139, .ref 140, .ref 141, .ref 142, .ref 143, .ref 144, .ref 145, .ref 146, .ref 147, .ref 148, .ref 149, .ref 150, .ref 151, .ref 152, .ref 153, .ref 154, .ref 155, .ref 156, .ref 157, .ref 158, .ref 159, .ref 160, .ref 161, .ref 162, .ref 163, .ref 164, .ref 165, .ref 166, .ref 167, .ref 168, .ref 169, .ref 170, .ref 171, .ref 172, .ref 173, .ref 174, .ref 175, .ref 176, .ref 177, .ref 178, .ref 179, .ref 180, .ref 181, .ref 182, .ref 183, .ref 184, .ref 185, .ref 186, .ref 187, .ref 188, .ref 189, .ref 190, .ref 191, .ref 192, .ref 193, .ref 194, .ref 195, .ref 196, .ref 197, .ref 198, .ref 199, .ref 200, .ref 201, .ref 202, .ref 203, .ref 204, .ref 205, .ref 206, .ref 207, .ref 208, .ref 209, .ref 210, .ref 211, .ref 212, .ref 213, .ref 214, .ref 215, .ref 216, .ref 217, .ref 218, .ref 219, .ref 220, .ref 221, .ref 222, .ref 223, .ref 224, .ref 225, .ref 226, .ref 227, .ref 228, .ref 229, .ref 230, .ref 231, .ref 232, .ref 233, .ref 234, .ref 235, .ref 236, .ref 237, .ref 238, .ref 239, .ref 240, .ref 241, .ref 242, .ref 243, .ref 244, .ref 245, .ref 246, .ref 247, .ref 248, .ref 249, .ref 250, .ref 251, .ref 252, .ref 253, .ref 254, .ref 255, .ref 256, .ref 257], vm := .none },
  { cls := 8, slots := #[.long (-128)], vm := .none },
  { cls := 8, slots := #[.long (-127)], vm := .none },
  { cls := 8, slots := #[.long (-126)], vm := .none },
  { cls := 8, slots := #[.long (-125)], vm := .none },
  { cls := 8, slots := #[.long (-124)], vm := .none },
  { cls := 8, slots := #[.long (-123)], vm := .none },
  { cls := 8, slots := #[.long (-122)], vm := .none },
  { cls := 8, slots := #[.long (-121)], vm := .none },
  { cls := 8, slots := #[.long (-120)], vm := .none },
  { cls := 8, slots := #[.long (-119)], vm := .none },
  { cls := 8, slots := #[.long (-118)], vm := .none },
  { cls := 8, slots := #[.long (-117)], vm := .none },
  { cls := 8, slots := #[.long (-116)], vm := .none },
  { cls := 8, slots := #[.long (-115)], vm := .none },
  { cls := 8, slots := #[.long (-114)], vm := .none },
  { cls := 8, slots := #[.long (-113)], vm := .none },
  { cls := 8, slots := #[.long (-112)], vm := .none },
  { cls := 8, slots := #[.long (-111)], vm := .none },
  { cls := 8, slots := #[.long (-110)], vm := .none },
  { cls := 8, slots := #[.long (-109)], vm := .none },
  { cls := 8, slots := #[.long (-108)], vm := .none },
  { cls := 8, slots := #[.long (-107)], vm := .none },
  { cls := 8, slots := #[.long (-106)], vm := .none },
  { cls := 8, slots := #[.long (-105)], vm := .none },
  { cls := 8, slots := #[.long (-104)], vm := .none },
  { cls := 8, slots := #[.long (-103)], vm := .none },
  { cls := 8, slots := #[.long (-102)], vm := .none },
  { cls := 8, slots := #[.long (-101)], vm := .none },
  { cls := 8, slots := #[.long (-100)], vm := .none },
  { cls := 8, slots := #[.long (-99)], vm := .none },
  { cls := 8, slots := #[.long (-98)], vm := .none },
  { cls := 8, slots := #[.long (-97)], vm := .none },
  { cls := 8, slots := #[.long (-96)], vm := .none },
  { cls := 8, slots := #[.long (-95)], vm := .none },
  { cls := 8, slots := #[.long (-94)], vm := .none },
  { cls := 8, slots := #[.long (-93)], vm := .none },
  { cls := 8, slots := #[.long (-92)], vm := .none },
  { cls := 8, slots := #[.long (-91)], vm := .none },
  { cls := 8, slots := #[.long (-90)], vm := .none },
  { cls := 8, slots := #[.long (-89)], vm := .none },
  { cls := 8, slots := #[.long (-88)], vm := .none },
  { cls := 8, slots := #[.long (-87)], vm := .none },
  { cls := 8, slots := #[.long (-86)], vm := .none },
  { cls := 8, slots := #[.long (-85)], vm := .none },
  { cls := 8, slots := #[.long (-84)], vm := .none },
  { cls := 8, slots := #[.long (-83)], vm := .none },
  { cls := 8, slots := #[.long (-82)], vm := .none },
  { cls := 8, slots := #[.long (-81)], vm := .none },
  { cls := 8, slots := #[.long (-80)], vm := .none },
  { cls := 8, slots := #[.long (-79)], vm := .none },
  { cls := 8, slots := #[.long (-78)], vm := .none },
  { cls := 8, slots := #[.long (-77)], vm := .none },
  { cls := 8, slots := #[.long (-76)], vm := .none },
  { cls := 8, slots := #[.long (-75)], vm := .none },
  { cls := 8, slots := #[.long (-74)], vm := .none },
  { cls := 8, slots := #[.long (-73)], vm := .none },
  { cls := 8, slots := #[.long (-72)], vm := .none },
  { cls := 8, slots := #[.long (-71)], vm := .none },
  { cls := 8, slots := #[.long (-70)], vm := .none },
  { cls := 8, slots := #[.long (-69)], vm := .none },
  { cls := 8, slots := #[.long (-68)], vm := .none },
  { cls := 8, slots := #[.long (-67)], vm := .none },
  { cls := 8, slots := #[.long (-66)], vm := .none },
  { cls := 8, slots := #[.long (-65)], vm := .none },
  { cls := 8, slots := #[.long (-64)], vm := .none },
  { cls := 8, slots := #[.long (-63)], vm := .none },
  { cls := 8, slots := #[.long (-62)], vm := .none },
  { cls := 8, slots := #[.long (-61)], vm := .none },
  { cls := 8, slots := #[.long (-60)], vm := .none },
  { cls := 8, slots := #[.long (-59)], vm := .none },
  { cls := 8, slots := #[.long (-58)], vm := .none },
  { cls := 8, slots := #[.long (-57)], vm := .none },
  { cls := 8, slots := #[.long (-56)], vm := .none },
  { cls := 8, slots := #[.long (-55)], vm := .none },
  { cls := 8, slots := #[.long (-54)], vm := .none },
  { cls := 8, slots := #[.long (-53)], vm := .none },
  { cls := 8, slots := #[.long (-52)], vm := .none },
  { cls := 8, slots := #[.long (-51)], vm := .none },
  { cls := 8, slots := #[.long (-50)], vm := .none },
  { cls := 8, slots := #[.long (-49)], vm := .none },
  { cls := 8, slots := #[.long (-48)], vm := .none },
  { cls := 8, slots := #[.long (-47)], vm := .none },
  { cls := 8, slots := #[.long (-46)], vm := .none },
  { cls := 8, slots := #[.long (-45)], vm := .none },
  { cls := 8, slots := #[.long (-44)], vm := .none },
  { cls := 8, slots := #[.long (-43)], vm := .none },
  { cls := 8, slots := #[.long (-42)], vm := .none },
  { cls := 8, slots := #[.long (-41)], vm := .none },
  { cls := 8, slots := #[.long (-40)], vm := .none },
  { cls := 8, slots := #[.long (-39)], vm := .none },
  { cls := 8, slots := #[.long (-38)], vm := .none },
  { cls := 8, slots := #[.long (-37)], vm := .none },
  { cls := 8, slots := #[.long (-36)], vm := .none },
  { cls := 8, slots := #[.long (-35)], vm := .none },
  { cls := 8, slots := #[.long (-34)], vm := .none },
  { cls := 8, slots := #[.long (-33)], vm := .none },
  { cls := 8, slots := #[.long (-32)], vm := .none },
  { cls := 8, slots := #[.long (-31)], vm := .none },
  { cls := 8, slots := #[.long (-30)], vm := .none },
  { cls := 8, slots := #[.long (-29)], vm := .none },
  { cls := 8, slots := #[.long (-28)], vm := .none },
  { cls := 8, slots := #[.long (-27)], vm := .none },
  { cls := 8, slots := #[.long (-26)], vm := .none },
  { cls := 8, slots := #[.long (-25)], vm := .none },
  { cls := 8, slots := #[.long (-24)], vm := .none },
  { cls := 8, slots := #[.long (-23)], vm := .none },
  { cls := 8, slots := #[.long (-22)], vm := .none },
  { cls := 8, slots := #[.long (-21)], vm := .none },
  { cls := 8, slots := #[.long (-20)], vm := .none },
  { cls := 8, slots := #[.long (-19)], vm := .none },
  { cls := 8, slots := #[.long (-18)], vm := .none },
  { cls := 8, slots := #[.long (-17)], vm := .none },
  { cls := 8, slots := #[.long (-16)], vm := .none },
  { cls := 8, slots := #[.long (-15)], vm := .none },
  { cls := 8, slots := #[.long (-14)], vm := .none },
  { cls := 8, slots := #[.long (-13)], vm := .none },
  { cls := 8, slots := #[.long (-12)], vm := .none },
  { cls := 8, slots := #[.long (-11)], vm := .none },
  { cls := 8, slots := #[.long (-10)], vm := .none },
  { cls := 8, slots := #[.long (-9)], vm := .none },
  { cls := 8, slots := #[.long (-8)], vm := .none },
  { cls := 8, slots := #[.long (-7)], vm := .none },
  { cls := 8, slots := #[.long (-6)], vm := .none },
  { cls := 8, slots := #[.long (-5)], vm := .none },
  { cls := 8, slots := #[.long (-4)], vm := .none },
  { cls := 8, slots := #[.long (-3)], vm := .none },
  { cls := 8, slots := #[.long (-2)], vm := .none },
  { cls := 8, slots := #[.long (-1)], vm := .none },
  { cls := 8, slots := #[.long 0], vm := .none },
  { cls := 8, slots := #[.long 1], vm := .none },
  { cls := 8, slots := #[.long 2], vm := .none },
  { cls := 8, slots := #[.long 3], vm := .none },
  { cls := 8, slots := #[.long 4], vm := .none },
  { cls := 8, slots := #[.long 5], vm := .none },
  { cls := 8, slots := #[.long 6], vm := .none },
  { cls := 8, slots := #[.long 7], vm := .none },
  { cls := 8, slots := #[.long 8], vm := .none },
  { cls := 8, slots := #[.long 9], vm := .none },
  { cls := 8, slots := #[.long 10], vm := .none },
  { cls := 8, slots := #[.long 11], vm := .none },
  { cls := 8, slots := #[.long 12], vm := .none },
  { cls := 8, slots := #[.long 13], vm := .none },
  { cls := 8, slots := #[.long 14], vm := .none },
  { cls := 8, slots := #[.long 15], vm := .none },
  { cls := 8, slots := #[.long 16], vm := .none },
  { cls := 8, slots := #[.long 17], vm := .none },
  { cls := 8, slots := #[.long 18], vm := .none },
  { cls := 8, slots := #[.long 19], vm := .none },
  { cls := 8, slots := #[.long 20], vm := .none },
  { cls := 8, slots := #[.long 21], vm := .none },
  { cls := 8, slots := #[.long 22], vm := .none },
  { cls := 8, slots := #[.long 23], vm := .none },
  { cls := 8, slots := #[.long 24], vm := .none },
  { cls := 8, slots := #[.long 25], vm := .none },
  { cls := 8, slots := #[.long 26], vm := .none },
  { cls := 8, slots := #[.long 27], vm := .none },
  { cls := 8, slots := #[.long 28], vm := .none },
  { cls := 8, slots := #[.long 29], vm := .none },
  { cls := 8, slots := #[.long 30], vm := .none },
  { cls := 8, slots := #[.long 31], vm := .none },
  { cls := 8, slots := #[.long 32], vm := .none },
  { cls := 8, slots := #[.long 33], vm := .none },
  { cls := 8, slots := #[.long 34], vm := .none },
  { cls := 8, slots := #[.long 35], vm := .none },
  { cls := 8, slots := #[.long 36], vm := .none },
  { cls := 8, slots := #[.long 37], vm := .none },
  { cls := 8, slots := #[.long 38], vm := .none },
  { cls := 8, slots := #[.long 39], vm := .none },
  { cls := 8, slots := #[.long 40], vm := .none },
  { cls := 8, slots := #[.long 41], vm := .none },
  { cls := 8, slots := #[.long 42], vm := .none },
  { cls := 8, slots := #[.long 43], vm := .none },
  { cls := 8, slots := #[.long 44], vm := .none },
  { cls := 8, slots := #[.long 45], vm := .none },
  { cls := 8, slots := #[.long 46], vm := .none },
  { cls := 8, slots := #[.long 47], vm := .none },
  { cls := 8, slots := #[.long 48], vm := .none },
  { cls := 8, slots := #[.long 49], vm := .none },
  { cls := 8, slots := #[.long 50], vm := .none },
  { cls := 8, slots := #[.long 51], vm := .none },
  { cls := 8, slots := #[.long 52], vm := .none },
  { cls := 8, slots := #[.long 53], vm := .none },
  { cls := 8, slots := #[.long 54], vm := .none },
  { cls := 8, slots := #[.long 55], vm := .none },
  { cls := 8, slots := #[.long 56], vm := .none },
  { cls := 8, slots := #[.long 57], vm := .none },
  { cls := 8, slots := #[.long 58], vm := .none },
  { cls := 8, slots := #[.long 59], vm := .none },
  { cls := 8, slots := #[.long 60], vm := .none },
  { cls := 8, slots := #[.long 61], vm := .none },
  { cls := 8, slots := #[.long 62], vm := .none },
  { cls := 8, slots := #[.long 63], vm := .none },
  { cls := 8, slots := #[.long 64], vm := .none },
  { cls := 8, slots := #[.long 65], vm := .none },
  { cls := 8, slots := #[.long 66], vm := .none },
  { cls := 8, slots := #[.long 67], vm := .none },
  { cls := 8, slots := #[.long 68], vm := .none },
  { cls := 8, slots := #[.long 69], vm := .none },
  { cls := 8, slots := #[.long 70], vm := .none },
  { cls := 8, slots := #[.long 71], vm := .none },
  { cls := 8, slots := #[.long 72], vm := .none },
  { cls := 8, slots := #[.long 73], vm := .none },
  { cls := 8, slots := #[.long 74], vm := .none },
  { cls := 8, slots := #[.long 75], vm := .none },
  { cls := 8, slots := #[.long 76], vm := .none },
  { cls := 8, slots := #[.long 77], vm := .none },
  { cls := 8, slots := #[.long 78], vm := .none },
  { cls := 8, slots := #[.long 79], vm := .none },
  { cls := 8, slots := #[.long 80], vm := .none },
  { cls := 8, slots := #[.long 81], vm := .none },
  { cls := 8, slots := #[.long 82], vm := .none },
  { cls := 8, slots := #[.long 83], vm := .none },
  { cls := 8, slots := #[.long 84], vm := .none },
  { cls := 8, slots := #[.long 85], vm := .none },
  { cls := 8, slots := #[.long 86], vm := .none },
  { cls := 8, slots := #[.long 87], vm := .none },
  { cls := 8, slots := #[.long 88], vm := .none },
  { cls := 8, slots := #[.long 89], vm := .none },
  { cls := 8, slots := #[.long 90], vm := .none },
  { cls := 8, slots := #[.long 91], vm := .none },
  { cls := 8, slots := #[.long 92], vm := .none },
  { cls := 8, slots := #[.long 93], vm := .none },
  { cls := 8, slots := #[.long 94], vm := .none },
  { cls := 8, slots := #[.long 95], vm := .none },
  { cls := 8, slots := #[.long 96], vm := .none },
  { cls := 8, slots := #[.long 97], vm := .none },
  { cls := 8, slots := #[.long 98], vm := .none },
  { cls := 8, slots := #[.long 99], vm := .none },
  { cls := 8, slots := #[.long 100], vm := .none },
  { cls := 8, slots := #[.long 101], vm := .none },
  { cls := 8, slots := #[.long 102], vm := .none },
  { cls := 8, slots := #[.long 103], vm := .none },
  { cls := 8, slots := #[.long 104], vm := .none },
  { cls := 8, slots := #[.long 105], vm := .none },
  { cls := 8, slots := #[.long 106], vm := .none },
  { cls := 8, slots := #[.long 107], vm := .none },
  { cls := 8, slots := #[.long 108], vm := .none },
  { cls := 8, slots := #[.long 109], vm := .none },
  { cls := 8, slots := #[.long 110], vm := .none },
  { cls := 8, slots := #[.long 111], vm := .none },
  { cls := 8, slots := #[.long 112], vm := .none },
  { cls := 8, slots := #[.long 113], vm := .none },
  { cls := 8, slots := #[.long 114], vm := .none },
  { cls := 8, slots := #[.long 115], vm := .none },
  { cls := 8, slots := #[.long 116], vm := .none },
  { cls := 8, slots := #[.long 117], vm := .none },
  { cls := 8, slots := #[.long 118], vm := .none },
  { cls := 8, slots := #[.long 119], vm := .none },
  { cls := 8, slots := #[.long 120], vm := .none },
  { cls := 8, slots := #[.long 121], vm := .none },
  { cls := 8, slots := #[.long 122], vm := .none },
  { cls := 8, slots := #[.long 123], vm := .none },
  { cls := 8, slots := #[.long 124], vm := .none },
  { cls := 8, slots := #[.long 125], vm := .none },
  { cls := 8, slots := #[.long 126], vm := .none },
  { cls := 8, slots := #[.long 127], vm := .none }]
def classes : Array Class := #[k0, k1, k2, k3, k4, k5, k6, k7, k8, k9, k10, k11, k12, k13, k14, k15]
def interned : List (Array UInt16 × Addr) := []
def slotsUsed : Nat := 515
def theMethod : MethodId := ⟨1, 1⟩
def args0 : Array Value := #[.long 5, .long 3, .long 7, .long 9, .int 2]
def aboutOver (below : List Frame) : State where
  vm := { classes := classes, interned := interned.toArray }
  heap := heap
  slotsUsed := slotsUsed
  threads := #[{ frames := .invoking theMethod args0 :: below }]
def below0 : List Frame := [.native { method := ⟨0, 0⟩, args := #[] }]
def about1 : State := aboutOver below0
def p0 : Program := .bare "" "" ""
def e0 : Env := launch0.env 0 0 0
theorem w_frames : about1.frames = Frame.invoking theMethod args0 :: below0 := rfl
set_option maxRecDepth 65536 in
theorem w_args : argsFit about1.vm theMethod args0 = true := by decide +kernel
set_option maxRecDepth 65536 in
theorem w_heap : heapFits about1 = true := by decide +kernel
set_option maxRecDepth 65536 in
theorem w_runnable : about1.curStatus? = some .runnable := by decide +kernel
set_option maxRecDepth 65536 in
theorem w_alone : about1.alone = true := by decide +kernel
set_option maxRecDepth 65536 in
theorem w_named : about1.methodNamed? x = some theMethod := by decide +kernel
set_option maxRecDepth 65536 in
theorem w_hears : about1.hears theMethod below0 = true := by decide +kernel
set_option maxRecDepth 65536 in
theorem w_ripe : about1.ripe theMethod args0 below0 = true := by decide +kernel
theorem w_running : about1.status = .running := rfl
set_option maxRecDepth 65536 in
theorem w_room : about1.hasRoom e0.platform room_1 = true :=
  launch0.hasRoom_least _ room_1 (by decide +kernel) (by decide +kernel) (by decide +kernel) (by decide +kernel) (by decide +kernel) (by decide +kernel)
theorem allAtoms_all (ts : List Jvm.Cond) (a : Array Jvm.Value) (st : Jvm.State) : (allAtoms ts).before a st = ts.all (fun c => c.before a st) := by
  induction ts with
  | nil => rfl
  | cons c t ih =>
    show (Jvm.Cond.and c (allAtoms t)).before a st = _
    rw [Jvm.Cond.before_and, ih, List.all_cons]
def words1 : List Jvm.Cond := Jvm.Cond.code x code maxLocals ret :: tables_1
/-- a 'code' word, met by the world's own term for the bytes: nothing is compared byte by byte -/
theorem code_word {y : MethodName} {bytes : ByteArray} {mx : Nat} {rt : Option FieldType} {a : Array Value} {s : State} {m : MethodId} {meth : Method} {c : Code} (h1 : s.methodNamed? y = some m) (h2 : s.vm.method? m = some meth) (h3 : meth.code = some c) (h4 : c.code = bytes)
    (h5 : (c.maxLocals == mx && c.exceptionTable.isEmpty && decide (c.maxStack ≤ mostOperands) && decide (meth.sig.returnType = rt) && !meth.locks && decide (parseMethodDescriptor y.desc = some meth.sig)) = true) : (Jvm.Cond.code y bytes mx rt).before a s = true := by
  simp only [Bool.and_eq_true, beq_iff_eq, Bool.not_eq_true', decide_eq_true_eq] at h5
  obtain ⟨⟨⟨⟨⟨g1, g2⟩, g3⟩, g4⟩, g5⟩, g6⟩ := h5
  simp [Cond.before, Cond.holds, Cond.value, h1, h2, h3, h4, g1, g2, g3, g4, g5, g6]
def isCode : Jvm.Cond → Bool
  | .code _ _ _ _ => true
  | _ => false
theorem all_split {L : List Jvm.Cond} {P : Jvm.Cond → Bool} (h1 : L.all (fun c => isCode c || P c) = true) (h2 : ∀ c ∈ L.filter isCode, P c = true) : L.all P = true := by
  refine List.all_eq_true.mpr fun c hc => ?_
  have h := List.all_eq_true.mp h1 c hc
  rcases Bool.eq_false_or_eq_true (isCode c) with hi | hi
  · exact h2 c (List.mem_filter.mpr ⟨hc, hi⟩)
  · simpa [hi] using h
set_option maxRecDepth 65536 in
theorem w_c0 : (Jvm.Cond.code x code maxLocals ret).before args0 about1 = true := code_word (m := ⟨1, 1⟩) (meth := k1m1) (c := k1c1) (by decide +kernel) rfl rfl rfl (by decide +kernel)
set_option maxRecDepth 65536 in
theorem w_c1 : (Jvm.Cond.code ({ cls := "com/example/melog/melog/model/TimestampedOffset", name := "<init>", desc := "(JJ)V" } : Jvm.MethodName) prog_7_method_1_code (5 : Nat) (Option.none : Option Jvm.ClassFile.FieldType)).before args0 about1 = true := code_word (m := ⟨2, 0⟩) (meth := k2m0) (c := k2c0) (by decide +kernel) rfl rfl rfl (by decide +kernel)
set_option maxRecDepth 65536 in
theorem w_c2 : (Jvm.Cond.code ({ cls := "java/lang/Object", name := "<init>", desc := "()V" } : Jvm.MethodName) object_method_1_code (1 : Nat) (Option.none : Option Jvm.ClassFile.FieldType)).before args0 about1 = true := code_word (m := ⟨0, 0⟩) (meth := k0m0) (c := k0c0) (by decide +kernel) rfl rfl rfl (by decide +kernel)
set_option maxRecDepth 65536 in
theorem w_c3 : (Jvm.Cond.code ({ cls := "com/example/melog/melog/model/TimestampedOffset", name := "equals", desc := "(Ljava/lang/Object;)Z" } : Jvm.MethodName) prog_7_method_4_code (3 : Nat) (Option.some Jvm.ClassFile.FieldType.boolean)).before args0 about1 = true := code_word (m := ⟨2, 1⟩) (meth := k2m1) (c := k2c1) (by decide +kernel) rfl rfl rfl (by decide +kernel)
set_option maxRecDepth 65536 in
theorem w_c4 : (Jvm.Cond.code ({ cls := "java/lang/Long", name := "valueOf", desc := "(J)Ljava/lang/Long;" } : Jvm.MethodName) jdk_35_method_24_code (3 : Nat) (Option.some (Jvm.ClassFile.FieldType.object "java/lang/Long"))).before args0 about1 = true := code_word (m := ⟨8, 0⟩) (meth := k8m0) (c := k8c0) (by decide +kernel) rfl rfl rfl (by decide +kernel)
set_option maxRecDepth 65536 in
theorem w_c5 : (Jvm.Cond.code ({ cls := "java/lang/Long", name := "<init>", desc := "(J)V" } : Jvm.MethodName) jdk_35_method_26_code (3 : Nat) (Option.none : Option Jvm.ClassFile.FieldType)).before args0 about1 = true := code_word (m := ⟨8, 1⟩) (meth := k8m1) (c := k8c1) (by decide +kernel) rfl rfl rfl (by decide +kernel)
set_option maxRecDepth 65536 in
theorem w_c6 : (Jvm.Cond.code ({ cls := "java/lang/Number", name := "<init>", desc := "()V" } : Jvm.MethodName) jdk_18_method_1_code (1 : Nat) (Option.none : Option Jvm.ClassFile.FieldType)).before args0 about1 = true := code_word (m := ⟨4, 0⟩) (meth := k4m0) (c := k4c0) (by decide +kernel) rfl rfl rfl (by decide +kernel)
def codes1 : List Jvm.Cond := [Jvm.Cond.code x code maxLocals ret, Jvm.Cond.code ({ cls := "com/example/melog/melog/model/TimestampedOffset", name := "<init>", desc := "(JJ)V" } : Jvm.MethodName) prog_7_method_1_code (5 : Nat) (Option.none : Option Jvm.ClassFile.FieldType), Jvm.Cond.code ({ cls := "java/lang/Object", name := "<init>", desc := "()V" } : Jvm.MethodName) object_method_1_code (1 : Nat) (Option.none : Option Jvm.ClassFile.FieldType), Jvm.Cond.code ({ cls := "com/example/melog/melog/model/TimestampedOffset", name := "equals", desc := "(Ljava/lang/Object;)Z" } : Jvm.MethodName) prog_7_method_4_code (3 : Nat) (Option.some Jvm.ClassFile.FieldType.boolean), Jvm.Cond.code ({ cls := "java/lang/Long", name := "valueOf", desc := "(J)Ljava/lang/Long;" } : Jvm.MethodName) jdk_35_method_24_code (3 : Nat) (Option.some (Jvm.ClassFile.FieldType.object "java/lang/Long")), Jvm.Cond.code ({ cls := "java/lang/Long", name := "<init>", desc := "(J)V" } : Jvm.MethodName) jdk_35_method_26_code (3 : Nat) (Option.none : Option Jvm.ClassFile.FieldType), Jvm.Cond.code ({ cls := "java/lang/Number", name := "<init>", desc := "()V" } : Jvm.MethodName) jdk_18_method_1_code (1 : Nat) (Option.none : Option Jvm.ClassFile.FieldType)]
set_option maxRecDepth 65536 in
theorem codes_eq : words1.filter isCode = codes1 := rfl
theorem w_codes : ∀ c ∈ words1.filter isCode, c.before args0 about1 = true := by
  rw [codes_eq]
  intro c hc
  simp only [codes1, List.mem_cons, List.not_mem_nil, or_false] at hc
  rcases hc with rfl | rfl | rfl | rfl | rfl | rfl | rfl
  · exact w_c0
  · exact w_c1
  · exact w_c2
  · exact w_c3
  · exact w_c4
  · exact w_c5
  · exact w_c6
set_option maxRecDepth 65536 in
theorem w_t1 : (words1.take 24).all (fun c => isCode c || c.before args0 about1) = true := by decide +kernel
set_option maxRecDepth 65536 in
theorem w_t2 : (words1.drop 24).all (fun c => isCode c || c.before args0 about1) = true := by decide +kernel
theorem w_tables : (allAtoms (Jvm.Cond.code x code maxLocals ret :: tables_1)).before args0 about1 = true := by
  rw [allAtoms_all]
  show words1.all (fun c => c.before args0 about1) = true
  refine all_split ?_ w_codes
  rw [← List.take_append_drop 24 words1, List.all_append, w_t1, w_t2]
  rfl
set_option maxRecDepth 65536 in
theorem w_rest : rest_1_c.before args0 about1 = true := by decide +kernel
set_option maxRecDepth 65536 in
theorem w_case : (Jvm.Cond.and given_1 narrow_1).before args0 about1 = true := by decide +kernel
theorem w_applies : (headSpec (Jvm.Cond.code x code maxLocals ret :: tables_1) room_1).applies x e0.platform about1 = true :=
  (Spec.applies_iff w_frames).mpr ⟨w_running, w_runnable, w_alone, w_named, w_hears, w_ripe, w_room, w_tables⟩
theorem atStart : AtStart classFile x code maxLocals ret World_1 tables_1 room_1 Calls_1 rest_1 Pre_1 launch0 p0 e0 about1 theMethod args0 below0 :=
  ⟨lists_1, trivial, launch0.admits_env _ _ _, launch0.least_env, fairChoices_fair.cas, fairChoices_fair.clock, w_frames, w_args, w_heap, w_applies, trivial, w_rest, w_case⟩
end start1
theorem witness_1 : WitnessClaimed_1 := ⟨start1.p0, start1.e0, start1.about1, start1.theMethod, start1.args0, start1.below0, start1.atStart⟩
end Jvm.Pilot.@@N@@
