import JvmDerived
import JvmDerived.Pilot.@@N@@Statement
import JvmDerived.Pilot.@@N@@Code
set_option linter.unusedVariables false
set_option linter.unusedSimpArgs false
@@BLOCK:NumsL.lean.txt@@
namespace Jvm.RoadKit
open Sem ClassFile Op Lib Jvm.Stand Jvm.Free Jvm.LawKit
section New
variable {p : Program} {l : Launch} {e : Env} {R : Room} {s : State} {m : MethodId} {args : Array Value} {below : List Frame} {meth : Method} {c : Code} {T : State} {locs : List Loc} {cells slots : Nat}
theorem retI (X : Stand p l e R s m args below meth c T locs cells slots) (hx : p.tables.exec = Jvm.exec) {pc : Nat} {Ls : Array Slot} {z : Int32} {rest : List Value} (hret : meth.sig.returnType = some .int) (hd : decode c.code pc = .ok (.ireturn, 1)) {fs : List Frame}
    (hl : ∀ (f : JFrame) (acts : List Action), f.method = m → f.locked = none → f.entered = [] → (doReturn e (T.setTop f) acts (some (.int z))).1 = T.setFrames fs) : Steps p.tables e below (T.setTop (mkF m pc Ls (.int z :: rest))) (T.setFrames fs) := by
  have hm' : T.vm.method? m = some meth := X.method'
  have hn : narrow .int (.int z) = .int z := rfl
  show Steps p.tables e below (T.setTop { method := m, pc := pc, locals := Ls, stack := _ :: rest, locked := none }) _
  jvm_step X.here [X.here.top, hx, hd, hm', hret, hn]
  first | (intro acts; rw [hl _ acts rfl rfl rfl]) | rw [hl _ _ rfl rfl rfl]
  exact Steps.refl _
end New
end Jvm.RoadKit
namespace Jvm.Pilot.@@N@@
open Jvm Jvm.ClassFile Sem Op Lib Jvm.Free Jvm.Stand Jvm.LawKit Jvm.RoadKit Bundle Jvm.Pilot.@@N@@.Jvm.D
theorem own_ext {h h' h'' : Heap} (A : Ext h h') (B : Ext h' h'') : Ext h h'' := ⟨Nat.le_trans A.1 B.1, fun a c q => B.2 a c (A.2 a c q)⟩
theorem own_fld {args : Array Value} {s : State} {t : Term} {C n d : String} {w : Addr} {k : Int32} (h : (Jvm.Cond.eq (.field t C n d) (.int k)).value args s none s [] = some true) (ev : t.eval args s none [] s = some (.ref w)) : Fld s s.heap w C n d (.int k) := by
  apply Fld.start
  have e := fld_at (C := C) (n := n) (dd := d) ev
  obtain ⟨x, y, e1, e2, k1, k2⟩ := cmp_v (Or.inl h)
  cases (show y = .int k from (Option.some.inj (e2.symm.trans rfl)))
  obtain ⟨z, rfl⟩ := k2
  have q := gotT (Cond.eq_ints e1 e2) h
  rw [← e, e1, q]
theorem own_fldR {args : Array Value} {s : State} {t u : Term} {C n d : String} {w b : Addr} (h : (Jvm.Cond.eq (.field t C n d) u).value args s none s [] = some true) (ev : t.eval args s none [] s = some (.ref w)) (eu : u.eval args s none [] s = some (.ref b)) : Fld s s.heap w C n d (.ref b) := by
  apply Fld.start
  have e := fld_at (C := C) (n := n) (dd := d) ev
  obtain ⟨x, y, e1, e2, k1, k2⟩ := cmp_v (Or.inl h)
  cases e2.symm.trans eu
  have q := gotT (eq_R e1 eu k2.2 rfl) h
  rw [← e, e1, q]
theorem own_ne {Z : State} {h : Heap} {a b : Addr} {C n d : String} {i j : Int32} (F : Fld Z h a C n d (.int i)) (G : Fld Z h b C n d (.int j)) (hn : ¬ (i = j)) : ¬ (a = b) := fun e => by
  subst e
  obtain ⟨c1, f1, k1, i1, g1, p1, p2, -, -, -, -, p7⟩ := F
  obtain ⟨c2, f2, k2, i2, g2, q1, q2, -, -, -, -, q7⟩ := G
  cases p1.symm.trans q1
  cases p2.symm.trans q2
  exact hn (Value.int.inj (Option.some.inj (p7.symm.trans q7)))
theorem own_n0 {Z : State} {n0 : Nat} {h : Heap} (O : Old Z n0 h) : n0 ≤ h.size := O.1 ▸ O.2.1
theorem own_inj {x y : Int32} (h : x.toInt = y.toInt) : x = y := Int32.toInt_inj.mp h
theorem own_rem (x : Int32) : ((x &&& (2147483647 : Int32)) % (7 : Int32)) = (0 : Int32) ∨ ((x &&& (2147483647 : Int32)) % (7 : Int32)) = (1 : Int32) ∨ ((x &&& (2147483647 : Int32)) % (7 : Int32)) = (2 : Int32) ∨ ((x &&& (2147483647 : Int32)) % (7 : Int32)) = (3 : Int32) ∨ ((x &&& (2147483647 : Int32)) % (7 : Int32)) = (4 : Int32) ∨ ((x &&& (2147483647 : Int32)) % (7 : Int32)) = (5 : Int32) ∨ ((x &&& (2147483647 : Int32)) % (7 : Int32)) = (6 : Int32) := by
  have e := Jvm.Kit.i32_mask x (2147483647 : Int32) (k := 31) (by decide) (by decide)
  have e2 := Jvm.Kit.i32_rem_nonneg (x := x &&& (2147483647 : Int32)) (y := (7 : Int32)) (by omega)
  have e3 : (7 : Int32).toInt = 7 := by decide
  rw [e3] at e2
  have h : ((x &&& (2147483647 : Int32)) % (7 : Int32)).toInt = 0 ∨ ((x &&& (2147483647 : Int32)) % (7 : Int32)).toInt = 1 ∨ ((x &&& (2147483647 : Int32)) % (7 : Int32)).toInt = 2 ∨ ((x &&& (2147483647 : Int32)) % (7 : Int32)).toInt = 3 ∨ ((x &&& (2147483647 : Int32)) % (7 : Int32)).toInt = 4 ∨ ((x &&& (2147483647 : Int32)) % (7 : Int32)).toInt = 5 ∨ ((x &&& (2147483647 : Int32)) % (7 : Int32)).toInt = 6 := by omega
  rcases h with h | h | h | h | h | h | h
  · exact Or.inl (own_inj (h.trans (by decide)))
  · exact Or.inr (Or.inl (own_inj (h.trans (by decide))))
  · exact Or.inr (Or.inr (Or.inl (own_inj (h.trans (by decide)))))
  · exact Or.inr (Or.inr (Or.inr (Or.inl (own_inj (h.trans (by decide))))))
  · exact Or.inr (Or.inr (Or.inr (Or.inr (Or.inl (own_inj (h.trans (by decide)))))))
  · exact Or.inr (Or.inr (Or.inr (Or.inr (Or.inr (Or.inl (own_inj (h.trans (by decide))))))))
  · exact Or.inr (Or.inr (Or.inr (Or.inr (Or.inr (Or.inr (own_inj (h.trans (by decide))))))))
theorem own_len {args : Array Value} {s : State} {t : Term} {w : Addr} {n : Int32} {cl : Cell} {ty : FieldType} (h : (Jvm.Cond.eq (.length t) (.int n)).value args s none s [] = some true) (ev : t.eval args s none [] s = some (.ref w)) (A : Arr s s.heap w cl ty) : cl.slots.size.toInt32 = n := by
  obtain ⟨x, y, e1, e2, k1, k2⟩ := cmp_v (Or.inl h)
  cases (show y = .int n from (Option.some.inj (e2.symm.trans rfl)))
  obtain ⟨z, rfl⟩ := k2
  have q := gotT (Cond.eq_ints e1 e2) h
  have ha : s.arrayAt? w = some cl := Arr.fin (Vm.Alike.refl _) A
  simp [Term.eval, ev, ha] at e1
  rw [← q]; exact e1.2
theorem own_elem {args : Array Value} {s : State} {t u : Term} {w : Addr} {j : Int32} {cl : Cell} {ty : FieldType} {v : Value} (h : (Jvm.Cond.eq (.elem t (.int j)) u).value args s none s [] = some true) (ev : t.eval args s none [] s = some (.ref w)) (A : Arr s s.heap w cl ty) (eu : u.eval args s none [] s = some v) (hv : v.isRef = true := by rfl) : ¬ (j < 0 ∨ cl.slots.size ≤ j.toNatClampNeg) ∧ cl.slots[j.toNatClampNeg]? = some v := by
  obtain ⟨x, y, e1, e2, k1, k2⟩ := cmp_v (Or.inl h)
  cases e2.symm.trans eu
  have hx : x.isRef = true := by cases v <;> simp [Value.isRef] at hv <;> exact k2.2
  have q := gotT (eq_R e1 eu hx hv) h
  rw [q] at e1
  exact elem_in e1 ev rfl A.1
theorem own_sz {n : Nat} {z : Int32} (h31 : n < 2 ^ 31) (e : n.toInt32 = z) : (n : Int) = z.toInt := by
  rw [← e]; exact (len_toInt h31).symm
theorem own_small {args : Array Value} {s : State} {t : Term} {w : Addr} {n : Int32} {cl : Cell} {ty : FieldType} (h : (Jvm.Cond.eq (.length t) (.int n)).value args s none s [] = some true) (ev : t.eval args s none [] s = some (.ref w)) (A : Arr s s.heap w cl ty) : cl.slots.size < 2 ^ 31 := by
  obtain ⟨x, y, e1, e2, k1, k2⟩ := cmp_v (Or.inl h)
  have ha : s.arrayAt? w = some cl := Arr.fin (Vm.Alike.refl _) A
  simp [Term.eval, ev, ha] at e1
  exact e1.1
theorem own_place {j : Int32} {n : Nat} (h31 : n < 2 ^ 31) {z : Int32} (e : n.toInt32 = z) (hj : ¬ j < 0 ∧ j < z) : ¬ (j < 0 ∨ n ≤ j.toNatClampNeg) ∧ j.toNatClampNeg < n := by
  have e1 := own_sz h31 e
  have e2 := nat_of hj.1
  have e3 := Int32.lt_iff_toInt_lt.mp hj.2
  have : j.toNatClampNeg < n := by omega
  exact ⟨fun q => q.elim hj.1 (fun q => by omega), this⟩
theorem own_allE {args : Array Value} {s : State} {C0 n0 d0 C : String} {w : Addr} {cl : Cell} {ty : FieldType} {z : Int32} {D : Jvm.Cond} (h : (Jvm.Cond.all (.static C0 n0 d0) (.and (.exactly (.elem (.static C0 n0 d0) (.index 0)) C) D)).value args s none s [] = some true) (ev : (Term.static C0 n0 d0).eval args s none [] s = some (.ref w)) (A : Arr s s.heap w cl ty) (h31 : cl.slots.size < 2 ^ 31) (e : cl.slots.size.toInt32 = z) (j : Int32) (hj : ¬ j < 0 ∧ j < z) :
    ∃ b, ¬ (j < 0 ∨ cl.slots.size ≤ j.toNatClampNeg) ∧ cl.slots[j.toNatClampNeg]? = some (.ref b) ∧ Exa s s.heap b C ∧ (Term.elem (.static C0 n0 d0) (.index 0)).eval args s none [j.toNatClampNeg] s = some (.ref b) ∧ D.value args s none s [j.toNatClampNeg] = some true := by
  have ha : s.arrayAt? w = some cl := Arr.fin (Vm.Alike.refl _) A
  obtain ⟨p1, p2⟩ := own_place h31 e hj
  obtain ⟨c1, c2⟩ := and_e (Cond.all_elim ev ha h _ p2)
  have ev' : (Term.static C0 n0 d0).eval args s none [j.toNatClampNeg] s = some (.ref w) := ev
  have ej : (Term.index 0).eval args s none [j.toNatClampNeg] s = some (.int j) := by
    show some (Value.int j.toNatClampNeg.toInt32) = _
    rw [(back32 hj.1).1]
  have ee := elem_f ev' ej ha hj.1
  obtain ⟨b, eb⟩ := exa_v c1
  obtain ⟨a', c', cell, k, q1, q2, q3, q4, q5, rfl, q7⟩ := Cond.exactly_spec (beq_iff_eq.mpr c1 : (Jvm.Cond.exactly (.elem (.static C0 n0 d0) (.index 0)) C).holds args s none s [j.toNatClampNeg] = true)
  cases eb.symm.trans q1
  exact ⟨b, p1, ee.symm.trans eb, ⟨cell, k, q3, q2, q4, q5, q7⟩, eb, c2⟩
def World (Z : State) (w_ACK : Addr) (w__VALUES : Addr) (w_GROUP : Addr) (w_OPENED : Addr) (w_PUT : Addr) (w_SETTLED : Addr) (w_CHECKED : Addr) (w_PARKED : Addr) (cl_w__VALUES : Cell) : Prop := Sta Z Z.heap "com/example/clinch/clinch/broker/NoteKind" "ACK" "Lcom/example/clinch/clinch/broker/NoteKind;" (.ref w_ACK) ∧ Exa Z Z.heap w_ACK "com/example/clinch/clinch/broker/NoteKind" ∧ Sta Z Z.heap "com/example/clinch/clinch/broker/NoteKind" "$VALUES" "[Lcom/example/clinch/clinch/broker/NoteKind;" (.ref w__VALUES) ∧ Exa Z Z.heap w__VALUES "[Lcom/example/clinch/clinch/broker/NoteKind;" ∧ Sta Z Z.heap "com/example/clinch/clinch/broker/NoteKind" "GROUP" "Lcom/example/clinch/clinch/broker/NoteKind;" (.ref w_GROUP) ∧ Exa Z Z.heap w_GROUP "com/example/clinch/clinch/broker/NoteKind" ∧ Sta Z Z.heap "com/example/clinch/clinch/broker/NoteKind" "OPENED" "Lcom/example/clinch/clinch/broker/NoteKind;" (.ref w_OPENED) ∧ Exa Z Z.heap w_OPENED "com/example/clinch/clinch/broker/NoteKind" ∧ Sta Z Z.heap "com/example/clinch/clinch/broker/NoteKind" "PUT" "Lcom/example/clinch/clinch/broker/NoteKind;" (.ref w_PUT) ∧ Exa Z Z.heap w_PUT "com/example/clinch/clinch/broker/NoteKind" ∧ Sta Z Z.heap "com/example/clinch/clinch/broker/NoteKind" "SETTLED" "Lcom/example/clinch/clinch/broker/NoteKind;" (.ref w_SETTLED) ∧ Exa Z Z.heap w_SETTLED "com/example/clinch/clinch/broker/NoteKind" ∧ Sta Z Z.heap "com/example/clinch/clinch/broker/NoteKind" "CHECKED" "Lcom/example/clinch/clinch/broker/NoteKind;" (.ref w_CHECKED) ∧ Exa Z Z.heap w_CHECKED "com/example/clinch/clinch/broker/NoteKind" ∧ Sta Z Z.heap "com/example/clinch/clinch/broker/NoteKind" "PARKED" "Lcom/example/clinch/clinch/broker/NoteKind;" (.ref w_PARKED) ∧ Exa Z Z.heap w_PARKED "com/example/clinch/clinch/broker/NoteKind" ∧ Fld Z Z.heap w_ACK "com/example/clinch/clinch/broker/NoteKind" "code" "B" (.int (1 : Int32)) ∧ Fld Z Z.heap w_GROUP "com/example/clinch/clinch/broker/NoteKind" "code" "B" (.int (2 : Int32)) ∧ Fld Z Z.heap w_OPENED "com/example/clinch/clinch/broker/NoteKind" "code" "B" (.int (3 : Int32)) ∧ Fld Z Z.heap w_PUT "com/example/clinch/clinch/broker/NoteKind" "code" "B" (.int (4 : Int32)) ∧ Fld Z Z.heap w_SETTLED "com/example/clinch/clinch/broker/NoteKind" "code" "B" (.int (5 : Int32)) ∧ Fld Z Z.heap w_CHECKED "com/example/clinch/clinch/broker/NoteKind" "code" "B" (.int (6 : Int32)) ∧ Fld Z Z.heap w_PARKED "com/example/clinch/clinch/broker/NoteKind" "code" "B" (.int (7 : Int32)) ∧ Arr Z Z.heap w__VALUES cl_w__VALUES (.object "com/example/clinch/clinch/broker/NoteKind") ∧ cl_w__VALUES.slots.size.toInt32 = (7 : Int32) ∧ (¬ ((0 : Int32) < 0 ∨ cl_w__VALUES.slots.size ≤ ((0 : Int32)).toNatClampNeg) ∧ cl_w__VALUES.slots[((0 : Int32)).toNatClampNeg]? = some (.ref w_ACK)) ∧ (¬ ((1 : Int32) < 0 ∨ cl_w__VALUES.slots.size ≤ ((1 : Int32)).toNatClampNeg) ∧ cl_w__VALUES.slots[((1 : Int32)).toNatClampNeg]? = some (.ref w_GROUP)) ∧ (¬ ((2 : Int32) < 0 ∨ cl_w__VALUES.slots.size ≤ ((2 : Int32)).toNatClampNeg) ∧ cl_w__VALUES.slots[((2 : Int32)).toNatClampNeg]? = some (.ref w_OPENED)) ∧ (¬ ((3 : Int32) < 0 ∨ cl_w__VALUES.slots.size ≤ ((3 : Int32)).toNatClampNeg) ∧ cl_w__VALUES.slots[((3 : Int32)).toNatClampNeg]? = some (.ref w_PUT)) ∧ (¬ ((4 : Int32) < 0 ∨ cl_w__VALUES.slots.size ≤ ((4 : Int32)).toNatClampNeg) ∧ cl_w__VALUES.slots[((4 : Int32)).toNatClampNeg]? = some (.ref w_SETTLED)) ∧ (¬ ((5 : Int32) < 0 ∨ cl_w__VALUES.slots.size ≤ ((5 : Int32)).toNatClampNeg) ∧ cl_w__VALUES.slots[((5 : Int32)).toNatClampNeg]? = some (.ref w_CHECKED)) ∧ (¬ ((6 : Int32) < 0 ∨ cl_w__VALUES.slots.size ≤ ((6 : Int32)).toNatClampNeg) ∧ cl_w__VALUES.slots[((6 : Int32)).toNatClampNeg]? = some (.ref w_PARKED)) ∧ ¬ (w_ACK = w_GROUP) ∧ ¬ (w_ACK = w_OPENED) ∧ ¬ (w_ACK = w_PUT) ∧ ¬ (w_ACK = w_SETTLED) ∧ ¬ (w_ACK = w_CHECKED) ∧ ¬ (w_ACK = w_PARKED) ∧ ¬ (w_GROUP = w_OPENED) ∧ ¬ (w_GROUP = w_PUT) ∧ ¬ (w_GROUP = w_SETTLED) ∧ ¬ (w_GROUP = w_CHECKED) ∧ ¬ (w_GROUP = w_PARKED) ∧ ¬ (w_OPENED = w_PUT) ∧ ¬ (w_OPENED = w_SETTLED) ∧ ¬ (w_OPENED = w_CHECKED) ∧ ¬ (w_OPENED = w_PARKED) ∧ ¬ (w_PUT = w_SETTLED) ∧ ¬ (w_PUT = w_CHECKED) ∧ ¬ (w_PUT = w_PARKED) ∧ ¬ (w_SETTLED = w_CHECKED) ∧ ¬ (w_SETTLED = w_PARKED) ∧ ¬ (w_CHECKED = w_PARKED) ∧ Arv Z Z.heap w__VALUES cl_w__VALUES.cls (.object "com/example/clinch/clinch/broker/NoteKind") (7 : Int32) [(.ref w_ACK), (.ref w_GROUP), (.ref w_OPENED), (.ref w_PUT), (.ref w_SETTLED), (.ref w_CHECKED), (.ref w_PARKED)] .null ∧ True
theorem d1_0 : decode method_2_code 0 = .ok (.iload_n 0, 1) := by decide +kernel
theorem d1_1 : decode method_2_code 1 = .ok (.iconst 1, 1) := by decide +kernel
theorem d1_2 : decode method_2_code 2 = .ok (.if_icmp .ne 7, 3) := by decide +kernel
theorem d1_5 : decode method_2_code 5 = .ok (.getstatic 7, 3) := by decide +kernel
theorem d1_8 : decode method_2_code 8 = .ok (.areturn, 1) := by decide +kernel
theorem ef6 (m : MethodId) (x0 : Int32) : entryFrame m #[(.int x0)] 1 = mkF m 0 #[.val (.int x0)] [] := by first | (simp [entryFrame, mkF, argsToLocals, Value.category]; done) | rfl
theorem pn7 : plainName "com/example/clinch/clinch/broker/NoteKindOfPinLaw" = true := by first | (simp [plainName, overriddenIn]; done) | decide +kernel
def Q1_0 (Z : State) (w_ACK : Addr) (w__VALUES : Addr) (w_GROUP : Addr) (w_OPENED : Addr) (w_PUT : Addr) (w_SETTLED : Addr) (w_CHECKED : Addr) (w_PARKED : Addr) (cl_w__VALUES : Cell) (h0 : Heap) (n0 : Nat) (v : Option Value) (h : Heap) (L : List Loc) : Prop := v = some (.ref w_ACK) ∧ Fr n0 L ∧ h = h0
set_option maxRecDepth 65536 in
set_option maxHeartbeats 40000000 in
theorem rm1_0 (l : Launch) (Z : State) (a0 : Array Value) (hw : ∀ d ∈ tables_1, d.before a0 Z = true) (ws : List Jvm.Cond) (w_ACK : Addr) (w__VALUES : Addr) (w_GROUP : Addr) (w_OPENED : Addr) (w_PUT : Addr) (w_SETTLED : Addr) (w_CHECKED : Addr) (w_PARKED : Addr) (cl_w__VALUES : Cell) (h0 : Heap) (n0 : Nat) (Z0 : n0 ≤ h0.size) (O0 : Old Z n0 h0) (HW : World Z w_ACK w__VALUES w_GROUP w_OPENED w_PUT w_SETTLED w_CHECKED w_PARKED cl_w__VALUES) :
    MetFree l (⟨"com/example/clinch/clinch/broker/NoteKindOfPinLaw", "expected", "(I)Lcom/example/clinch/clinch/broker/NoteKind;"⟩ : MethodName) (head1 (Jvm.Cond.code (⟨"com/example/clinch/clinch/broker/NoteKindOfPinLaw", "expected", "(I)Lcom/example/clinch/clinch/broker/NoteKind;"⟩ : MethodName) method_2_code 1 (some (.object "com/example/clinch/clinch/broker/NoteKind")) :: ws) ({ frames := 0, cells := 0, slots := 0, locals := 0 } : Room)) (fun a U => a = #[(.int (1 : Int32))] ∧ Z.Warmed39 U.vm ∧ U.heap = h0) (fun _ _ _ _ _ => True) (fun _ U o U' => ∃ v L, o = .returned v ∧ Q1_0 Z w_ACK w__VALUES w_GROUP w_OPENED w_PUT w_SETTLED w_CHECKED w_PARKED cl_w__VALUES h0 n0 v U'.heap L ∧ FrameEnd U o U' L ({ frames := 0, cells := 0, slots := 0, locals := 0 } : Room).cells ({ frames := 0, cells := 0, slots := 0, locals := 0 } : Room).slots) := by
  refine MetFree.of_bodySF (plainFor_of_name pn7) hisR ?_
  intro p e s m args below meth c s₁ Bd hml0 hP hK
  obtain ⟨rfl, hZ, hh⟩ := hP
  have hx := Bd.exec
  have hby := Bd.bytes
  have hml : c.maxLocals = 1 := hml0
  have hown : s.vm.findClass "com/example/clinch/clinch/broker/NoteKindOfPinLaw" = some m.cls := findClass_of_methodNamed Bd.named
  have hnm := (name_of_methodNamed Bd.named Bd.method).1
  have X0 : Stand p l e ({ frames := 0, cells := 0, slots := 0, locals := 0 } : Room) s m #[(.int (1 : Int32))] below meth c s₁ [] 0 0 := Stand.of_body Bd
  have e0 : s₁.heap = h0 := by rw [← hh, Bd.state]; rfl
  have N0 := Fr.nil n0
  have pre0 : ∀ t, Steps p.tables e below (s₁.setTop (mkF m 0 #[.val (.int (1 : Int32))] [])) t → Steps p.tables e below (s₁.setTop (entryFrame m #[(.int (1 : Int32))] 1)) t := fun t k => castTop (ef6 m (1 : Int32)) k
  obtain ⟨S_w_ACK, E_w_ACK, S_w__VALUES, E_w__VALUES, S_w_GROUP, E_w_GROUP, S_w_OPENED, E_w_OPENED, S_w_PUT, E_w_PUT, S_w_SETTLED, E_w_SETTLED, S_w_CHECKED, E_w_CHECKED, S_w_PARKED, E_w_PARKED, F_code_w_ACK, F_code_w_GROUP, F_code_w_OPENED, F_code_w_PUT, F_code_w_SETTLED, F_code_w_CHECKED, F_code_w_PARKED, Ar_w__VALUES, Sz_w__VALUES, At_w__VALUES_0, At_w__VALUES_1, At_w__VALUES_2, At_w__VALUES_3, At_w__VALUES_4, At_w__VALUES_5, At_w__VALUES_6, ne_w_ACK_w_GROUP, ne_w_ACK_w_OPENED, ne_w_ACK_w_PUT, ne_w_ACK_w_SETTLED, ne_w_ACK_w_CHECKED, ne_w_ACK_w_PARKED, ne_w_GROUP_w_OPENED, ne_w_GROUP_w_PUT, ne_w_GROUP_w_SETTLED, ne_w_GROUP_w_CHECKED, ne_w_GROUP_w_PARKED, ne_w_OPENED_w_PUT, ne_w_OPENED_w_SETTLED, ne_w_OPENED_w_CHECKED, ne_w_OPENED_w_PARKED, ne_w_PUT_w_SETTLED, ne_w_PUT_w_CHECKED, ne_w_PUT_w_PARKED, ne_w_SETTLED_w_CHECKED, ne_w_SETTLED_w_PARKED, ne_w_CHECKED_w_PARKED, V_w__VALUES, -⟩ := id HW
  obtain ⟨T1, X1, e1, st1⟩ := getS2 X0 hx hZ hown (host := "") (Or.inl (hw _ (List.mem_of_getElem? (i := 5) rfl))) Via.refl e0 (S_w_ACK.ext O0.2) (g := (mkF m 5 #[.val (.int (1 : Int32))] [])) rfl (hb hby d1_5)
  obtain ⟨fs, hr, hrun, hended, hW, hsame⟩ := X1.leave (v := some (.ref w_ACK)) (fun h => by rw [Bd.returns] at h; cases h)
  refine ⟨_, _, pre0 _ ?_, hrun, hended, _, _, rfl, ?_, ⟨_, rfl⟩, hW, hsame.mono (by decide) (by decide)⟩
  · show Steps p.tables e below (s₁.setTop (mkF m 0 #[.val (.int (1 : Int32))] [])) _
    refine XS.iloadN X0.here hx rfl (hb hby d1_0) rfl ?_
    show Steps p.tables e below (s₁.setTop (mkF m 1 #[.val (.int (1 : Int32))] [(.int (1 : Int32))])) _
    refine XS.iconst X0.here hx rfl (hb hby d1_1) ?_
    show Steps p.tables e below (s₁.setTop (mkF m 2 #[.val (.int (1 : Int32))] [(.int (1 : Int32)), (.int (1 : Int32))])) _
    refine XS.icmpNo X0.here hx rfl (hb hby d1_2) rfl (teq (by decide : (1 : Int32) = (1 : Int32))).2 ?_
    show Steps p.tables e below (s₁.setTop (mkF m 5 #[.val (.int (1 : Int32))] [])) _
    refine st1 _ ?_
    show Steps p.tables e below (T1.setTop (mkF m 8 #[.val (.int (1 : Int32))] [(.ref w_ACK)])) _
    jvm_step X1.here [X1.here.top, hx, (hb hby d1_8), X1.method', Bd.returns, Value.isRef, FieldType.isReference]
    first | (intro acts; rw [hr _ acts rfl rfl rfl]) | rw [hr _ _ rfl rfl rfl]
    exact Steps.refl _
  · exact ⟨rfl, N0, e1⟩
theorem pd8 : parseMethodDescriptor "(I)Lcom/example/clinch/clinch/broker/NoteKind;" = some ⟨[.int], some (.object "com/example/clinch/clinch/broker/NoteKind")⟩ := by decide +kernel
theorem d3_0 : decode prog_7_method_1_code 0 = .ok (.getstatic 25, 3) := by decide +kernel
theorem d3_3 : decode prog_7_method_1_code 3 = .ok (.invokevirtual 29, 3) := by decide +kernel
theorem d3_6 : decode prog_7_method_1_code 6 = .ok (.checkcast 30, 3) := by decide +kernel
theorem d3_9 : decode prog_7_method_1_code 9 = .ok (.areturn, 1) := by decide +kernel
theorem ef14 (m : MethodId) : entryFrame m #[] 0 = mkF m 0 #[] [] := by first | (simp [entryFrame, mkF, argsToLocals, Value.category]; done) | rfl
theorem pn15 : plainName "com/example/clinch/clinch/broker/NoteKind" = true := by first | (simp [plainName, overriddenIn]; done) | decide +kernel
def Q3_1 (Z : State) (w_ACK : Addr) (w__VALUES : Addr) (w_GROUP : Addr) (w_OPENED : Addr) (w_PUT : Addr) (w_SETTLED : Addr) (w_CHECKED : Addr) (w_PARKED : Addr) (cl_w__VALUES : Cell) (h0 : Heap) (n0 : Nat) (v : Option Value) (h : Heap) (L : List Loc) : Prop := ∃ b2 : Addr, ∃ kk_b2 : ClassId, v = some (.ref b2) ∧ Fr n0 L ∧ Keep h0 h [] ∧ Old Z n0 h ∧ h0.size ≤ b2 ∧ Exa Z h b2 "[Lcom/example/clinch/clinch/broker/NoteKind;" ∧ Arv Z h b2 kk_b2 (.object "com/example/clinch/clinch/broker/NoteKind") (7 : Int32) [(.ref w_ACK), (.ref w_GROUP), (.ref w_OPENED), (.ref w_PUT), (.ref w_SETTLED), (.ref w_CHECKED), (.ref w_PARKED)] .null ∧ True
set_option maxRecDepth 65536 in
set_option maxHeartbeats 40000000 in
theorem rm3_1 (l : Launch) (Z : State) (a0 : Array Value) (hw : ∀ d ∈ tables_1, d.before a0 Z = true) (ws : List Jvm.Cond) (w_ACK : Addr) (w__VALUES : Addr) (w_GROUP : Addr) (w_OPENED : Addr) (w_PUT : Addr) (w_SETTLED : Addr) (w_CHECKED : Addr) (w_PARKED : Addr) (cl_w__VALUES : Cell) (h0 : Heap) (n0 : Nat) (Z0 : n0 ≤ h0.size) (O0 : Old Z n0 h0) (HW : World Z w_ACK w__VALUES w_GROUP w_OPENED w_PUT w_SETTLED w_CHECKED w_PARKED cl_w__VALUES) :
    MetFree l (⟨"com/example/clinch/clinch/broker/NoteKind", "values", "()[Lcom/example/clinch/clinch/broker/NoteKind;"⟩ : MethodName) (head1 (Jvm.Cond.code (⟨"com/example/clinch/clinch/broker/NoteKind", "values", "()[Lcom/example/clinch/clinch/broker/NoteKind;"⟩ : MethodName) prog_7_method_1_code 0 (some (.array (.object "com/example/clinch/clinch/broker/NoteKind"))) :: ws) ({ frames := 1, cells := 1, slots := 7, locals := 14 } : Room)) (fun a U => a = #[] ∧ Z.Warmed39 U.vm ∧ U.heap = h0) (fun _ _ _ _ _ => True) (fun _ U o U' => ∃ v L, o = .returned v ∧ Q3_1 Z w_ACK w__VALUES w_GROUP w_OPENED w_PUT w_SETTLED w_CHECKED w_PARKED cl_w__VALUES h0 n0 v U'.heap L ∧ FrameEnd U o U' L ({ frames := 1, cells := 1, slots := 7, locals := 14 } : Room).cells ({ frames := 1, cells := 1, slots := 7, locals := 14 } : Room).slots) := by
  refine MetFree.of_bodySF (plainFor_of_name pn15) hisR ?_
  intro p e s m args below meth c s₁ Bd hml0 hP hK
  obtain ⟨rfl, hZ, hh⟩ := hP
  have hx := Bd.exec
  have hby := Bd.bytes
  have hml : c.maxLocals = 0 := hml0
  have hown : s.vm.findClass "com/example/clinch/clinch/broker/NoteKind" = some m.cls := findClass_of_methodNamed Bd.named
  have hnm := (name_of_methodNamed Bd.named Bd.method).1
  have X0 : Stand p l e ({ frames := 1, cells := 1, slots := 7, locals := 14 } : Room) s m #[] below meth c s₁ [] 0 0 := Stand.of_body Bd
  have e0 : s₁.heap = h0 := by rw [← hh, Bd.state]; rfl
  have N0 := Fr.nil n0
  have pre0 : ∀ t, Steps p.tables e below (s₁.setTop (mkF m 0 #[] [])) t → Steps p.tables e below (s₁.setTop (entryFrame m #[] 0)) t := fun t k => castTop (ef14 m) k
  obtain ⟨S_w_ACK, E_w_ACK, S_w__VALUES, E_w__VALUES, S_w_GROUP, E_w_GROUP, S_w_OPENED, E_w_OPENED, S_w_PUT, E_w_PUT, S_w_SETTLED, E_w_SETTLED, S_w_CHECKED, E_w_CHECKED, S_w_PARKED, E_w_PARKED, F_code_w_ACK, F_code_w_GROUP, F_code_w_OPENED, F_code_w_PUT, F_code_w_SETTLED, F_code_w_CHECKED, F_code_w_PARKED, Ar_w__VALUES, Sz_w__VALUES, At_w__VALUES_0, At_w__VALUES_1, At_w__VALUES_2, At_w__VALUES_3, At_w__VALUES_4, At_w__VALUES_5, At_w__VALUES_6, ne_w_ACK_w_GROUP, ne_w_ACK_w_OPENED, ne_w_ACK_w_PUT, ne_w_ACK_w_SETTLED, ne_w_ACK_w_CHECKED, ne_w_ACK_w_PARKED, ne_w_GROUP_w_OPENED, ne_w_GROUP_w_PUT, ne_w_GROUP_w_SETTLED, ne_w_GROUP_w_CHECKED, ne_w_GROUP_w_PARKED, ne_w_OPENED_w_PUT, ne_w_OPENED_w_SETTLED, ne_w_OPENED_w_CHECKED, ne_w_OPENED_w_PARKED, ne_w_PUT_w_SETTLED, ne_w_PUT_w_CHECKED, ne_w_PUT_w_PARKED, ne_w_SETTLED_w_CHECKED, ne_w_SETTLED_w_PARKED, ne_w_CHECKED_w_PARKED, V_w__VALUES, -⟩ := id HW
  obtain ⟨T1, X1, e1, st1⟩ := getS2 X0 hx hZ hown (host := "") (Or.inl (hw _ (List.mem_of_getElem? (i := 14) rfl))) Via.refl e0 (S_w__VALUES.ext O0.2) (g := (mkF m 0 #[] [])) rfl (hb hby d3_0)
  obtain ⟨T2, h2, X2, e2, E2, V2, A2, st2⟩ := cloneH X1 hx hZ hown (hw _ (List.mem_of_getElem? (i := 16) rfl)) (hw _ (List.mem_of_getElem? (i := 17) rfl)) (hw _ (List.mem_of_getElem? (i := 21) rfl)) (hw _ (List.mem_of_getElem? (i := 19) rfl)) (hw _ (List.mem_of_getElem? (i := 20) rfl)) (hw _ (List.mem_of_getElem? (i := 22) rfl)) e1 (V_w__VALUES.ext O0.2).arh (E_w__VALUES.ext O0.2) (g := (mkF m 3 #[] [(.ref w__VALUES)])) rfl (by rw [hml]; rfl) rfl (hb hby d3_3) (by decide) (W := 0) (cap := 7) (by show 2 * 0 + _ ≤ _; exact Nat.le_of_eq rfl) (by decide) (by decide) (by decide) (by decide)
  obtain ⟨b2, gg2⟩ : ∃ z, z = h0.size := ⟨_, rfl⟩
  rw [← gg2] at V2 A2 st2
  have bo_b2 : h0.size ≤ b2 := Nat.le_of_eq gg2.symm
  have g_b2 : n0 ≤ b2 := Nat.le_trans (own_n0 O0) bo_b2
  have sz_b2 : h0.size ≤ b2 := Nat.le_trans (Keep.refl h0 []).1 bo_b2
  have V_b2 : Arv Z h2 b2 cl_w__VALUES.cls (.object "com/example/clinch/clinch/broker/NoteKind") (7 : Int32) [(.ref w_ACK), (.ref w_GROUP), (.ref w_OPENED), (.ref w_PUT), (.ref w_SETTLED), (.ref w_CHECKED), (.ref w_PARKED)] .null := V2
  have KK2 : Keep h0 h2 [] := (Keep.refl h0 []).ext E2
  have O2 := O0.ext E2
  obtain ⟨T3, X3, e3, st3⟩ := castY X2 hx hZ hown (hw _ (List.mem_of_getElem? (i := 30) rfl)) e2 (Ins.self A2) (g := (mkF m 6 #[] [(.ref b2)])) rfl rfl (hb hby d3_6)
  obtain ⟨fs, hr, hrun, hended, hW, hsame⟩ := X3.leave (v := some (.ref b2)) (fun h => by rw [Bd.returns] at h; cases h)
  refine ⟨_, _, pre0 _ ?_, hrun, hended, _, _, rfl, ?_, ⟨_, rfl⟩, hW, hsame.mono (by decide) (by decide)⟩
  · show Steps p.tables e below (s₁.setTop (mkF m 0 #[] [])) _
    refine st1 _ ?_
    show Steps p.tables e below (T1.setTop (mkF m 3 #[] [(.ref w__VALUES)])) _
    refine st2 _ ?_
    show Steps p.tables e below (T2.setTop (mkF m 6 #[] [(.ref b2)])) _
    refine st3 _ ?_
    show Steps p.tables e below (T3.setTop (mkF m 9 #[] [(.ref b2)])) _
    jvm_step X3.here [X3.here.top, hx, (hb hby d3_9), X3.method', Bd.returns, Value.isRef, FieldType.isReference]
    first | (intro acts; rw [hr _ acts rfl rfl rfl]) | rw [hr _ _ rfl rfl rfl]
    exact Steps.refl _
  · have eH : (T3.setFrames fs).heap = h2 := e3; rw [eH]; exact ⟨b2, cl_w__VALUES.cls, rfl, N0, KK2, O2, sz_b2, A2, V_b2, trivial⟩
theorem pd16 : parseMethodDescriptor "()[Lcom/example/clinch/clinch/broker/NoteKind;" = some ⟨[], some (.array (.object "com/example/clinch/clinch/broker/NoteKind"))⟩ := by decide +kernel
theorem d2_0 : decode prog_7_method_5_code 0 = .ok (.invokestatic 48, 3) := by decide +kernel
theorem d2_3 : decode prog_7_method_5_code 3 = .ok (.astore_n 1, 1) := by decide +kernel
theorem d2_4 : decode prog_7_method_5_code 4 = .ok (.aload_n 1, 1) := by decide +kernel
theorem d2_5 : decode prog_7_method_5_code 5 = .ok (.arraylength, 1) := by decide +kernel
theorem d2_6 : decode prog_7_method_5_code 6 = .ok (.istore_n 2, 1) := by decide +kernel
theorem d2_7 : decode prog_7_method_5_code 7 = .ok (.iconst 0, 1) := by decide +kernel
theorem d2_8 : decode prog_7_method_5_code 8 = .ok (.istore_n 3, 1) := by decide +kernel
theorem d2_9 : decode prog_7_method_5_code 9 = .ok (.iload_n 3, 1) := by decide +kernel
theorem d2_10 : decode prog_7_method_5_code 10 = .ok (.iload_n 2, 1) := by decide +kernel
theorem d2_11 : decode prog_7_method_5_code 11 = .ok (.if_icmp .ge 26, 3) := by decide +kernel
theorem d2_14 : decode prog_7_method_5_code 14 = .ok (.aload_n 1, 1) := by decide +kernel
theorem d2_15 : decode prog_7_method_5_code 15 = .ok (.iload_n 3, 1) := by decide +kernel
theorem d2_16 : decode prog_7_method_5_code 16 = .ok (.aaload, 1) := by decide +kernel
theorem d2_17 : decode prog_7_method_5_code 17 = .ok (.astore 4, 2) := by decide +kernel
theorem d2_19 : decode prog_7_method_5_code 19 = .ok (.aload 4, 2) := by decide +kernel
theorem d2_21 : decode prog_7_method_5_code 21 = .ok (.getfield 44, 3) := by decide +kernel
theorem d2_24 : decode prog_7_method_5_code 24 = .ok (.iload_n 0, 1) := by decide +kernel
theorem d2_25 : decode prog_7_method_5_code 25 = .ok (.if_icmp .ne 6, 3) := by decide +kernel
theorem d2_28 : decode prog_7_method_5_code 28 = .ok (.aload 4, 2) := by decide +kernel
theorem d2_30 : decode prog_7_method_5_code 30 = .ok (.areturn, 1) := by decide +kernel
theorem ef38 (m : MethodId) (x0 : Int32) : entryFrame m #[(.int x0)] 5 = mkF m 0 #[.val (.int x0), .unset, .unset, .unset, .unset] [] := by first | (simp [entryFrame, mkF, argsToLocals, Value.category]; done) | rfl
def Q2_2 (Z : State) (w_ACK : Addr) (w__VALUES : Addr) (w_GROUP : Addr) (w_OPENED : Addr) (w_PUT : Addr) (w_SETTLED : Addr) (w_CHECKED : Addr) (w_PARKED : Addr) (cl_w__VALUES : Cell) (h0 : Heap) (n0 : Nat) (v : Option Value) (h : Heap) (L : List Loc) : Prop := v = some (.ref w_ACK) ∧ Fr n0 L ∧ Keep h0 h [] ∧ Old Z n0 h ∧ True
set_option maxRecDepth 65536 in
set_option maxHeartbeats 40000000 in
theorem rm2_2 (l : Launch) (Z : State) (a0 : Array Value) (hw : ∀ d ∈ tables_1, d.before a0 Z = true) (ws : List Jvm.Cond) (w_ACK : Addr) (w__VALUES : Addr) (w_GROUP : Addr) (w_OPENED : Addr) (w_PUT : Addr) (w_SETTLED : Addr) (w_CHECKED : Addr) (w_PARKED : Addr) (cl_w__VALUES : Cell) (h0 : Heap) (n0 : Nat) (Z0 : n0 ≤ h0.size) (O0 : Old Z n0 h0) (HW : World Z w_ACK w__VALUES w_GROUP w_OPENED w_PUT w_SETTLED w_CHECKED w_PARKED cl_w__VALUES) :
    MetFree l (⟨"com/example/clinch/clinch/broker/NoteKind", "of", "(B)Lcom/example/clinch/clinch/broker/NoteKind;"⟩ : MethodName) (head1 (Jvm.Cond.code (⟨"com/example/clinch/clinch/broker/NoteKind", "of", "(B)Lcom/example/clinch/clinch/broker/NoteKind;"⟩ : MethodName) prog_7_method_5_code 5 (some (.object "com/example/clinch/clinch/broker/NoteKind")) :: ws) ({ frames := 2, cells := 1, slots := 7, locals := 25 } : Room)) (fun a U => a = #[(.int (1 : Int32))] ∧ Z.Warmed39 U.vm ∧ U.heap = h0) (fun _ _ _ _ _ => True) (fun _ U o U' => ∃ v L, o = .returned v ∧ Q2_2 Z w_ACK w__VALUES w_GROUP w_OPENED w_PUT w_SETTLED w_CHECKED w_PARKED cl_w__VALUES h0 n0 v U'.heap L ∧ FrameEnd U o U' L ({ frames := 2, cells := 1, slots := 7, locals := 25 } : Room).cells ({ frames := 2, cells := 1, slots := 7, locals := 25 } : Room).slots) := by
  refine MetFree.of_bodySF (plainFor_of_name pn15) hisR ?_
  intro p e s m args below meth c s₁ Bd hml0 hP hK
  obtain ⟨rfl, hZ, hh⟩ := hP
  have hx := Bd.exec
  have hby := Bd.bytes
  have hml : c.maxLocals = 5 := hml0
  have hown : s.vm.findClass "com/example/clinch/clinch/broker/NoteKind" = some m.cls := findClass_of_methodNamed Bd.named
  have hnm := (name_of_methodNamed Bd.named Bd.method).1
  have X0 : Stand p l e ({ frames := 2, cells := 1, slots := 7, locals := 25 } : Room) s m #[(.int (1 : Int32))] below meth c s₁ [] 0 0 := Stand.of_body Bd
  have e0 : s₁.heap = h0 := by rw [← hh, Bd.state]; rfl
  have N0 := Fr.nil n0
  have pre0 : ∀ t, Steps p.tables e below (s₁.setTop (mkF m 0 #[.val (.int (1 : Int32)), .unset, .unset, .unset, .unset] [])) t → Steps p.tables e below (s₁.setTop (entryFrame m #[(.int (1 : Int32))] 5)) t := fun t k => castTop (ef38 m (1 : Int32)) k
  obtain ⟨S_w_ACK, E_w_ACK, S_w__VALUES, E_w__VALUES, S_w_GROUP, E_w_GROUP, S_w_OPENED, E_w_OPENED, S_w_PUT, E_w_PUT, S_w_SETTLED, E_w_SETTLED, S_w_CHECKED, E_w_CHECKED, S_w_PARKED, E_w_PARKED, F_code_w_ACK, F_code_w_GROUP, F_code_w_OPENED, F_code_w_PUT, F_code_w_SETTLED, F_code_w_CHECKED, F_code_w_PARKED, Ar_w__VALUES, Sz_w__VALUES, At_w__VALUES_0, At_w__VALUES_1, At_w__VALUES_2, At_w__VALUES_3, At_w__VALUES_4, At_w__VALUES_5, At_w__VALUES_6, ne_w_ACK_w_GROUP, ne_w_ACK_w_OPENED, ne_w_ACK_w_PUT, ne_w_ACK_w_SETTLED, ne_w_ACK_w_CHECKED, ne_w_ACK_w_PARKED, ne_w_GROUP_w_OPENED, ne_w_GROUP_w_PUT, ne_w_GROUP_w_SETTLED, ne_w_GROUP_w_CHECKED, ne_w_GROUP_w_PARKED, ne_w_OPENED_w_PUT, ne_w_OPENED_w_SETTLED, ne_w_OPENED_w_CHECKED, ne_w_OPENED_w_PARKED, ne_w_PUT_w_SETTLED, ne_w_PUT_w_CHECKED, ne_w_PUT_w_PARKED, ne_w_SETTLED_w_CHECKED, ne_w_SETTLED_w_PARKED, ne_w_CHECKED_w_PARKED, V_w__VALUES, -⟩ := id HW
  obtain ⟨_, _, ⟨T1, L1, k1, n1⟩, -, X1, ⟨Lc1, hQ1, l1, y1, z1⟩, st1⟩ := Jvm.LawKit.callS X0 hx (y := (⟨"com/example/clinch/clinch/broker/NoteKind", "values", "()[Lcom/example/clinch/clinch/broker/NoteKind;"⟩ : MethodName)) hown (mvT hZ (hw _ (List.mem_of_getElem? (i := 11) rfl))) (mvT hZ (hw _ (List.mem_of_getElem? (i := 12) rfl))) (mvT hZ (hw _ (List.mem_of_getElem? (i := 6) rfl))) (mvT hZ (hw _ (List.mem_of_getElem? (i := 13) rfl))) (by decide) (backOf (W := 0) (rm3_1 l Z a0 hw [] w_ACK w__VALUES w_GROUP w_OPENED w_PUT w_SETTLED w_CHECKED w_PARKED cl_w__VALUES h0 n0 (own_n0 O0) O0 HW) hZ (hw _ (List.mem_of_getElem? (i := 13) rfl)) (hw _ (List.mem_of_getElem? (i := 6) rfl)) (by decide) (by decide)) (g := (mkF m 0 #[.val (.int (1 : Int32)), .unset, .unset, .unset, .unset] [])) rfl (by rw [hml]; rfl) (argsL := []) (rest := []) (lenOf pd16 rfl) rfl (by show 2 * 0 + _ ≤ _; exact Nat.le_of_eq rfl) (hb hby d2_0) (fun _ _ => ⟨rfl, e0, (by decide : 0 + 1 ≤ _), (by decide : 0 + 7 ≤ _)⟩)
  dsimp only [Pt.U, Pt.locs, Pt.cells, Pt.slots] at X1 l1 y1 z1 st1 hQ1
  subst l1 y1 z1
  obtain ⟨b1_0, fk1_0, rfl, N1q, K1, O1, pz_b1_0, pf1_0, pf1_1, -⟩ := hQ1
  have bo_b1_0 : h0.size ≤ b1_0 := pz_b1_0
  have g_b1_0 : n0 ≤ b1_0 := Nat.le_trans (own_n0 O0) bo_b1_0
  have sz_b1_0 : h0.size ≤ b1_0 := Nat.le_trans (Keep.refl h0 []).1 bo_b1_0
  have KK1 : Keep h0 T1.heap [] := (Keep.refl h0 []).trans K1 all0
  have N1 := Fr.app N0 N1q
  obtain ⟨ac2, aA2, aq2, aS2, aN2, aH2, aG2⟩ := id pf1_1
  obtain ⟨ac3, aA3, aq3, aS3, aN3, aH3, aG3⟩ := id pf1_1
  obtain ⟨T4, X4, e4, st4⟩ := getF X1 hx hZ hown (host := "") (Or.inl (hw _ (List.mem_of_getElem? (i := 32) rfl))) Via.refl rfl (F_code_w_ACK.ext O1.2) (g := (mkF m 21 #[.val (.int (1 : Int32)), .val (.ref b1_0), .val (.int (7 : Int32)), .val (.int (0 : Int32)), .val (.ref w_ACK)] [(.ref w_ACK)])) rfl rfl (hb hby d2_21)
  obtain ⟨fs, hr, hrun, hended, hW, hsame⟩ := X4.leave (v := some (.ref w_ACK)) (fun h => by rw [Bd.returns] at h; cases h)
  refine ⟨_, _, pre0 _ ?_, hrun, hended, _, _, rfl, ?_, ⟨_, rfl⟩, hW, hsame.mono (by decide) (by decide)⟩
  · show Steps p.tables e below (s₁.setTop (mkF m 0 #[.val (.int (1 : Int32)), .unset, .unset, .unset, .unset] [])) _
    refine st1 _ ?_
    show Steps p.tables e below (T1.setTop (mkF m 3 #[.val (.int (1 : Int32)), .unset, .unset, .unset, .unset] [(.ref b1_0)])) _
    refine XS.astoreN X1.here hx rfl (hb hby d2_3) rfl rfl (l' := #[.val (.int (1 : Int32)), .val (.ref b1_0), .unset, .unset, .unset]) rfl ?_
    show Steps p.tables e below (T1.setTop (mkF m 4 #[.val (.int (1 : Int32)), .val (.ref b1_0), .unset, .unset, .unset] [])) _
    refine XS.aloadN X1.here hx rfl (hb hby d2_4) rfl rfl ?_
    show Steps p.tables e below (T1.setTop (mkF m 5 #[.val (.int (1 : Int32)), .val (.ref b1_0), .unset, .unset, .unset] [(.ref b1_0)])) _
    refine X1.arraylength hx aA2.1 (State.isArrayOf_alike hZ.alike aA2.2.1) (g := (mkF m 5 #[.val (.int (1 : Int32)), .val (.ref b1_0), .unset, .unset, .unset] [(.ref b1_0)])) rfl rfl (hb hby d2_5) _ ?_
    rw [len_of aS2 aN2]
    show Steps p.tables e below (T1.setTop (mkF m 6 #[.val (.int (1 : Int32)), .val (.ref b1_0), .unset, .unset, .unset] [(.int (7 : Int32))])) _
    refine XS.istoreN X1.here hx rfl (hb hby d2_6) rfl (l' := #[.val (.int (1 : Int32)), .val (.ref b1_0), .val (.int (7 : Int32)), .unset, .unset]) rfl ?_
    show Steps p.tables e below (T1.setTop (mkF m 7 #[.val (.int (1 : Int32)), .val (.ref b1_0), .val (.int (7 : Int32)), .unset, .unset] [])) _
    refine XS.iconst X1.here hx rfl (hb hby d2_7) ?_
    show Steps p.tables e below (T1.setTop (mkF m 8 #[.val (.int (1 : Int32)), .val (.ref b1_0), .val (.int (7 : Int32)), .unset, .unset] [(.int (0 : Int32))])) _
    refine XS.istoreN X1.here hx rfl (hb hby d2_8) rfl (l' := #[.val (.int (1 : Int32)), .val (.ref b1_0), .val (.int (7 : Int32)), .val (.int (0 : Int32)), .unset]) rfl ?_
    show Steps p.tables e below (T1.setTop (mkF m 9 #[.val (.int (1 : Int32)), .val (.ref b1_0), .val (.int (7 : Int32)), .val (.int (0 : Int32)), .unset] [])) _
    refine XS.iloadN X1.here hx rfl (hb hby d2_9) rfl ?_
    show Steps p.tables e below (T1.setTop (mkF m 10 #[.val (.int (1 : Int32)), .val (.ref b1_0), .val (.int (7 : Int32)), .val (.int (0 : Int32)), .unset] [(.int (0 : Int32))])) _
    refine XS.iloadN X1.here hx rfl (hb hby d2_10) rfl ?_
    show Steps p.tables e below (T1.setTop (mkF m 11 #[.val (.int (1 : Int32)), .val (.ref b1_0), .val (.int (7 : Int32)), .val (.int (0 : Int32)), .unset] [(.int (7 : Int32)), (.int (0 : Int32))])) _
    refine XS.icmpNo X1.here hx rfl (hb hby d2_11) rfl (tlt (by decide : (0 : Int32) < (7 : Int32))).2.1 ?_
    show Steps p.tables e below (T1.setTop (mkF m 14 #[.val (.int (1 : Int32)), .val (.ref b1_0), .val (.int (7 : Int32)), .val (.int (0 : Int32)), .unset] [])) _
    refine XS.aloadN X1.here hx rfl (hb hby d2_14) rfl rfl ?_
    show Steps p.tables e below (T1.setTop (mkF m 15 #[.val (.int (1 : Int32)), .val (.ref b1_0), .val (.int (7 : Int32)), .val (.int (0 : Int32)), .unset] [(.ref b1_0)])) _
    refine XS.iloadN X1.here hx rfl (hb hby d2_15) rfl ?_
    show Steps p.tables e below (T1.setTop (mkF m 16 #[.val (.int (1 : Int32)), .val (.ref b1_0), .val (.int (7 : Int32)), .val (.int (0 : Int32)), .unset] [(.int (0 : Int32)), (.ref b1_0)])) _
    refine X1.aaload hx (j := (0 : Int32)) (v := (.ref w_ACK)) aA3.1 (State.isArrayOf_alike hZ.alike aA3.2.1) rfl aA3.2.2 (inb_of aS3 ⟨by decide, by decide⟩) (aH3.at (inb_of aS3 ⟨by decide, by decide⟩) rfl) (g := (mkF m 16 #[.val (.int (1 : Int32)), .val (.ref b1_0), .val (.int (7 : Int32)), .val (.int (0 : Int32)), .unset] [(.int (0 : Int32)), (.ref b1_0)])) rfl rfl (hb hby d2_16) _ ?_
    show Steps p.tables e below (T1.setTop (mkF m 17 #[.val (.int (1 : Int32)), .val (.ref b1_0), .val (.int (7 : Int32)), .val (.int (0 : Int32)), .unset] [(.ref w_ACK)])) _
    refine XS.astore X1.here hx rfl (hb hby d2_17) rfl rfl (l' := #[.val (.int (1 : Int32)), .val (.ref b1_0), .val (.int (7 : Int32)), .val (.int (0 : Int32)), .val (.ref w_ACK)]) rfl ?_
    show Steps p.tables e below (T1.setTop (mkF m 19 #[.val (.int (1 : Int32)), .val (.ref b1_0), .val (.int (7 : Int32)), .val (.int (0 : Int32)), .val (.ref w_ACK)] [])) _
    refine XS.aload X1.here hx rfl (hb hby d2_19) rfl rfl ?_
    show Steps p.tables e below (T1.setTop (mkF m 21 #[.val (.int (1 : Int32)), .val (.ref b1_0), .val (.int (7 : Int32)), .val (.int (0 : Int32)), .val (.ref w_ACK)] [(.ref w_ACK)])) _
    refine st4 _ ?_
    show Steps p.tables e below (T4.setTop (mkF m 24 #[.val (.int (1 : Int32)), .val (.ref b1_0), .val (.int (7 : Int32)), .val (.int (0 : Int32)), .val (.ref w_ACK)] [(.int (1 : Int32))])) _
    refine XS.iloadN X4.here hx rfl (hb hby d2_24) rfl ?_
    show Steps p.tables e below (T4.setTop (mkF m 25 #[.val (.int (1 : Int32)), .val (.ref b1_0), .val (.int (7 : Int32)), .val (.int (0 : Int32)), .val (.ref w_ACK)] [(.int (1 : Int32)), (.int (1 : Int32))])) _
    refine XS.icmpNo X4.here hx rfl (hb hby d2_25) rfl (teq (by decide : (1 : Int32) = (1 : Int32))).2 ?_
    show Steps p.tables e below (T4.setTop (mkF m 28 #[.val (.int (1 : Int32)), .val (.ref b1_0), .val (.int (7 : Int32)), .val (.int (0 : Int32)), .val (.ref w_ACK)] [])) _
    refine XS.aload X4.here hx rfl (hb hby d2_28) rfl rfl ?_
    show Steps p.tables e below (T4.setTop (mkF m 30 #[.val (.int (1 : Int32)), .val (.ref b1_0), .val (.int (7 : Int32)), .val (.int (0 : Int32)), .val (.ref w_ACK)] [(.ref w_ACK)])) _
    jvm_step X4.here [X4.here.top, hx, (hb hby d2_30), X4.method', Bd.returns, Value.isRef, FieldType.isReference]
    first | (intro acts; rw [hr _ acts rfl rfl rfl]) | rw [hr _ _ rfl rfl rfl]
    exact Steps.refl _
  · have eH : (T4.setFrames fs).heap = T1.heap := e4; rw [eH]; exact ⟨rfl, N1, KK1, O1, trivial⟩
theorem pd39 : parseMethodDescriptor "(B)Lcom/example/clinch/clinch/broker/NoteKind;" = some ⟨[.byte], some (.object "com/example/clinch/clinch/broker/NoteKind")⟩ := by decide +kernel
theorem d4_0 : decode prog_7_method_4_code 0 = .ok (.aload_n 0, 1) := by decide +kernel
theorem d4_1 : decode prog_7_method_4_code 1 = .ok (.getfield 44, 3) := by decide +kernel
theorem d4_4 : decode prog_7_method_4_code 4 = .ok (.ireturn, 1) := by decide +kernel
theorem ef44 (m : MethodId) (x0 : Addr) : entryFrame m #[(.ref x0)] 1 = mkF m 0 #[.val (.ref x0)] [] := by first | (simp [entryFrame, mkF, argsToLocals, Value.category]; done) | rfl
def Q4_3 (Z : State) (w_ACK : Addr) (w__VALUES : Addr) (w_GROUP : Addr) (w_OPENED : Addr) (w_PUT : Addr) (w_SETTLED : Addr) (w_CHECKED : Addr) (w_PARKED : Addr) (cl_w__VALUES : Cell) (h0 : Heap) (n0 : Nat) (v : Option Value) (h : Heap) (L : List Loc) : Prop := v = some (.int (1 : Int32)) ∧ Fr n0 L ∧ h = h0
set_option maxRecDepth 65536 in
set_option maxHeartbeats 40000000 in
theorem rm4_3 (l : Launch) (Z : State) (a0 : Array Value) (hw : ∀ d ∈ tables_1, d.before a0 Z = true) (ws : List Jvm.Cond) (w_ACK : Addr) (w__VALUES : Addr) (w_GROUP : Addr) (w_OPENED : Addr) (w_PUT : Addr) (w_SETTLED : Addr) (w_CHECKED : Addr) (w_PARKED : Addr) (cl_w__VALUES : Cell) (h0 : Heap) (n0 : Nat) (Z0 : n0 ≤ h0.size) (O0 : Old Z n0 h0) (HW : World Z w_ACK w__VALUES w_GROUP w_OPENED w_PUT w_SETTLED w_CHECKED w_PARKED cl_w__VALUES) :
    MetFree l (⟨"com/example/clinch/clinch/broker/NoteKind", "code", "()B"⟩ : MethodName) (head1 (Jvm.Cond.code (⟨"com/example/clinch/clinch/broker/NoteKind", "code", "()B"⟩ : MethodName) prog_7_method_4_code 1 (some .byte) :: ws) ({ frames := 0, cells := 0, slots := 0, locals := 0 } : Room)) (fun a U => a = #[(.ref w_ACK)] ∧ Z.Warmed39 U.vm ∧ U.heap = h0) (fun _ _ _ _ _ => True) (fun _ U o U' => ∃ v L, o = .returned v ∧ Q4_3 Z w_ACK w__VALUES w_GROUP w_OPENED w_PUT w_SETTLED w_CHECKED w_PARKED cl_w__VALUES h0 n0 v U'.heap L ∧ FrameEnd U o U' L ({ frames := 0, cells := 0, slots := 0, locals := 0 } : Room).cells ({ frames := 0, cells := 0, slots := 0, locals := 0 } : Room).slots) := by
  refine MetFree.of_bodySF (plainFor_of_name pn15) hisR ?_
  intro p e s m args below meth c s₁ Bd hml0 hP hK
  obtain ⟨rfl, hZ, hh⟩ := hP
  have hx := Bd.exec
  have hby := Bd.bytes
  have hml : c.maxLocals = 1 := hml0
  have hown : s.vm.findClass "com/example/clinch/clinch/broker/NoteKind" = some m.cls := findClass_of_methodNamed Bd.named
  have hnm := (name_of_methodNamed Bd.named Bd.method).1
  have X0 : Stand p l e ({ frames := 0, cells := 0, slots := 0, locals := 0 } : Room) s m #[(.ref w_ACK)] below meth c s₁ [] 0 0 := Stand.of_body Bd
  have e0 : s₁.heap = h0 := by rw [← hh, Bd.state]; rfl
  have N0 := Fr.nil n0
  have pre0 : ∀ t, Steps p.tables e below (s₁.setTop (mkF m 0 #[.val (.ref w_ACK)] [])) t → Steps p.tables e below (s₁.setTop (entryFrame m #[(.ref w_ACK)] 1)) t := fun t k => castTop (ef44 m w_ACK) k
  obtain ⟨S_w_ACK, E_w_ACK, S_w__VALUES, E_w__VALUES, S_w_GROUP, E_w_GROUP, S_w_OPENED, E_w_OPENED, S_w_PUT, E_w_PUT, S_w_SETTLED, E_w_SETTLED, S_w_CHECKED, E_w_CHECKED, S_w_PARKED, E_w_PARKED, F_code_w_ACK, F_code_w_GROUP, F_code_w_OPENED, F_code_w_PUT, F_code_w_SETTLED, F_code_w_CHECKED, F_code_w_PARKED, Ar_w__VALUES, Sz_w__VALUES, At_w__VALUES_0, At_w__VALUES_1, At_w__VALUES_2, At_w__VALUES_3, At_w__VALUES_4, At_w__VALUES_5, At_w__VALUES_6, ne_w_ACK_w_GROUP, ne_w_ACK_w_OPENED, ne_w_ACK_w_PUT, ne_w_ACK_w_SETTLED, ne_w_ACK_w_CHECKED, ne_w_ACK_w_PARKED, ne_w_GROUP_w_OPENED, ne_w_GROUP_w_PUT, ne_w_GROUP_w_SETTLED, ne_w_GROUP_w_CHECKED, ne_w_GROUP_w_PARKED, ne_w_OPENED_w_PUT, ne_w_OPENED_w_SETTLED, ne_w_OPENED_w_CHECKED, ne_w_OPENED_w_PARKED, ne_w_PUT_w_SETTLED, ne_w_PUT_w_CHECKED, ne_w_PUT_w_PARKED, ne_w_SETTLED_w_CHECKED, ne_w_SETTLED_w_PARKED, ne_w_CHECKED_w_PARKED, V_w__VALUES, -⟩ := id HW
  obtain ⟨T1, X1, e1, st1⟩ := getF X0 hx hZ hown (host := "") (Or.inl (hw _ (List.mem_of_getElem? (i := 32) rfl))) Via.refl e0 (F_code_w_ACK.ext O0.2) (g := (mkF m 1 #[.val (.ref w_ACK)] [(.ref w_ACK)])) rfl rfl (hb hby d4_1)
  obtain ⟨fs, hr, hrun, hended, hW, hsame⟩ := X1.leave (v := some (.int (1 : Int32))) (fun h => by rw [Bd.returns] at h; cases h)
  refine ⟨_, _, pre0 _ ?_, hrun, hended, _, _, rfl, ?_, ⟨_, rfl⟩, hW, hsame.mono (by decide) (by decide)⟩
  · show Steps p.tables e below (s₁.setTop (mkF m 0 #[.val (.ref w_ACK)] [])) _
    refine XS.aloadN X0.here hx rfl (hb hby d4_0) rfl rfl ?_
    show Steps p.tables e below (s₁.setTop (mkF m 1 #[.val (.ref w_ACK)] [(.ref w_ACK)])) _
    refine st1 _ ?_
    show Steps p.tables e below (T1.setTop (mkF m 4 #[.val (.ref w_ACK)] [(.int (1 : Int32))])) _
    exact retN X1 hx (t := .byte) Bd.returns (by simp) (hb hby d4_4) hr
  · exact ⟨rfl, N0, e1⟩
theorem pd45 : parseMethodDescriptor "()B" = some ⟨[], some .byte⟩ := by decide +kernel
theorem ef47 (m : MethodId) (x0 : Int32) : entryFrame m #[(.int x0)] maxLocals = mkF m 0 #[.val (.int x0), .unset, .unset, .unset] [] := by first | (simp [entryFrame, mkF, argsToLocals, Value.category, maxLocals]; done) | rfl
def Q0 (h0 : Heap) (n0 : Nat) (v : Option Value) (h : Heap) (L : List Loc) : Prop := v = some (.int (1 : Int32)) ∧ Fr n0 L
set_option maxRecDepth 65536 in
set_option maxHeartbeats 40000000 in
theorem rm0_c0 (l : Launch) (Z : State) (a0 : Array Value) (hw : ∀ d ∈ tables_1, d.before a0 Z = true) (ws : List Jvm.Cond) (w_ACK : Addr) (w__VALUES : Addr) (w_GROUP : Addr) (w_OPENED : Addr) (w_PUT : Addr) (w_SETTLED : Addr) (w_CHECKED : Addr) (w_PARKED : Addr) (cl_w__VALUES : Cell) (p1 : Int32) (h0 : Heap) (n0 : Nat) (Z0 : n0 ≤ h0.size) (O0 : Old Z n0 h0) (HW : World Z w_ACK w__VALUES w_GROUP w_OPENED w_PUT w_SETTLED w_CHECKED w_PARKED cl_w__VALUES) (hk : ((p1 &&& (2147483647 : Int32)) % (7 : Int32)) = (0 : Int32)) :
    MetFree l x (head1 (Jvm.Cond.code x code maxLocals ret :: ws) room_1) (fun a U => a = #[(.int p1)] ∧ Z.Warmed39 U.vm ∧ U.heap = h0) (fun _ _ _ _ _ => True) (fun _ U o U' => ∃ v L, o = .returned v ∧ Q0 h0 n0 v U'.heap L ∧ FrameEnd U o U' L room_1.cells room_1.slots) := by
  refine MetFree.of_bodySF (plainFor_of_name pn7) hisR ?_
  intro p e s m args below meth c s₁ Bd hml0 hP hK
  obtain ⟨rfl, hZ, hh⟩ := hP
  have hx := Bd.exec
  have hby := Bd.bytes
  have hml : c.maxLocals = 4 := hml0
  have hown : s.vm.findClass "com/example/clinch/clinch/broker/NoteKindOfPinLaw" = some m.cls := findClass_of_methodNamed Bd.named
  have hnm := (name_of_methodNamed Bd.named Bd.method).1
  have X0 : Stand p l e room_1 s m #[(.int p1)] below meth c s₁ [] 0 0 := Stand.of_body Bd
  have e0 : s₁.heap = h0 := by rw [← hh, Bd.state]; rfl
  have N0 := Fr.nil n0
  have pre0 : ∀ t, Steps p.tables e below (s₁.setTop (mkF m 0 #[.val (.int p1), .unset, .unset, .unset] [])) t → Steps p.tables e below (s₁.setTop (entryFrame m #[(.int p1)] maxLocals)) t := fun t k => castTop (ef47 m p1) k
  obtain ⟨S_w_ACK, E_w_ACK, S_w__VALUES, E_w__VALUES, S_w_GROUP, E_w_GROUP, S_w_OPENED, E_w_OPENED, S_w_PUT, E_w_PUT, S_w_SETTLED, E_w_SETTLED, S_w_CHECKED, E_w_CHECKED, S_w_PARKED, E_w_PARKED, F_code_w_ACK, F_code_w_GROUP, F_code_w_OPENED, F_code_w_PUT, F_code_w_SETTLED, F_code_w_CHECKED, F_code_w_PARKED, Ar_w__VALUES, Sz_w__VALUES, At_w__VALUES_0, At_w__VALUES_1, At_w__VALUES_2, At_w__VALUES_3, At_w__VALUES_4, At_w__VALUES_5, At_w__VALUES_6, ne_w_ACK_w_GROUP, ne_w_ACK_w_OPENED, ne_w_ACK_w_PUT, ne_w_ACK_w_SETTLED, ne_w_ACK_w_CHECKED, ne_w_ACK_w_PARKED, ne_w_GROUP_w_OPENED, ne_w_GROUP_w_PUT, ne_w_GROUP_w_SETTLED, ne_w_GROUP_w_CHECKED, ne_w_GROUP_w_PARKED, ne_w_OPENED_w_PUT, ne_w_OPENED_w_SETTLED, ne_w_OPENED_w_CHECKED, ne_w_OPENED_w_PARKED, ne_w_PUT_w_SETTLED, ne_w_PUT_w_CHECKED, ne_w_PUT_w_PARKED, ne_w_SETTLED_w_CHECKED, ne_w_SETTLED_w_PARKED, ne_w_CHECKED_w_PARKED, V_w__VALUES, -⟩ := id HW
  obtain ⟨_, _, ⟨T1, L1, k1, n1⟩, -, X1, ⟨Lc1, hQ1, l1, y1, z1⟩, st1⟩ := Jvm.LawKit.callS X0 hx (y := (⟨"com/example/clinch/clinch/broker/NoteKindOfPinLaw", "expected", "(I)Lcom/example/clinch/clinch/broker/NoteKind;"⟩ : MethodName)) hown (mvT hZ (hw _ (List.mem_of_getElem? (i := 1) rfl))) (mvT hZ (hw _ (List.mem_of_getElem? (i := 2) rfl))) (mvT hZ (hw _ (List.mem_of_getElem? (i := 3) rfl))) (mvT hZ (hw _ (List.mem_of_getElem? (i := 4) rfl))) (by decide) (backOf (W := 0) (rm1_0 l Z a0 hw [] w_ACK w__VALUES w_GROUP w_OPENED w_PUT w_SETTLED w_CHECKED w_PARKED cl_w__VALUES h0 n0 (own_n0 O0) O0 HW) hZ (hw _ (List.mem_of_getElem? (i := 4) rfl)) (hw _ (List.mem_of_getElem? (i := 3) rfl)) (by decide) (by decide)) (g := (mkF m 11 #[.val (.int p1), .val (.int (1 : Int32)), .unset, .unset] [(.int (1 : Int32))])) rfl (by rw [hml]; rfl) (argsL := [(.int (1 : Int32))]) (rest := []) (lenOf pd8 rfl) rfl (by show 2 * 0 + _ ≤ _; exact Nat.le_of_eq rfl) (hb hby at_11) (fun _ _ => ⟨rfl, e0, (by decide : 0 + 0 ≤ _), (by decide : 0 + 0 ≤ _)⟩)
  dsimp only [Pt.U, Pt.locs, Pt.cells, Pt.slots] at X1 l1 y1 z1 st1 hQ1
  subst l1 y1 z1
  obtain ⟨rfl, N1q, e1⟩ := hQ1
  have N1 := Fr.app N0 N1q
  obtain ⟨_, _, ⟨T2, L2, k2, n2⟩, -, X2, ⟨Lc2, hQ2, l2, y2, z2⟩, st2⟩ := Jvm.LawKit.callS X1 hx (y := (⟨"com/example/clinch/clinch/broker/NoteKind", "of", "(B)Lcom/example/clinch/clinch/broker/NoteKind;"⟩ : MethodName)) hown (mvT hZ (hw _ (List.mem_of_getElem? (i := 8) rfl))) (mvT hZ (hw _ (List.mem_of_getElem? (i := 9) rfl))) (mvT hZ (hw _ (List.mem_of_getElem? (i := 6) rfl))) (mvT hZ (hw _ (List.mem_of_getElem? (i := 10) rfl))) (by decide) (backOf (W := 0) (rm2_2 l Z a0 hw [] w_ACK w__VALUES w_GROUP w_OPENED w_PUT w_SETTLED w_CHECKED w_PARKED cl_w__VALUES h0 n0 (own_n0 O0) O0 HW) hZ (hw _ (List.mem_of_getElem? (i := 10) rfl)) (hw _ (List.mem_of_getElem? (i := 6) rfl)) (by decide) (by decide)) (g := (mkF m 17 #[.val (.int p1), .val (.int (1 : Int32)), .val (.ref w_ACK), .unset] [(.int (1 : Int32))])) rfl (by rw [hml]; rfl) (argsL := [(.int (1 : Int32))]) (rest := []) (lenOf pd39 rfl) rfl (by show 2 * 0 + _ ≤ _; exact Nat.le_of_eq rfl) (hb hby at_17) (fun _ _ => ⟨rfl, e1, (by decide : 0 + 1 ≤ _), (by decide : 0 + 7 ≤ _)⟩)
  dsimp only [Pt.U, Pt.locs, Pt.cells, Pt.slots] at X2 l2 y2 z2 st2 hQ2
  subst l2 y2 z2
  obtain ⟨rfl, N2q, K2, O2, -⟩ := hQ2
  have N2 := Fr.app N1 N2q
  obtain ⟨cq3, kq3, q3a, q3b, q3c⟩ := isOf hZ rfl (E_w_ACK.ext O2.2)
  obtain ⟨_, _, ⟨T3, L3, k3, n3⟩, -, X3, ⟨Lc3, hQ3, l3, y3, z3⟩, st3⟩ := X2.virtualBack hx (y := (⟨"com/example/clinch/clinch/broker/NoteKind", "code", "()B"⟩ : MethodName)) (z := (⟨"com/example/clinch/clinch/broker/NoteKind", "code", "()B"⟩ : MethodName)) hown (mvT hZ (hw _ (List.mem_of_getElem? (i := 34) rfl))) (mvT hZ (hw _ (List.mem_of_getElem? (i := 35) rfl))) (notFace_of_selects (args := #[]) (mvT hZ (hw _ (List.mem_of_getElem? (i := 37) rfl)))) (mvT hZ (hw _ (List.mem_of_getElem? (i := 37) rfl))) (mvT hZ (hw _ (List.mem_of_getElem? (i := 36) rfl))) (by decide) (backOf (W := 0) (rm4_3 l Z a0 hw [] w_ACK w__VALUES w_GROUP w_OPENED w_PUT w_SETTLED w_CHECKED w_PARKED cl_w__VALUES T2.heap n0 (own_n0 O2) O2 HW) hZ (hw _ (List.mem_of_getElem? (i := 38) rfl)) (hw _ (List.mem_of_getElem? (i := 6) rfl)) (by decide) (by decide)) q3a q3c (g := (mkF m 27 #[.val (.int p1), .val (.int (1 : Int32)), .val (.ref w_ACK), .val (.ref w_ACK)] [(.ref w_ACK)])) rfl (by rw [hml]; rfl) (Steps.refl _) (argsL := []) (rest := []) (lenOf pd45 rfl) rfl (by show 2 * 0 + _ ≤ _; exact Nat.le_of_eq rfl) (hb hby at_27) (fun _ _ => ⟨rfl, rfl, (by decide : 1 + 0 ≤ _), (by decide : 7 + 0 ≤ _)⟩)
  dsimp only [Pt.U, Pt.locs, Pt.cells, Pt.slots] at X3 l3 y3 z3 st3 hQ3
  subst l3 y3 z3
  obtain ⟨rfl, N3q, e3⟩ := hQ3
  have N3 := Fr.app N2 N3q
  obtain ⟨fs, hr, hrun, hended, hW, hsame⟩ := X3.leave (v := some (.int (1 : Int32))) (fun h => by rw [Bd.returns] at h; cases h)
  refine ⟨_, _, pre0 _ ?_, hrun, hended, _, _, rfl, ?_, ⟨_, rfl⟩, hW, hsame.mono (by decide) (by decide)⟩
  · show Steps p.tables e below (s₁.setTop (mkF m 0 #[.val (.int p1), .unset, .unset, .unset] [])) _
    refine XS.iloadN X0.here hx rfl (hb hby at_0) rfl ?_
    show Steps p.tables e below (s₁.setTop (mkF m 1 #[.val (.int p1), .unset, .unset, .unset] [(.int p1)])) _
    refine X0.ldcInt hx hown (mvT hZ (hw _ (List.mem_of_getElem? (i := 0) rfl))) (g := (mkF m 1 #[.val (.int p1), .unset, .unset, .unset] [(.int p1)])) rfl (hb hby at_1) _ ?_
    show Steps p.tables e below (s₁.setTop (mkF m 3 #[.val (.int p1), .unset, .unset, .unset] [(.int (2147483647 : Int32)), (.int p1)])) _
    refine XS.iand X0.here hx rfl (hb hby at_3) rfl ?_
    show Steps p.tables e below (s₁.setTop (mkF m 4 #[.val (.int p1), .unset, .unset, .unset] [(.int (p1 &&& (2147483647 : Int32)))])) _
    refine XS.bipush X0.here hx rfl (hb hby at_4) ?_
    show Steps p.tables e below (s₁.setTop (mkF m 6 #[.val (.int p1), .unset, .unset, .unset] [(.int (7 : Int32)), (.int (p1 &&& (2147483647 : Int32)))])) _
    refine iremM X0 hx rfl (hb hby at_6) rfl (by decide) ?_
    rw [hk]
    show Steps p.tables e below (s₁.setTop (mkF m 7 #[.val (.int p1), .unset, .unset, .unset] [(.int (0 : Int32))])) _
    refine XS.iconst X0.here hx rfl (hb hby at_7) ?_
    show Steps p.tables e below (s₁.setTop (mkF m 8 #[.val (.int p1), .unset, .unset, .unset] [(.int (1 : Int32)), (.int (0 : Int32))])) _
    refine XS.iadd X0.here hx rfl (hb hby at_8) rfl ?_
    rw [show ((0 : Int32) + (1 : Int32)) = (1 : Int32) from by decide]
    show Steps p.tables e below (s₁.setTop (mkF m 9 #[.val (.int p1), .unset, .unset, .unset] [(.int (1 : Int32))])) _
    refine XS.istoreN X0.here hx rfl (hb hby at_9) rfl (l' := #[.val (.int p1), .val (.int (1 : Int32)), .unset, .unset]) rfl ?_
    show Steps p.tables e below (s₁.setTop (mkF m 10 #[.val (.int p1), .val (.int (1 : Int32)), .unset, .unset] [])) _
    refine XS.iloadN X0.here hx rfl (hb hby at_10) rfl ?_
    show Steps p.tables e below (s₁.setTop (mkF m 11 #[.val (.int p1), .val (.int (1 : Int32)), .unset, .unset] [(.int (1 : Int32))])) _
    refine st1 _ ?_
    show Steps p.tables e below (T1.setTop (mkF m 14 #[.val (.int p1), .val (.int (1 : Int32)), .unset, .unset] [(.ref w_ACK)])) _
    refine XS.astoreN X1.here hx rfl (hb hby at_14) rfl rfl (l' := #[.val (.int p1), .val (.int (1 : Int32)), .val (.ref w_ACK), .unset]) rfl ?_
    show Steps p.tables e below (T1.setTop (mkF m 15 #[.val (.int p1), .val (.int (1 : Int32)), .val (.ref w_ACK), .unset] [])) _
    refine XS.iloadN X1.here hx rfl (hb hby at_15) rfl ?_
    show Steps p.tables e below (T1.setTop (mkF m 16 #[.val (.int p1), .val (.int (1 : Int32)), .val (.ref w_ACK), .unset] [(.int (1 : Int32))])) _
    refine XS.i2b X1.here hx rfl (hb hby at_16) rfl ?_
    rw [show ((1 : Int32).toInt8.toInt32) = (1 : Int32) from by decide]
    show Steps p.tables e below (T1.setTop (mkF m 17 #[.val (.int p1), .val (.int (1 : Int32)), .val (.ref w_ACK), .unset] [(.int (1 : Int32))])) _
    refine st2 _ ?_
    show Steps p.tables e below (T2.setTop (mkF m 20 #[.val (.int p1), .val (.int (1 : Int32)), .val (.ref w_ACK), .unset] [(.ref w_ACK)])) _
    refine XS.astoreN X2.here hx rfl (hb hby at_20) rfl rfl (l' := #[.val (.int p1), .val (.int (1 : Int32)), .val (.ref w_ACK), .val (.ref w_ACK)]) rfl ?_
    show Steps p.tables e below (T2.setTop (mkF m 21 #[.val (.int p1), .val (.int (1 : Int32)), .val (.ref w_ACK), .val (.ref w_ACK)] [])) _
    refine XS.aloadN X2.here hx rfl (hb hby at_21) rfl rfl ?_
    show Steps p.tables e below (T2.setTop (mkF m 22 #[.val (.int p1), .val (.int (1 : Int32)), .val (.ref w_ACK), .val (.ref w_ACK)] [(.ref w_ACK)])) _
    refine XS.aloadN X2.here hx rfl (hb hby at_22) rfl rfl ?_
    show Steps p.tables e below (T2.setTop (mkF m 23 #[.val (.int p1), .val (.int (1 : Int32)), .val (.ref w_ACK), .val (.ref w_ACK)] [(.ref w_ACK), (.ref w_ACK)])) _
    refine Jvm.RoadKit.acmp (g := (mkF m 23 #[.val (.int p1), .val (.int (1 : Int32)), .val (.ref w_ACK), .val (.ref w_ACK)] [(.ref w_ACK), (.ref w_ACK)])) X2 hx rfl rfl rfl (pc0 := 23) (pc' := 26) (same := true) rfl (hb hby at_23) rfl (decide_eq_true rfl) (by decide) (by decide) ?_
    show Steps p.tables e below (T2.setTop (mkF m 26 #[.val (.int p1), .val (.int (1 : Int32)), .val (.ref w_ACK), .val (.ref w_ACK)] [])) _
    refine XS.aloadN X2.here hx rfl (hb hby at_26) rfl rfl ?_
    show Steps p.tables e below (T2.setTop (mkF m 27 #[.val (.int p1), .val (.int (1 : Int32)), .val (.ref w_ACK), .val (.ref w_ACK)] [(.ref w_ACK)])) _
    refine st3.trans ?_
    show Steps p.tables e below (T3.setTop (mkF m 30 #[.val (.int p1), .val (.int (1 : Int32)), .val (.ref w_ACK), .val (.ref w_ACK)] [(.int (1 : Int32))])) _
    refine XS.iloadN X3.here hx rfl (hb hby at_30) rfl ?_
    show Steps p.tables e below (T3.setTop (mkF m 31 #[.val (.int p1), .val (.int (1 : Int32)), .val (.ref w_ACK), .val (.ref w_ACK)] [(.int (1 : Int32)), (.int (1 : Int32))])) _
    refine XS.i2b X3.here hx rfl (hb hby at_31) rfl ?_
    rw [show ((1 : Int32).toInt8.toInt32) = (1 : Int32) from by decide]
    show Steps p.tables e below (T3.setTop (mkF m 32 #[.val (.int p1), .val (.int (1 : Int32)), .val (.ref w_ACK), .val (.ref w_ACK)] [(.int (1 : Int32)), (.int (1 : Int32))])) _
    refine XS.icmpNo X3.here hx rfl (hb hby at_32) rfl (teq (by decide : (1 : Int32) = (1 : Int32))).2 ?_
    show Steps p.tables e below (T3.setTop (mkF m 35 #[.val (.int p1), .val (.int (1 : Int32)), .val (.ref w_ACK), .val (.ref w_ACK)] [])) _
    refine XS.iconst X3.here hx rfl (hb hby at_35) ?_
    show Steps p.tables e below (T3.setTop (mkF m 36 #[.val (.int p1), .val (.int (1 : Int32)), .val (.ref w_ACK), .val (.ref w_ACK)] [(.int (1 : Int32))])) _
    refine XS.goto X3.here hx rfl (pc0 := 36) (pc' := 40) rfl (hb hby at_36) (by decide) (by decide) ?_
    show Steps p.tables e below (T3.setTop (mkF m 40 #[.val (.int p1), .val (.int (1 : Int32)), .val (.ref w_ACK), .val (.ref w_ACK)] [(.int (1 : Int32))])) _
    exact retN X3 hx (t := .boolean) Bd.returns (by simp) (hb hby at_40) hr
  · exact ⟨rfl, N3⟩
theorem d1_9 : decode method_2_code 9 = .ok (.iload_n 0, 1) := by decide +kernel
theorem d1_10 : decode method_2_code 10 = .ok (.iconst 2, 1) := by decide +kernel
theorem d1_11 : decode method_2_code 11 = .ok (.if_icmp .ne 7, 3) := by decide +kernel
theorem d1_14 : decode method_2_code 14 = .ok (.getstatic 13, 3) := by decide +kernel
theorem d1_17 : decode method_2_code 17 = .ok (.areturn, 1) := by decide +kernel
def Q1_5 (Z : State) (w_ACK : Addr) (w__VALUES : Addr) (w_GROUP : Addr) (w_OPENED : Addr) (w_PUT : Addr) (w_SETTLED : Addr) (w_CHECKED : Addr) (w_PARKED : Addr) (cl_w__VALUES : Cell) (h0 : Heap) (n0 : Nat) (v : Option Value) (h : Heap) (L : List Loc) : Prop := v = some (.ref w_GROUP) ∧ Fr n0 L ∧ h = h0
set_option maxRecDepth 65536 in
set_option maxHeartbeats 40000000 in
theorem rm1_5 (l : Launch) (Z : State) (a0 : Array Value) (hw : ∀ d ∈ tables_1, d.before a0 Z = true) (ws : List Jvm.Cond) (w_ACK : Addr) (w__VALUES : Addr) (w_GROUP : Addr) (w_OPENED : Addr) (w_PUT : Addr) (w_SETTLED : Addr) (w_CHECKED : Addr) (w_PARKED : Addr) (cl_w__VALUES : Cell) (h0 : Heap) (n0 : Nat) (Z0 : n0 ≤ h0.size) (O0 : Old Z n0 h0) (HW : World Z w_ACK w__VALUES w_GROUP w_OPENED w_PUT w_SETTLED w_CHECKED w_PARKED cl_w__VALUES) :
    MetFree l (⟨"com/example/clinch/clinch/broker/NoteKindOfPinLaw", "expected", "(I)Lcom/example/clinch/clinch/broker/NoteKind;"⟩ : MethodName) (head1 (Jvm.Cond.code (⟨"com/example/clinch/clinch/broker/NoteKindOfPinLaw", "expected", "(I)Lcom/example/clinch/clinch/broker/NoteKind;"⟩ : MethodName) method_2_code 1 (some (.object "com/example/clinch/clinch/broker/NoteKind")) :: ws) ({ frames := 0, cells := 0, slots := 0, locals := 0 } : Room)) (fun a U => a = #[(.int (2 : Int32))] ∧ Z.Warmed39 U.vm ∧ U.heap = h0) (fun _ _ _ _ _ => True) (fun _ U o U' => ∃ v L, o = .returned v ∧ Q1_5 Z w_ACK w__VALUES w_GROUP w_OPENED w_PUT w_SETTLED w_CHECKED w_PARKED cl_w__VALUES h0 n0 v U'.heap L ∧ FrameEnd U o U' L ({ frames := 0, cells := 0, slots := 0, locals := 0 } : Room).cells ({ frames := 0, cells := 0, slots := 0, locals := 0 } : Room).slots) := by
  refine MetFree.of_bodySF (plainFor_of_name pn7) hisR ?_
  intro p e s m args below meth c s₁ Bd hml0 hP hK
  obtain ⟨rfl, hZ, hh⟩ := hP
  have hx := Bd.exec
  have hby := Bd.bytes
  have hml : c.maxLocals = 1 := hml0
  have hown : s.vm.findClass "com/example/clinch/clinch/broker/NoteKindOfPinLaw" = some m.cls := findClass_of_methodNamed Bd.named
  have hnm := (name_of_methodNamed Bd.named Bd.method).1
  have X0 : Stand p l e ({ frames := 0, cells := 0, slots := 0, locals := 0 } : Room) s m #[(.int (2 : Int32))] below meth c s₁ [] 0 0 := Stand.of_body Bd
  have e0 : s₁.heap = h0 := by rw [← hh, Bd.state]; rfl
  have N0 := Fr.nil n0
  have pre0 : ∀ t, Steps p.tables e below (s₁.setTop (mkF m 0 #[.val (.int (2 : Int32))] [])) t → Steps p.tables e below (s₁.setTop (entryFrame m #[(.int (2 : Int32))] 1)) t := fun t k => castTop (ef6 m (2 : Int32)) k
  obtain ⟨S_w_ACK, E_w_ACK, S_w__VALUES, E_w__VALUES, S_w_GROUP, E_w_GROUP, S_w_OPENED, E_w_OPENED, S_w_PUT, E_w_PUT, S_w_SETTLED, E_w_SETTLED, S_w_CHECKED, E_w_CHECKED, S_w_PARKED, E_w_PARKED, F_code_w_ACK, F_code_w_GROUP, F_code_w_OPENED, F_code_w_PUT, F_code_w_SETTLED, F_code_w_CHECKED, F_code_w_PARKED, Ar_w__VALUES, Sz_w__VALUES, At_w__VALUES_0, At_w__VALUES_1, At_w__VALUES_2, At_w__VALUES_3, At_w__VALUES_4, At_w__VALUES_5, At_w__VALUES_6, ne_w_ACK_w_GROUP, ne_w_ACK_w_OPENED, ne_w_ACK_w_PUT, ne_w_ACK_w_SETTLED, ne_w_ACK_w_CHECKED, ne_w_ACK_w_PARKED, ne_w_GROUP_w_OPENED, ne_w_GROUP_w_PUT, ne_w_GROUP_w_SETTLED, ne_w_GROUP_w_CHECKED, ne_w_GROUP_w_PARKED, ne_w_OPENED_w_PUT, ne_w_OPENED_w_SETTLED, ne_w_OPENED_w_CHECKED, ne_w_OPENED_w_PARKED, ne_w_PUT_w_SETTLED, ne_w_PUT_w_CHECKED, ne_w_PUT_w_PARKED, ne_w_SETTLED_w_CHECKED, ne_w_SETTLED_w_PARKED, ne_w_CHECKED_w_PARKED, V_w__VALUES, -⟩ := id HW
  obtain ⟨T1, X1, e1, st1⟩ := getS2 X0 hx hZ hown (host := "") (Or.inl (hw _ (List.mem_of_getElem? (i := 44) rfl))) Via.refl e0 (S_w_GROUP.ext O0.2) (g := (mkF m 14 #[.val (.int (2 : Int32))] [])) rfl (hb hby d1_14)
  obtain ⟨fs, hr, hrun, hended, hW, hsame⟩ := X1.leave (v := some (.ref w_GROUP)) (fun h => by rw [Bd.returns] at h; cases h)
  refine ⟨_, _, pre0 _ ?_, hrun, hended, _, _, rfl, ?_, ⟨_, rfl⟩, hW, hsame.mono (by decide) (by decide)⟩
  · show Steps p.tables e below (s₁.setTop (mkF m 0 #[.val (.int (2 : Int32))] [])) _
    refine XS.iloadN X0.here hx rfl (hb hby d1_0) rfl ?_
    show Steps p.tables e below (s₁.setTop (mkF m 1 #[.val (.int (2 : Int32))] [(.int (2 : Int32))])) _
    refine XS.iconst X0.here hx rfl (hb hby d1_1) ?_
    show Steps p.tables e below (s₁.setTop (mkF m 2 #[.val (.int (2 : Int32))] [(.int (1 : Int32)), (.int (2 : Int32))])) _
    refine XS.icmpYes X0.here hx rfl (pc0 := 2) (pc' := 9) rfl (hb hby d1_2) rfl (feq (by decide : ¬ ((2 : Int32) = (1 : Int32)))).2 (by decide) (by decide) ?_
    show Steps p.tables e below (s₁.setTop (mkF m 9 #[.val (.int (2 : Int32))] [])) _
    refine XS.iloadN X0.here hx rfl (hb hby d1_9) rfl ?_
    show Steps p.tables e below (s₁.setTop (mkF m 10 #[.val (.int (2 : Int32))] [(.int (2 : Int32))])) _
    refine XS.iconst X0.here hx rfl (hb hby d1_10) ?_
    show Steps p.tables e below (s₁.setTop (mkF m 11 #[.val (.int (2 : Int32))] [(.int (2 : Int32)), (.int (2 : Int32))])) _
    refine XS.icmpNo X0.here hx rfl (hb hby d1_11) rfl (teq (by decide : (2 : Int32) = (2 : Int32))).2 ?_
    show Steps p.tables e below (s₁.setTop (mkF m 14 #[.val (.int (2 : Int32))] [])) _
    refine st1 _ ?_
    show Steps p.tables e below (T1.setTop (mkF m 17 #[.val (.int (2 : Int32))] [(.ref w_GROUP)])) _
    jvm_step X1.here [X1.here.top, hx, (hb hby d1_17), X1.method', Bd.returns, Value.isRef, FieldType.isReference]
    first | (intro acts; rw [hr _ acts rfl rfl rfl]) | rw [hr _ _ rfl rfl rfl]
    exact Steps.refl _
  · exact ⟨rfl, N0, e1⟩
theorem d2_31 : decode prog_7_method_5_code 31 = .ok (.iinc 3 1, 3) := by decide +kernel
theorem d2_34 : decode prog_7_method_5_code 34 = .ok (.goto (-25), 3) := by decide +kernel
def Q2_6 (Z : State) (w_ACK : Addr) (w__VALUES : Addr) (w_GROUP : Addr) (w_OPENED : Addr) (w_PUT : Addr) (w_SETTLED : Addr) (w_CHECKED : Addr) (w_PARKED : Addr) (cl_w__VALUES : Cell) (h0 : Heap) (n0 : Nat) (v : Option Value) (h : Heap) (L : List Loc) : Prop := v = some (.ref w_GROUP) ∧ Fr n0 L ∧ Keep h0 h [] ∧ Old Z n0 h ∧ True
set_option maxRecDepth 65536 in
set_option maxHeartbeats 40000000 in
theorem rm2_6 (l : Launch) (Z : State) (a0 : Array Value) (hw : ∀ d ∈ tables_1, d.before a0 Z = true) (ws : List Jvm.Cond) (w_ACK : Addr) (w__VALUES : Addr) (w_GROUP : Addr) (w_OPENED : Addr) (w_PUT : Addr) (w_SETTLED : Addr) (w_CHECKED : Addr) (w_PARKED : Addr) (cl_w__VALUES : Cell) (h0 : Heap) (n0 : Nat) (Z0 : n0 ≤ h0.size) (O0 : Old Z n0 h0) (HW : World Z w_ACK w__VALUES w_GROUP w_OPENED w_PUT w_SETTLED w_CHECKED w_PARKED cl_w__VALUES) :
    MetFree l (⟨"com/example/clinch/clinch/broker/NoteKind", "of", "(B)Lcom/example/clinch/clinch/broker/NoteKind;"⟩ : MethodName) (head1 (Jvm.Cond.code (⟨"com/example/clinch/clinch/broker/NoteKind", "of", "(B)Lcom/example/clinch/clinch/broker/NoteKind;"⟩ : MethodName) prog_7_method_5_code 5 (some (.object "com/example/clinch/clinch/broker/NoteKind")) :: ws) ({ frames := 2, cells := 1, slots := 7, locals := 25 } : Room)) (fun a U => a = #[(.int (2 : Int32))] ∧ Z.Warmed39 U.vm ∧ U.heap = h0) (fun _ _ _ _ _ => True) (fun _ U o U' => ∃ v L, o = .returned v ∧ Q2_6 Z w_ACK w__VALUES w_GROUP w_OPENED w_PUT w_SETTLED w_CHECKED w_PARKED cl_w__VALUES h0 n0 v U'.heap L ∧ FrameEnd U o U' L ({ frames := 2, cells := 1, slots := 7, locals := 25 } : Room).cells ({ frames := 2, cells := 1, slots := 7, locals := 25 } : Room).slots) := by
  refine MetFree.of_bodySF (plainFor_of_name pn15) hisR ?_
  intro p e s m args below meth c s₁ Bd hml0 hP hK
  obtain ⟨rfl, hZ, hh⟩ := hP
  have hx := Bd.exec
  have hby := Bd.bytes
  have hml : c.maxLocals = 5 := hml0
  have hown : s.vm.findClass "com/example/clinch/clinch/broker/NoteKind" = some m.cls := findClass_of_methodNamed Bd.named
  have hnm := (name_of_methodNamed Bd.named Bd.method).1
  have X0 : Stand p l e ({ frames := 2, cells := 1, slots := 7, locals := 25 } : Room) s m #[(.int (2 : Int32))] below meth c s₁ [] 0 0 := Stand.of_body Bd
  have e0 : s₁.heap = h0 := by rw [← hh, Bd.state]; rfl
  have N0 := Fr.nil n0
  have pre0 : ∀ t, Steps p.tables e below (s₁.setTop (mkF m 0 #[.val (.int (2 : Int32)), .unset, .unset, .unset, .unset] [])) t → Steps p.tables e below (s₁.setTop (entryFrame m #[(.int (2 : Int32))] 5)) t := fun t k => castTop (ef38 m (2 : Int32)) k
  obtain ⟨S_w_ACK, E_w_ACK, S_w__VALUES, E_w__VALUES, S_w_GROUP, E_w_GROUP, S_w_OPENED, E_w_OPENED, S_w_PUT, E_w_PUT, S_w_SETTLED, E_w_SETTLED, S_w_CHECKED, E_w_CHECKED, S_w_PARKED, E_w_PARKED, F_code_w_ACK, F_code_w_GROUP, F_code_w_OPENED, F_code_w_PUT, F_code_w_SETTLED, F_code_w_CHECKED, F_code_w_PARKED, Ar_w__VALUES, Sz_w__VALUES, At_w__VALUES_0, At_w__VALUES_1, At_w__VALUES_2, At_w__VALUES_3, At_w__VALUES_4, At_w__VALUES_5, At_w__VALUES_6, ne_w_ACK_w_GROUP, ne_w_ACK_w_OPENED, ne_w_ACK_w_PUT, ne_w_ACK_w_SETTLED, ne_w_ACK_w_CHECKED, ne_w_ACK_w_PARKED, ne_w_GROUP_w_OPENED, ne_w_GROUP_w_PUT, ne_w_GROUP_w_SETTLED, ne_w_GROUP_w_CHECKED, ne_w_GROUP_w_PARKED, ne_w_OPENED_w_PUT, ne_w_OPENED_w_SETTLED, ne_w_OPENED_w_CHECKED, ne_w_OPENED_w_PARKED, ne_w_PUT_w_SETTLED, ne_w_PUT_w_CHECKED, ne_w_PUT_w_PARKED, ne_w_SETTLED_w_CHECKED, ne_w_SETTLED_w_PARKED, ne_w_CHECKED_w_PARKED, V_w__VALUES, -⟩ := id HW
  obtain ⟨_, _, ⟨T1, L1, k1, n1⟩, -, X1, ⟨Lc1, hQ1, l1, y1, z1⟩, st1⟩ := Jvm.LawKit.callS X0 hx (y := (⟨"com/example/clinch/clinch/broker/NoteKind", "values", "()[Lcom/example/clinch/clinch/broker/NoteKind;"⟩ : MethodName)) hown (mvT hZ (hw _ (List.mem_of_getElem? (i := 11) rfl))) (mvT hZ (hw _ (List.mem_of_getElem? (i := 12) rfl))) (mvT hZ (hw _ (List.mem_of_getElem? (i := 6) rfl))) (mvT hZ (hw _ (List.mem_of_getElem? (i := 13) rfl))) (by decide) (backOf (W := 0) (rm3_1 l Z a0 hw [] w_ACK w__VALUES w_GROUP w_OPENED w_PUT w_SETTLED w_CHECKED w_PARKED cl_w__VALUES h0 n0 (own_n0 O0) O0 HW) hZ (hw _ (List.mem_of_getElem? (i := 13) rfl)) (hw _ (List.mem_of_getElem? (i := 6) rfl)) (by decide) (by decide)) (g := (mkF m 0 #[.val (.int (2 : Int32)), .unset, .unset, .unset, .unset] [])) rfl (by rw [hml]; rfl) (argsL := []) (rest := []) (lenOf pd16 rfl) rfl (by show 2 * 0 + _ ≤ _; exact Nat.le_of_eq rfl) (hb hby d2_0) (fun _ _ => ⟨rfl, e0, (by decide : 0 + 1 ≤ _), (by decide : 0 + 7 ≤ _)⟩)
  dsimp only [Pt.U, Pt.locs, Pt.cells, Pt.slots] at X1 l1 y1 z1 st1 hQ1
  subst l1 y1 z1
  obtain ⟨b1_0, fk1_0, rfl, N1q, K1, O1, pz_b1_0, pf1_0, pf1_1, -⟩ := hQ1
  have bo_b1_0 : h0.size ≤ b1_0 := pz_b1_0
  have g_b1_0 : n0 ≤ b1_0 := Nat.le_trans (own_n0 O0) bo_b1_0
  have sz_b1_0 : h0.size ≤ b1_0 := Nat.le_trans (Keep.refl h0 []).1 bo_b1_0
  have KK1 : Keep h0 T1.heap [] := (Keep.refl h0 []).trans K1 all0
  have N1 := Fr.app N0 N1q
  obtain ⟨ac2, aA2, aq2, aS2, aN2, aH2, aG2⟩ := id pf1_1
  obtain ⟨ac3, aA3, aq3, aS3, aN3, aH3, aG3⟩ := id pf1_1
  obtain ⟨T4, X4, e4, st4⟩ := getF X1 hx hZ hown (host := "") (Or.inl (hw _ (List.mem_of_getElem? (i := 32) rfl))) Via.refl rfl (F_code_w_ACK.ext O1.2) (g := (mkF m 21 #[.val (.int (2 : Int32)), .val (.ref b1_0), .val (.int (7 : Int32)), .val (.int (0 : Int32)), .val (.ref w_ACK)] [(.ref w_ACK)])) rfl rfl (hb hby d2_21)
  obtain ⟨ac5, aA5, aq5, aS5, aN5, aH5, aG5⟩ := id pf1_1
  obtain ⟨T6, X6, e6, st6⟩ := getF X4 hx hZ hown (host := "") (Or.inl (hw _ (List.mem_of_getElem? (i := 32) rfl))) Via.refl e4 (F_code_w_GROUP.ext O1.2) (g := (mkF m 21 #[.val (.int (2 : Int32)), .val (.ref b1_0), .val (.int (7 : Int32)), .val (.int (1 : Int32)), .val (.ref w_GROUP)] [(.ref w_GROUP)])) rfl rfl (hb hby d2_21)
  obtain ⟨fs, hr, hrun, hended, hW, hsame⟩ := X6.leave (v := some (.ref w_GROUP)) (fun h => by rw [Bd.returns] at h; cases h)
  refine ⟨_, _, pre0 _ ?_, hrun, hended, _, _, rfl, ?_, ⟨_, rfl⟩, hW, hsame.mono (by decide) (by decide)⟩
  · show Steps p.tables e below (s₁.setTop (mkF m 0 #[.val (.int (2 : Int32)), .unset, .unset, .unset, .unset] [])) _
    refine st1 _ ?_
    show Steps p.tables e below (T1.setTop (mkF m 3 #[.val (.int (2 : Int32)), .unset, .unset, .unset, .unset] [(.ref b1_0)])) _
    refine XS.astoreN X1.here hx rfl (hb hby d2_3) rfl rfl (l' := #[.val (.int (2 : Int32)), .val (.ref b1_0), .unset, .unset, .unset]) rfl ?_
    show Steps p.tables e below (T1.setTop (mkF m 4 #[.val (.int (2 : Int32)), .val (.ref b1_0), .unset, .unset, .unset] [])) _
    refine XS.aloadN X1.here hx rfl (hb hby d2_4) rfl rfl ?_
    show Steps p.tables e below (T1.setTop (mkF m 5 #[.val (.int (2 : Int32)), .val (.ref b1_0), .unset, .unset, .unset] [(.ref b1_0)])) _
    refine X1.arraylength hx aA2.1 (State.isArrayOf_alike hZ.alike aA2.2.1) (g := (mkF m 5 #[.val (.int (2 : Int32)), .val (.ref b1_0), .unset, .unset, .unset] [(.ref b1_0)])) rfl rfl (hb hby d2_5) _ ?_
    rw [len_of aS2 aN2]
    show Steps p.tables e below (T1.setTop (mkF m 6 #[.val (.int (2 : Int32)), .val (.ref b1_0), .unset, .unset, .unset] [(.int (7 : Int32))])) _
    refine XS.istoreN X1.here hx rfl (hb hby d2_6) rfl (l' := #[.val (.int (2 : Int32)), .val (.ref b1_0), .val (.int (7 : Int32)), .unset, .unset]) rfl ?_
    show Steps p.tables e below (T1.setTop (mkF m 7 #[.val (.int (2 : Int32)), .val (.ref b1_0), .val (.int (7 : Int32)), .unset, .unset] [])) _
    refine XS.iconst X1.here hx rfl (hb hby d2_7) ?_
    show Steps p.tables e below (T1.setTop (mkF m 8 #[.val (.int (2 : Int32)), .val (.ref b1_0), .val (.int (7 : Int32)), .unset, .unset] [(.int (0 : Int32))])) _
    refine XS.istoreN X1.here hx rfl (hb hby d2_8) rfl (l' := #[.val (.int (2 : Int32)), .val (.ref b1_0), .val (.int (7 : Int32)), .val (.int (0 : Int32)), .unset]) rfl ?_
    show Steps p.tables e below (T1.setTop (mkF m 9 #[.val (.int (2 : Int32)), .val (.ref b1_0), .val (.int (7 : Int32)), .val (.int (0 : Int32)), .unset] [])) _
    refine XS.iloadN X1.here hx rfl (hb hby d2_9) rfl ?_
    show Steps p.tables e below (T1.setTop (mkF m 10 #[.val (.int (2 : Int32)), .val (.ref b1_0), .val (.int (7 : Int32)), .val (.int (0 : Int32)), .unset] [(.int (0 : Int32))])) _
    refine XS.iloadN X1.here hx rfl (hb hby d2_10) rfl ?_
    show Steps p.tables e below (T1.setTop (mkF m 11 #[.val (.int (2 : Int32)), .val (.ref b1_0), .val (.int (7 : Int32)), .val (.int (0 : Int32)), .unset] [(.int (7 : Int32)), (.int (0 : Int32))])) _
    refine XS.icmpNo X1.here hx rfl (hb hby d2_11) rfl (tlt (by decide : (0 : Int32) < (7 : Int32))).2.1 ?_
    show Steps p.tables e below (T1.setTop (mkF m 14 #[.val (.int (2 : Int32)), .val (.ref b1_0), .val (.int (7 : Int32)), .val (.int (0 : Int32)), .unset] [])) _
    refine XS.aloadN X1.here hx rfl (hb hby d2_14) rfl rfl ?_
    show Steps p.tables e below (T1.setTop (mkF m 15 #[.val (.int (2 : Int32)), .val (.ref b1_0), .val (.int (7 : Int32)), .val (.int (0 : Int32)), .unset] [(.ref b1_0)])) _
    refine XS.iloadN X1.here hx rfl (hb hby d2_15) rfl ?_
    show Steps p.tables e below (T1.setTop (mkF m 16 #[.val (.int (2 : Int32)), .val (.ref b1_0), .val (.int (7 : Int32)), .val (.int (0 : Int32)), .unset] [(.int (0 : Int32)), (.ref b1_0)])) _
    refine X1.aaload hx (j := (0 : Int32)) (v := (.ref w_ACK)) aA3.1 (State.isArrayOf_alike hZ.alike aA3.2.1) rfl aA3.2.2 (inb_of aS3 ⟨by decide, by decide⟩) (aH3.at (inb_of aS3 ⟨by decide, by decide⟩) rfl) (g := (mkF m 16 #[.val (.int (2 : Int32)), .val (.ref b1_0), .val (.int (7 : Int32)), .val (.int (0 : Int32)), .unset] [(.int (0 : Int32)), (.ref b1_0)])) rfl rfl (hb hby d2_16) _ ?_
    show Steps p.tables e below (T1.setTop (mkF m 17 #[.val (.int (2 : Int32)), .val (.ref b1_0), .val (.int (7 : Int32)), .val (.int (0 : Int32)), .unset] [(.ref w_ACK)])) _
    refine XS.astore X1.here hx rfl (hb hby d2_17) rfl rfl (l' := #[.val (.int (2 : Int32)), .val (.ref b1_0), .val (.int (7 : Int32)), .val (.int (0 : Int32)), .val (.ref w_ACK)]) rfl ?_
    show Steps p.tables e below (T1.setTop (mkF m 19 #[.val (.int (2 : Int32)), .val (.ref b1_0), .val (.int (7 : Int32)), .val (.int (0 : Int32)), .val (.ref w_ACK)] [])) _
    refine XS.aload X1.here hx rfl (hb hby d2_19) rfl rfl ?_
    show Steps p.tables e below (T1.setTop (mkF m 21 #[.val (.int (2 : Int32)), .val (.ref b1_0), .val (.int (7 : Int32)), .val (.int (0 : Int32)), .val (.ref w_ACK)] [(.ref w_ACK)])) _
    refine st4 _ ?_
    show Steps p.tables e below (T4.setTop (mkF m 24 #[.val (.int (2 : Int32)), .val (.ref b1_0), .val (.int (7 : Int32)), .val (.int (0 : Int32)), .val (.ref w_ACK)] [(.int (1 : Int32))])) _
    refine XS.iloadN X4.here hx rfl (hb hby d2_24) rfl ?_
    show Steps p.tables e below (T4.setTop (mkF m 25 #[.val (.int (2 : Int32)), .val (.ref b1_0), .val (.int (7 : Int32)), .val (.int (0 : Int32)), .val (.ref w_ACK)] [(.int (2 : Int32)), (.int (1 : Int32))])) _
    refine XS.icmpYes X4.here hx rfl (pc0 := 25) (pc' := 31) rfl (hb hby d2_25) rfl (feq (by decide : ¬ ((1 : Int32) = (2 : Int32)))).2 (by decide) (by decide) ?_
    show Steps p.tables e below (T4.setTop (mkF m 31 #[.val (.int (2 : Int32)), .val (.ref b1_0), .val (.int (7 : Int32)), .val (.int (0 : Int32)), .val (.ref w_ACK)] [])) _
    refine XS.iinc X4.here hx rfl (hb hby d2_31) rfl (l' := #[.val (.int (2 : Int32)), .val (.ref b1_0), .val (.int (7 : Int32)), .val (.int ((0 : Int32) + (1 : Int32))), .val (.ref w_ACK)]) rfl ?_
    rw [show ((0 : Int32) + (1 : Int32)) = (1 : Int32) from by decide]
    show Steps p.tables e below (T4.setTop (mkF m 34 #[.val (.int (2 : Int32)), .val (.ref b1_0), .val (.int (7 : Int32)), .val (.int (1 : Int32)), .val (.ref w_ACK)] [])) _
    refine XS.goto X4.here hx rfl (pc0 := 34) (pc' := 9) rfl (hb hby d2_34) (by decide) (by decide) ?_
    show Steps p.tables e below (T4.setTop (mkF m 9 #[.val (.int (2 : Int32)), .val (.ref b1_0), .val (.int (7 : Int32)), .val (.int (1 : Int32)), .val (.ref w_ACK)] [])) _
    refine XS.iloadN X4.here hx rfl (hb hby d2_9) rfl ?_
    show Steps p.tables e below (T4.setTop (mkF m 10 #[.val (.int (2 : Int32)), .val (.ref b1_0), .val (.int (7 : Int32)), .val (.int (1 : Int32)), .val (.ref w_ACK)] [(.int (1 : Int32))])) _
    refine XS.iloadN X4.here hx rfl (hb hby d2_10) rfl ?_
    show Steps p.tables e below (T4.setTop (mkF m 11 #[.val (.int (2 : Int32)), .val (.ref b1_0), .val (.int (7 : Int32)), .val (.int (1 : Int32)), .val (.ref w_ACK)] [(.int (7 : Int32)), (.int (1 : Int32))])) _
    refine XS.icmpNo X4.here hx rfl (hb hby d2_11) rfl (tlt (by decide : (1 : Int32) < (7 : Int32))).2.1 ?_
    show Steps p.tables e below (T4.setTop (mkF m 14 #[.val (.int (2 : Int32)), .val (.ref b1_0), .val (.int (7 : Int32)), .val (.int (1 : Int32)), .val (.ref w_ACK)] [])) _
    refine XS.aloadN X4.here hx rfl (hb hby d2_14) rfl rfl ?_
    show Steps p.tables e below (T4.setTop (mkF m 15 #[.val (.int (2 : Int32)), .val (.ref b1_0), .val (.int (7 : Int32)), .val (.int (1 : Int32)), .val (.ref w_ACK)] [(.ref b1_0)])) _
    refine XS.iloadN X4.here hx rfl (hb hby d2_15) rfl ?_
    show Steps p.tables e below (T4.setTop (mkF m 16 #[.val (.int (2 : Int32)), .val (.ref b1_0), .val (.int (7 : Int32)), .val (.int (1 : Int32)), .val (.ref w_ACK)] [(.int (1 : Int32)), (.ref b1_0)])) _
    refine X4.aaload hx (j := (1 : Int32)) (v := (.ref w_GROUP)) (by rw [e4]; exact aA5.1) (State.isArrayOf_alike hZ.alike aA5.2.1) rfl aA5.2.2 (inb_of aS5 ⟨by decide, by decide⟩) (aH5.at (inb_of aS5 ⟨by decide, by decide⟩) rfl) (g := (mkF m 16 #[.val (.int (2 : Int32)), .val (.ref b1_0), .val (.int (7 : Int32)), .val (.int (1 : Int32)), .val (.ref w_ACK)] [(.int (1 : Int32)), (.ref b1_0)])) rfl rfl (hb hby d2_16) _ ?_
    show Steps p.tables e below (T4.setTop (mkF m 17 #[.val (.int (2 : Int32)), .val (.ref b1_0), .val (.int (7 : Int32)), .val (.int (1 : Int32)), .val (.ref w_ACK)] [(.ref w_GROUP)])) _
    refine XS.astore X4.here hx rfl (hb hby d2_17) rfl rfl (l' := #[.val (.int (2 : Int32)), .val (.ref b1_0), .val (.int (7 : Int32)), .val (.int (1 : Int32)), .val (.ref w_GROUP)]) rfl ?_
    show Steps p.tables e below (T4.setTop (mkF m 19 #[.val (.int (2 : Int32)), .val (.ref b1_0), .val (.int (7 : Int32)), .val (.int (1 : Int32)), .val (.ref w_GROUP)] [])) _
    refine XS.aload X4.here hx rfl (hb hby d2_19) rfl rfl ?_
    show Steps p.tables e below (T4.setTop (mkF m 21 #[.val (.int (2 : Int32)), .val (.ref b1_0), .val (.int (7 : Int32)), .val (.int (1 : Int32)), .val (.ref w_GROUP)] [(.ref w_GROUP)])) _
    refine st6 _ ?_
    show Steps p.tables e below (T6.setTop (mkF m 24 #[.val (.int (2 : Int32)), .val (.ref b1_0), .val (.int (7 : Int32)), .val (.int (1 : Int32)), .val (.ref w_GROUP)] [(.int (2 : Int32))])) _
    refine XS.iloadN X6.here hx rfl (hb hby d2_24) rfl ?_
    show Steps p.tables e below (T6.setTop (mkF m 25 #[.val (.int (2 : Int32)), .val (.ref b1_0), .val (.int (7 : Int32)), .val (.int (1 : Int32)), .val (.ref w_GROUP)] [(.int (2 : Int32)), (.int (2 : Int32))])) _
    refine XS.icmpNo X6.here hx rfl (hb hby d2_25) rfl (teq (by decide : (2 : Int32) = (2 : Int32))).2 ?_
    show Steps p.tables e below (T6.setTop (mkF m 28 #[.val (.int (2 : Int32)), .val (.ref b1_0), .val (.int (7 : Int32)), .val (.int (1 : Int32)), .val (.ref w_GROUP)] [])) _
    refine XS.aload X6.here hx rfl (hb hby d2_28) rfl rfl ?_
    show Steps p.tables e below (T6.setTop (mkF m 30 #[.val (.int (2 : Int32)), .val (.ref b1_0), .val (.int (7 : Int32)), .val (.int (1 : Int32)), .val (.ref w_GROUP)] [(.ref w_GROUP)])) _
    jvm_step X6.here [X6.here.top, hx, (hb hby d2_30), X6.method', Bd.returns, Value.isRef, FieldType.isReference]
    first | (intro acts; rw [hr _ acts rfl rfl rfl]) | rw [hr _ _ rfl rfl rfl]
    exact Steps.refl _
  · have eH : (T6.setFrames fs).heap = T1.heap := e6; rw [eH]; exact ⟨rfl, N1, KK1, O1, trivial⟩
def Q4_7 (Z : State) (w_ACK : Addr) (w__VALUES : Addr) (w_GROUP : Addr) (w_OPENED : Addr) (w_PUT : Addr) (w_SETTLED : Addr) (w_CHECKED : Addr) (w_PARKED : Addr) (cl_w__VALUES : Cell) (h0 : Heap) (n0 : Nat) (v : Option Value) (h : Heap) (L : List Loc) : Prop := v = some (.int (2 : Int32)) ∧ Fr n0 L ∧ h = h0
set_option maxRecDepth 65536 in
set_option maxHeartbeats 40000000 in
theorem rm4_7 (l : Launch) (Z : State) (a0 : Array Value) (hw : ∀ d ∈ tables_1, d.before a0 Z = true) (ws : List Jvm.Cond) (w_ACK : Addr) (w__VALUES : Addr) (w_GROUP : Addr) (w_OPENED : Addr) (w_PUT : Addr) (w_SETTLED : Addr) (w_CHECKED : Addr) (w_PARKED : Addr) (cl_w__VALUES : Cell) (h0 : Heap) (n0 : Nat) (Z0 : n0 ≤ h0.size) (O0 : Old Z n0 h0) (HW : World Z w_ACK w__VALUES w_GROUP w_OPENED w_PUT w_SETTLED w_CHECKED w_PARKED cl_w__VALUES) :
    MetFree l (⟨"com/example/clinch/clinch/broker/NoteKind", "code", "()B"⟩ : MethodName) (head1 (Jvm.Cond.code (⟨"com/example/clinch/clinch/broker/NoteKind", "code", "()B"⟩ : MethodName) prog_7_method_4_code 1 (some .byte) :: ws) ({ frames := 0, cells := 0, slots := 0, locals := 0 } : Room)) (fun a U => a = #[(.ref w_GROUP)] ∧ Z.Warmed39 U.vm ∧ U.heap = h0) (fun _ _ _ _ _ => True) (fun _ U o U' => ∃ v L, o = .returned v ∧ Q4_7 Z w_ACK w__VALUES w_GROUP w_OPENED w_PUT w_SETTLED w_CHECKED w_PARKED cl_w__VALUES h0 n0 v U'.heap L ∧ FrameEnd U o U' L ({ frames := 0, cells := 0, slots := 0, locals := 0 } : Room).cells ({ frames := 0, cells := 0, slots := 0, locals := 0 } : Room).slots) := by
  refine MetFree.of_bodySF (plainFor_of_name pn15) hisR ?_
  intro p e s m args below meth c s₁ Bd hml0 hP hK
  obtain ⟨rfl, hZ, hh⟩ := hP
  have hx := Bd.exec
  have hby := Bd.bytes
  have hml : c.maxLocals = 1 := hml0
  have hown : s.vm.findClass "com/example/clinch/clinch/broker/NoteKind" = some m.cls := findClass_of_methodNamed Bd.named
  have hnm := (name_of_methodNamed Bd.named Bd.method).1
  have X0 : Stand p l e ({ frames := 0, cells := 0, slots := 0, locals := 0 } : Room) s m #[(.ref w_GROUP)] below meth c s₁ [] 0 0 := Stand.of_body Bd
  have e0 : s₁.heap = h0 := by rw [← hh, Bd.state]; rfl
  have N0 := Fr.nil n0
  have pre0 : ∀ t, Steps p.tables e below (s₁.setTop (mkF m 0 #[.val (.ref w_GROUP)] [])) t → Steps p.tables e below (s₁.setTop (entryFrame m #[(.ref w_GROUP)] 1)) t := fun t k => castTop (ef44 m w_GROUP) k
  obtain ⟨S_w_ACK, E_w_ACK, S_w__VALUES, E_w__VALUES, S_w_GROUP, E_w_GROUP, S_w_OPENED, E_w_OPENED, S_w_PUT, E_w_PUT, S_w_SETTLED, E_w_SETTLED, S_w_CHECKED, E_w_CHECKED, S_w_PARKED, E_w_PARKED, F_code_w_ACK, F_code_w_GROUP, F_code_w_OPENED, F_code_w_PUT, F_code_w_SETTLED, F_code_w_CHECKED, F_code_w_PARKED, Ar_w__VALUES, Sz_w__VALUES, At_w__VALUES_0, At_w__VALUES_1, At_w__VALUES_2, At_w__VALUES_3, At_w__VALUES_4, At_w__VALUES_5, At_w__VALUES_6, ne_w_ACK_w_GROUP, ne_w_ACK_w_OPENED, ne_w_ACK_w_PUT, ne_w_ACK_w_SETTLED, ne_w_ACK_w_CHECKED, ne_w_ACK_w_PARKED, ne_w_GROUP_w_OPENED, ne_w_GROUP_w_PUT, ne_w_GROUP_w_SETTLED, ne_w_GROUP_w_CHECKED, ne_w_GROUP_w_PARKED, ne_w_OPENED_w_PUT, ne_w_OPENED_w_SETTLED, ne_w_OPENED_w_CHECKED, ne_w_OPENED_w_PARKED, ne_w_PUT_w_SETTLED, ne_w_PUT_w_CHECKED, ne_w_PUT_w_PARKED, ne_w_SETTLED_w_CHECKED, ne_w_SETTLED_w_PARKED, ne_w_CHECKED_w_PARKED, V_w__VALUES, -⟩ := id HW
  obtain ⟨T1, X1, e1, st1⟩ := getF X0 hx hZ hown (host := "") (Or.inl (hw _ (List.mem_of_getElem? (i := 32) rfl))) Via.refl e0 (F_code_w_GROUP.ext O0.2) (g := (mkF m 1 #[.val (.ref w_GROUP)] [(.ref w_GROUP)])) rfl rfl (hb hby d4_1)
  obtain ⟨fs, hr, hrun, hended, hW, hsame⟩ := X1.leave (v := some (.int (2 : Int32))) (fun h => by rw [Bd.returns] at h; cases h)
  refine ⟨_, _, pre0 _ ?_, hrun, hended, _, _, rfl, ?_, ⟨_, rfl⟩, hW, hsame.mono (by decide) (by decide)⟩
  · show Steps p.tables e below (s₁.setTop (mkF m 0 #[.val (.ref w_GROUP)] [])) _
    refine XS.aloadN X0.here hx rfl (hb hby d4_0) rfl rfl ?_
    show Steps p.tables e below (s₁.setTop (mkF m 1 #[.val (.ref w_GROUP)] [(.ref w_GROUP)])) _
    refine st1 _ ?_
    show Steps p.tables e below (T1.setTop (mkF m 4 #[.val (.ref w_GROUP)] [(.int (2 : Int32))])) _
    exact retN X1 hx (t := .byte) Bd.returns (by simp) (hb hby d4_4) hr
  · exact ⟨rfl, N0, e1⟩
set_option maxRecDepth 65536 in
set_option maxHeartbeats 40000000 in
theorem rm0_c1 (l : Launch) (Z : State) (a0 : Array Value) (hw : ∀ d ∈ tables_1, d.before a0 Z = true) (ws : List Jvm.Cond) (w_ACK : Addr) (w__VALUES : Addr) (w_GROUP : Addr) (w_OPENED : Addr) (w_PUT : Addr) (w_SETTLED : Addr) (w_CHECKED : Addr) (w_PARKED : Addr) (cl_w__VALUES : Cell) (p1 : Int32) (h0 : Heap) (n0 : Nat) (Z0 : n0 ≤ h0.size) (O0 : Old Z n0 h0) (HW : World Z w_ACK w__VALUES w_GROUP w_OPENED w_PUT w_SETTLED w_CHECKED w_PARKED cl_w__VALUES) (hk : ((p1 &&& (2147483647 : Int32)) % (7 : Int32)) = (1 : Int32)) :
    MetFree l x (head1 (Jvm.Cond.code x code maxLocals ret :: ws) room_1) (fun a U => a = #[(.int p1)] ∧ Z.Warmed39 U.vm ∧ U.heap = h0) (fun _ _ _ _ _ => True) (fun _ U o U' => ∃ v L, o = .returned v ∧ Q0 h0 n0 v U'.heap L ∧ FrameEnd U o U' L room_1.cells room_1.slots) := by
  refine MetFree.of_bodySF (plainFor_of_name pn7) hisR ?_
  intro p e s m args below meth c s₁ Bd hml0 hP hK
  obtain ⟨rfl, hZ, hh⟩ := hP
  have hx := Bd.exec
  have hby := Bd.bytes
  have hml : c.maxLocals = 4 := hml0
  have hown : s.vm.findClass "com/example/clinch/clinch/broker/NoteKindOfPinLaw" = some m.cls := findClass_of_methodNamed Bd.named
  have hnm := (name_of_methodNamed Bd.named Bd.method).1
  have X0 : Stand p l e room_1 s m #[(.int p1)] below meth c s₁ [] 0 0 := Stand.of_body Bd
  have e0 : s₁.heap = h0 := by rw [← hh, Bd.state]; rfl
  have N0 := Fr.nil n0
  have pre0 : ∀ t, Steps p.tables e below (s₁.setTop (mkF m 0 #[.val (.int p1), .unset, .unset, .unset] [])) t → Steps p.tables e below (s₁.setTop (entryFrame m #[(.int p1)] maxLocals)) t := fun t k => castTop (ef47 m p1) k
  obtain ⟨S_w_ACK, E_w_ACK, S_w__VALUES, E_w__VALUES, S_w_GROUP, E_w_GROUP, S_w_OPENED, E_w_OPENED, S_w_PUT, E_w_PUT, S_w_SETTLED, E_w_SETTLED, S_w_CHECKED, E_w_CHECKED, S_w_PARKED, E_w_PARKED, F_code_w_ACK, F_code_w_GROUP, F_code_w_OPENED, F_code_w_PUT, F_code_w_SETTLED, F_code_w_CHECKED, F_code_w_PARKED, Ar_w__VALUES, Sz_w__VALUES, At_w__VALUES_0, At_w__VALUES_1, At_w__VALUES_2, At_w__VALUES_3, At_w__VALUES_4, At_w__VALUES_5, At_w__VALUES_6, ne_w_ACK_w_GROUP, ne_w_ACK_w_OPENED, ne_w_ACK_w_PUT, ne_w_ACK_w_SETTLED, ne_w_ACK_w_CHECKED, ne_w_ACK_w_PARKED, ne_w_GROUP_w_OPENED, ne_w_GROUP_w_PUT, ne_w_GROUP_w_SETTLED, ne_w_GROUP_w_CHECKED, ne_w_GROUP_w_PARKED, ne_w_OPENED_w_PUT, ne_w_OPENED_w_SETTLED, ne_w_OPENED_w_CHECKED, ne_w_OPENED_w_PARKED, ne_w_PUT_w_SETTLED, ne_w_PUT_w_CHECKED, ne_w_PUT_w_PARKED, ne_w_SETTLED_w_CHECKED, ne_w_SETTLED_w_PARKED, ne_w_CHECKED_w_PARKED, V_w__VALUES, -⟩ := id HW
  obtain ⟨_, _, ⟨T1, L1, k1, n1⟩, -, X1, ⟨Lc1, hQ1, l1, y1, z1⟩, st1⟩ := Jvm.LawKit.callS X0 hx (y := (⟨"com/example/clinch/clinch/broker/NoteKindOfPinLaw", "expected", "(I)Lcom/example/clinch/clinch/broker/NoteKind;"⟩ : MethodName)) hown (mvT hZ (hw _ (List.mem_of_getElem? (i := 1) rfl))) (mvT hZ (hw _ (List.mem_of_getElem? (i := 2) rfl))) (mvT hZ (hw _ (List.mem_of_getElem? (i := 3) rfl))) (mvT hZ (hw _ (List.mem_of_getElem? (i := 4) rfl))) (by decide) (backOf (W := 0) (rm1_5 l Z a0 hw [] w_ACK w__VALUES w_GROUP w_OPENED w_PUT w_SETTLED w_CHECKED w_PARKED cl_w__VALUES h0 n0 (own_n0 O0) O0 HW) hZ (hw _ (List.mem_of_getElem? (i := 4) rfl)) (hw _ (List.mem_of_getElem? (i := 3) rfl)) (by decide) (by decide)) (g := (mkF m 11 #[.val (.int p1), .val (.int (2 : Int32)), .unset, .unset] [(.int (2 : Int32))])) rfl (by rw [hml]; rfl) (argsL := [(.int (2 : Int32))]) (rest := []) (lenOf pd8 rfl) rfl (by show 2 * 0 + _ ≤ _; exact Nat.le_of_eq rfl) (hb hby at_11) (fun _ _ => ⟨rfl, e0, (by decide : 0 + 0 ≤ _), (by decide : 0 + 0 ≤ _)⟩)
  dsimp only [Pt.U, Pt.locs, Pt.cells, Pt.slots] at X1 l1 y1 z1 st1 hQ1
  subst l1 y1 z1
  obtain ⟨rfl, N1q, e1⟩ := hQ1
  have N1 := Fr.app N0 N1q
  obtain ⟨_, _, ⟨T2, L2, k2, n2⟩, -, X2, ⟨Lc2, hQ2, l2, y2, z2⟩, st2⟩ := Jvm.LawKit.callS X1 hx (y := (⟨"com/example/clinch/clinch/broker/NoteKind", "of", "(B)Lcom/example/clinch/clinch/broker/NoteKind;"⟩ : MethodName)) hown (mvT hZ (hw _ (List.mem_of_getElem? (i := 8) rfl))) (mvT hZ (hw _ (List.mem_of_getElem? (i := 9) rfl))) (mvT hZ (hw _ (List.mem_of_getElem? (i := 6) rfl))) (mvT hZ (hw _ (List.mem_of_getElem? (i := 10) rfl))) (by decide) (backOf (W := 0) (rm2_6 l Z a0 hw [] w_ACK w__VALUES w_GROUP w_OPENED w_PUT w_SETTLED w_CHECKED w_PARKED cl_w__VALUES h0 n0 (own_n0 O0) O0 HW) hZ (hw _ (List.mem_of_getElem? (i := 10) rfl)) (hw _ (List.mem_of_getElem? (i := 6) rfl)) (by decide) (by decide)) (g := (mkF m 17 #[.val (.int p1), .val (.int (2 : Int32)), .val (.ref w_GROUP), .unset] [(.int (2 : Int32))])) rfl (by rw [hml]; rfl) (argsL := [(.int (2 : Int32))]) (rest := []) (lenOf pd39 rfl) rfl (by show 2 * 0 + _ ≤ _; exact Nat.le_of_eq rfl) (hb hby at_17) (fun _ _ => ⟨rfl, e1, (by decide : 0 + 1 ≤ _), (by decide : 0 + 7 ≤ _)⟩)
  dsimp only [Pt.U, Pt.locs, Pt.cells, Pt.slots] at X2 l2 y2 z2 st2 hQ2
  subst l2 y2 z2
  obtain ⟨rfl, N2q, K2, O2, -⟩ := hQ2
  have N2 := Fr.app N1 N2q
  obtain ⟨cq3, kq3, q3a, q3b, q3c⟩ := isOf hZ rfl (E_w_GROUP.ext O2.2)
  obtain ⟨_, _, ⟨T3, L3, k3, n3⟩, -, X3, ⟨Lc3, hQ3, l3, y3, z3⟩, st3⟩ := X2.virtualBack hx (y := (⟨"com/example/clinch/clinch/broker/NoteKind", "code", "()B"⟩ : MethodName)) (z := (⟨"com/example/clinch/clinch/broker/NoteKind", "code", "()B"⟩ : MethodName)) hown (mvT hZ (hw _ (List.mem_of_getElem? (i := 34) rfl))) (mvT hZ (hw _ (List.mem_of_getElem? (i := 35) rfl))) (notFace_of_selects (args := #[]) (mvT hZ (hw _ (List.mem_of_getElem? (i := 37) rfl)))) (mvT hZ (hw _ (List.mem_of_getElem? (i := 37) rfl))) (mvT hZ (hw _ (List.mem_of_getElem? (i := 36) rfl))) (by decide) (backOf (W := 0) (rm4_7 l Z a0 hw [] w_ACK w__VALUES w_GROUP w_OPENED w_PUT w_SETTLED w_CHECKED w_PARKED cl_w__VALUES T2.heap n0 (own_n0 O2) O2 HW) hZ (hw _ (List.mem_of_getElem? (i := 38) rfl)) (hw _ (List.mem_of_getElem? (i := 6) rfl)) (by decide) (by decide)) q3a q3c (g := (mkF m 27 #[.val (.int p1), .val (.int (2 : Int32)), .val (.ref w_GROUP), .val (.ref w_GROUP)] [(.ref w_GROUP)])) rfl (by rw [hml]; rfl) (Steps.refl _) (argsL := []) (rest := []) (lenOf pd45 rfl) rfl (by show 2 * 0 + _ ≤ _; exact Nat.le_of_eq rfl) (hb hby at_27) (fun _ _ => ⟨rfl, rfl, (by decide : 1 + 0 ≤ _), (by decide : 7 + 0 ≤ _)⟩)
  dsimp only [Pt.U, Pt.locs, Pt.cells, Pt.slots] at X3 l3 y3 z3 st3 hQ3
  subst l3 y3 z3
  obtain ⟨rfl, N3q, e3⟩ := hQ3
  have N3 := Fr.app N2 N3q
  obtain ⟨fs, hr, hrun, hended, hW, hsame⟩ := X3.leave (v := some (.int (1 : Int32))) (fun h => by rw [Bd.returns] at h; cases h)
  refine ⟨_, _, pre0 _ ?_, hrun, hended, _, _, rfl, ?_, ⟨_, rfl⟩, hW, hsame.mono (by decide) (by decide)⟩
  · show Steps p.tables e below (s₁.setTop (mkF m 0 #[.val (.int p1), .unset, .unset, .unset] [])) _
    refine XS.iloadN X0.here hx rfl (hb hby at_0) rfl ?_
    show Steps p.tables e below (s₁.setTop (mkF m 1 #[.val (.int p1), .unset, .unset, .unset] [(.int p1)])) _
    refine X0.ldcInt hx hown (mvT hZ (hw _ (List.mem_of_getElem? (i := 0) rfl))) (g := (mkF m 1 #[.val (.int p1), .unset, .unset, .unset] [(.int p1)])) rfl (hb hby at_1) _ ?_
    show Steps p.tables e below (s₁.setTop (mkF m 3 #[.val (.int p1), .unset, .unset, .unset] [(.int (2147483647 : Int32)), (.int p1)])) _
    refine XS.iand X0.here hx rfl (hb hby at_3) rfl ?_
    show Steps p.tables e below (s₁.setTop (mkF m 4 #[.val (.int p1), .unset, .unset, .unset] [(.int (p1 &&& (2147483647 : Int32)))])) _
    refine XS.bipush X0.here hx rfl (hb hby at_4) ?_
    show Steps p.tables e below (s₁.setTop (mkF m 6 #[.val (.int p1), .unset, .unset, .unset] [(.int (7 : Int32)), (.int (p1 &&& (2147483647 : Int32)))])) _
    refine iremM X0 hx rfl (hb hby at_6) rfl (by decide) ?_
    rw [hk]
    show Steps p.tables e below (s₁.setTop (mkF m 7 #[.val (.int p1), .unset, .unset, .unset] [(.int (1 : Int32))])) _
    refine XS.iconst X0.here hx rfl (hb hby at_7) ?_
    show Steps p.tables e below (s₁.setTop (mkF m 8 #[.val (.int p1), .unset, .unset, .unset] [(.int (1 : Int32)), (.int (1 : Int32))])) _
    refine XS.iadd X0.here hx rfl (hb hby at_8) rfl ?_
    rw [show ((1 : Int32) + (1 : Int32)) = (2 : Int32) from by decide]
    show Steps p.tables e below (s₁.setTop (mkF m 9 #[.val (.int p1), .unset, .unset, .unset] [(.int (2 : Int32))])) _
    refine XS.istoreN X0.here hx rfl (hb hby at_9) rfl (l' := #[.val (.int p1), .val (.int (2 : Int32)), .unset, .unset]) rfl ?_
    show Steps p.tables e below (s₁.setTop (mkF m 10 #[.val (.int p1), .val (.int (2 : Int32)), .unset, .unset] [])) _
    refine XS.iloadN X0.here hx rfl (hb hby at_10) rfl ?_
    show Steps p.tables e below (s₁.setTop (mkF m 11 #[.val (.int p1), .val (.int (2 : Int32)), .unset, .unset] [(.int (2 : Int32))])) _
    refine st1 _ ?_
    show Steps p.tables e below (T1.setTop (mkF m 14 #[.val (.int p1), .val (.int (2 : Int32)), .unset, .unset] [(.ref w_GROUP)])) _
    refine XS.astoreN X1.here hx rfl (hb hby at_14) rfl rfl (l' := #[.val (.int p1), .val (.int (2 : Int32)), .val (.ref w_GROUP), .unset]) rfl ?_
    show Steps p.tables e below (T1.setTop (mkF m 15 #[.val (.int p1), .val (.int (2 : Int32)), .val (.ref w_GROUP), .unset] [])) _
    refine XS.iloadN X1.here hx rfl (hb hby at_15) rfl ?_
    show Steps p.tables e below (T1.setTop (mkF m 16 #[.val (.int p1), .val (.int (2 : Int32)), .val (.ref w_GROUP), .unset] [(.int (2 : Int32))])) _
    refine XS.i2b X1.here hx rfl (hb hby at_16) rfl ?_
    rw [show ((2 : Int32).toInt8.toInt32) = (2 : Int32) from by decide]
    show Steps p.tables e below (T1.setTop (mkF m 17 #[.val (.int p1), .val (.int (2 : Int32)), .val (.ref w_GROUP), .unset] [(.int (2 : Int32))])) _
    refine st2 _ ?_
    show Steps p.tables e below (T2.setTop (mkF m 20 #[.val (.int p1), .val (.int (2 : Int32)), .val (.ref w_GROUP), .unset] [(.ref w_GROUP)])) _
    refine XS.astoreN X2.here hx rfl (hb hby at_20) rfl rfl (l' := #[.val (.int p1), .val (.int (2 : Int32)), .val (.ref w_GROUP), .val (.ref w_GROUP)]) rfl ?_
    show Steps p.tables e below (T2.setTop (mkF m 21 #[.val (.int p1), .val (.int (2 : Int32)), .val (.ref w_GROUP), .val (.ref w_GROUP)] [])) _
    refine XS.aloadN X2.here hx rfl (hb hby at_21) rfl rfl ?_
    show Steps p.tables e below (T2.setTop (mkF m 22 #[.val (.int p1), .val (.int (2 : Int32)), .val (.ref w_GROUP), .val (.ref w_GROUP)] [(.ref w_GROUP)])) _
    refine XS.aloadN X2.here hx rfl (hb hby at_22) rfl rfl ?_
    show Steps p.tables e below (T2.setTop (mkF m 23 #[.val (.int p1), .val (.int (2 : Int32)), .val (.ref w_GROUP), .val (.ref w_GROUP)] [(.ref w_GROUP), (.ref w_GROUP)])) _
    refine Jvm.RoadKit.acmp (g := (mkF m 23 #[.val (.int p1), .val (.int (2 : Int32)), .val (.ref w_GROUP), .val (.ref w_GROUP)] [(.ref w_GROUP), (.ref w_GROUP)])) X2 hx rfl rfl rfl (pc0 := 23) (pc' := 26) (same := true) rfl (hb hby at_23) rfl (decide_eq_true rfl) (by decide) (by decide) ?_
    show Steps p.tables e below (T2.setTop (mkF m 26 #[.val (.int p1), .val (.int (2 : Int32)), .val (.ref w_GROUP), .val (.ref w_GROUP)] [])) _
    refine XS.aloadN X2.here hx rfl (hb hby at_26) rfl rfl ?_
    show Steps p.tables e below (T2.setTop (mkF m 27 #[.val (.int p1), .val (.int (2 : Int32)), .val (.ref w_GROUP), .val (.ref w_GROUP)] [(.ref w_GROUP)])) _
    refine st3.trans ?_
    show Steps p.tables e below (T3.setTop (mkF m 30 #[.val (.int p1), .val (.int (2 : Int32)), .val (.ref w_GROUP), .val (.ref w_GROUP)] [(.int (2 : Int32))])) _
    refine XS.iloadN X3.here hx rfl (hb hby at_30) rfl ?_
    show Steps p.tables e below (T3.setTop (mkF m 31 #[.val (.int p1), .val (.int (2 : Int32)), .val (.ref w_GROUP), .val (.ref w_GROUP)] [(.int (2 : Int32)), (.int (2 : Int32))])) _
    refine XS.i2b X3.here hx rfl (hb hby at_31) rfl ?_
    rw [show ((2 : Int32).toInt8.toInt32) = (2 : Int32) from by decide]
    show Steps p.tables e below (T3.setTop (mkF m 32 #[.val (.int p1), .val (.int (2 : Int32)), .val (.ref w_GROUP), .val (.ref w_GROUP)] [(.int (2 : Int32)), (.int (2 : Int32))])) _
    refine XS.icmpNo X3.here hx rfl (hb hby at_32) rfl (teq (by decide : (2 : Int32) = (2 : Int32))).2 ?_
    show Steps p.tables e below (T3.setTop (mkF m 35 #[.val (.int p1), .val (.int (2 : Int32)), .val (.ref w_GROUP), .val (.ref w_GROUP)] [])) _
    refine XS.iconst X3.here hx rfl (hb hby at_35) ?_
    show Steps p.tables e below (T3.setTop (mkF m 36 #[.val (.int p1), .val (.int (2 : Int32)), .val (.ref w_GROUP), .val (.ref w_GROUP)] [(.int (1 : Int32))])) _
    refine XS.goto X3.here hx rfl (pc0 := 36) (pc' := 40) rfl (hb hby at_36) (by decide) (by decide) ?_
    show Steps p.tables e below (T3.setTop (mkF m 40 #[.val (.int p1), .val (.int (2 : Int32)), .val (.ref w_GROUP), .val (.ref w_GROUP)] [(.int (1 : Int32))])) _
    exact retN X3 hx (t := .boolean) Bd.returns (by simp) (hb hby at_40) hr
  · exact ⟨rfl, N3⟩
theorem d1_18 : decode method_2_code 18 = .ok (.iload_n 0, 1) := by decide +kernel
theorem d1_19 : decode method_2_code 19 = .ok (.iconst 3, 1) := by decide +kernel
theorem d1_20 : decode method_2_code 20 = .ok (.if_icmp .ne 7, 3) := by decide +kernel
theorem d1_23 : decode method_2_code 23 = .ok (.getstatic 16, 3) := by decide +kernel
theorem d1_26 : decode method_2_code 26 = .ok (.areturn, 1) := by decide +kernel
def Q1_9 (Z : State) (w_ACK : Addr) (w__VALUES : Addr) (w_GROUP : Addr) (w_OPENED : Addr) (w_PUT : Addr) (w_SETTLED : Addr) (w_CHECKED : Addr) (w_PARKED : Addr) (cl_w__VALUES : Cell) (h0 : Heap) (n0 : Nat) (v : Option Value) (h : Heap) (L : List Loc) : Prop := v = some (.ref w_OPENED) ∧ Fr n0 L ∧ h = h0
set_option maxRecDepth 65536 in
set_option maxHeartbeats 40000000 in
theorem rm1_9 (l : Launch) (Z : State) (a0 : Array Value) (hw : ∀ d ∈ tables_1, d.before a0 Z = true) (ws : List Jvm.Cond) (w_ACK : Addr) (w__VALUES : Addr) (w_GROUP : Addr) (w_OPENED : Addr) (w_PUT : Addr) (w_SETTLED : Addr) (w_CHECKED : Addr) (w_PARKED : Addr) (cl_w__VALUES : Cell) (h0 : Heap) (n0 : Nat) (Z0 : n0 ≤ h0.size) (O0 : Old Z n0 h0) (HW : World Z w_ACK w__VALUES w_GROUP w_OPENED w_PUT w_SETTLED w_CHECKED w_PARKED cl_w__VALUES) :
    MetFree l (⟨"com/example/clinch/clinch/broker/NoteKindOfPinLaw", "expected", "(I)Lcom/example/clinch/clinch/broker/NoteKind;"⟩ : MethodName) (head1 (Jvm.Cond.code (⟨"com/example/clinch/clinch/broker/NoteKindOfPinLaw", "expected", "(I)Lcom/example/clinch/clinch/broker/NoteKind;"⟩ : MethodName) method_2_code 1 (some (.object "com/example/clinch/clinch/broker/NoteKind")) :: ws) ({ frames := 0, cells := 0, slots := 0, locals := 0 } : Room)) (fun a U => a = #[(.int (3 : Int32))] ∧ Z.Warmed39 U.vm ∧ U.heap = h0) (fun _ _ _ _ _ => True) (fun _ U o U' => ∃ v L, o = .returned v ∧ Q1_9 Z w_ACK w__VALUES w_GROUP w_OPENED w_PUT w_SETTLED w_CHECKED w_PARKED cl_w__VALUES h0 n0 v U'.heap L ∧ FrameEnd U o U' L ({ frames := 0, cells := 0, slots := 0, locals := 0 } : Room).cells ({ frames := 0, cells := 0, slots := 0, locals := 0 } : Room).slots) := by
  refine MetFree.of_bodySF (plainFor_of_name pn7) hisR ?_
  intro p e s m args below meth c s₁ Bd hml0 hP hK
  obtain ⟨rfl, hZ, hh⟩ := hP
  have hx := Bd.exec
  have hby := Bd.bytes
  have hml : c.maxLocals = 1 := hml0
  have hown : s.vm.findClass "com/example/clinch/clinch/broker/NoteKindOfPinLaw" = some m.cls := findClass_of_methodNamed Bd.named
  have hnm := (name_of_methodNamed Bd.named Bd.method).1
  have X0 : Stand p l e ({ frames := 0, cells := 0, slots := 0, locals := 0 } : Room) s m #[(.int (3 : Int32))] below meth c s₁ [] 0 0 := Stand.of_body Bd
  have e0 : s₁.heap = h0 := by rw [← hh, Bd.state]; rfl
  have N0 := Fr.nil n0
  have pre0 : ∀ t, Steps p.tables e below (s₁.setTop (mkF m 0 #[.val (.int (3 : Int32))] [])) t → Steps p.tables e below (s₁.setTop (entryFrame m #[(.int (3 : Int32))] 1)) t := fun t k => castTop (ef6 m (3 : Int32)) k
  obtain ⟨S_w_ACK, E_w_ACK, S_w__VALUES, E_w__VALUES, S_w_GROUP, E_w_GROUP, S_w_OPENED, E_w_OPENED, S_w_PUT, E_w_PUT, S_w_SETTLED, E_w_SETTLED, S_w_CHECKED, E_w_CHECKED, S_w_PARKED, E_w_PARKED, F_code_w_ACK, F_code_w_GROUP, F_code_w_OPENED, F_code_w_PUT, F_code_w_SETTLED, F_code_w_CHECKED, F_code_w_PARKED, Ar_w__VALUES, Sz_w__VALUES, At_w__VALUES_0, At_w__VALUES_1, At_w__VALUES_2, At_w__VALUES_3, At_w__VALUES_4, At_w__VALUES_5, At_w__VALUES_6, ne_w_ACK_w_GROUP, ne_w_ACK_w_OPENED, ne_w_ACK_w_PUT, ne_w_ACK_w_SETTLED, ne_w_ACK_w_CHECKED, ne_w_ACK_w_PARKED, ne_w_GROUP_w_OPENED, ne_w_GROUP_w_PUT, ne_w_GROUP_w_SETTLED, ne_w_GROUP_w_CHECKED, ne_w_GROUP_w_PARKED, ne_w_OPENED_w_PUT, ne_w_OPENED_w_SETTLED, ne_w_OPENED_w_CHECKED, ne_w_OPENED_w_PARKED, ne_w_PUT_w_SETTLED, ne_w_PUT_w_CHECKED, ne_w_PUT_w_PARKED, ne_w_SETTLED_w_CHECKED, ne_w_SETTLED_w_PARKED, ne_w_CHECKED_w_PARKED, V_w__VALUES, -⟩ := id HW
  obtain ⟨T1, X1, e1, st1⟩ := getS2 X0 hx hZ hown (host := "") (Or.inl (hw _ (List.mem_of_getElem? (i := 43) rfl))) Via.refl e0 (S_w_OPENED.ext O0.2) (g := (mkF m 23 #[.val (.int (3 : Int32))] [])) rfl (hb hby d1_23)
  obtain ⟨fs, hr, hrun, hended, hW, hsame⟩ := X1.leave (v := some (.ref w_OPENED)) (fun h => by rw [Bd.returns] at h; cases h)
  refine ⟨_, _, pre0 _ ?_, hrun, hended, _, _, rfl, ?_, ⟨_, rfl⟩, hW, hsame.mono (by decide) (by decide)⟩
  · show Steps p.tables e below (s₁.setTop (mkF m 0 #[.val (.int (3 : Int32))] [])) _
    refine XS.iloadN X0.here hx rfl (hb hby d1_0) rfl ?_
    show Steps p.tables e below (s₁.setTop (mkF m 1 #[.val (.int (3 : Int32))] [(.int (3 : Int32))])) _
    refine XS.iconst X0.here hx rfl (hb hby d1_1) ?_
    show Steps p.tables e below (s₁.setTop (mkF m 2 #[.val (.int (3 : Int32))] [(.int (1 : Int32)), (.int (3 : Int32))])) _
    refine XS.icmpYes X0.here hx rfl (pc0 := 2) (pc' := 9) rfl (hb hby d1_2) rfl (feq (by decide : ¬ ((3 : Int32) = (1 : Int32)))).2 (by decide) (by decide) ?_
    show Steps p.tables e below (s₁.setTop (mkF m 9 #[.val (.int (3 : Int32))] [])) _
    refine XS.iloadN X0.here hx rfl (hb hby d1_9) rfl ?_
    show Steps p.tables e below (s₁.setTop (mkF m 10 #[.val (.int (3 : Int32))] [(.int (3 : Int32))])) _
    refine XS.iconst X0.here hx rfl (hb hby d1_10) ?_
    show Steps p.tables e below (s₁.setTop (mkF m 11 #[.val (.int (3 : Int32))] [(.int (2 : Int32)), (.int (3 : Int32))])) _
    refine XS.icmpYes X0.here hx rfl (pc0 := 11) (pc' := 18) rfl (hb hby d1_11) rfl (feq (by decide : ¬ ((3 : Int32) = (2 : Int32)))).2 (by decide) (by decide) ?_
    show Steps p.tables e below (s₁.setTop (mkF m 18 #[.val (.int (3 : Int32))] [])) _
    refine XS.iloadN X0.here hx rfl (hb hby d1_18) rfl ?_
    show Steps p.tables e below (s₁.setTop (mkF m 19 #[.val (.int (3 : Int32))] [(.int (3 : Int32))])) _
    refine XS.iconst X0.here hx rfl (hb hby d1_19) ?_
    show Steps p.tables e below (s₁.setTop (mkF m 20 #[.val (.int (3 : Int32))] [(.int (3 : Int32)), (.int (3 : Int32))])) _
    refine XS.icmpNo X0.here hx rfl (hb hby d1_20) rfl (teq (by decide : (3 : Int32) = (3 : Int32))).2 ?_
    show Steps p.tables e below (s₁.setTop (mkF m 23 #[.val (.int (3 : Int32))] [])) _
    refine st1 _ ?_
    show Steps p.tables e below (T1.setTop (mkF m 26 #[.val (.int (3 : Int32))] [(.ref w_OPENED)])) _
    jvm_step X1.here [X1.here.top, hx, (hb hby d1_26), X1.method', Bd.returns, Value.isRef, FieldType.isReference]
    first | (intro acts; rw [hr _ acts rfl rfl rfl]) | rw [hr _ _ rfl rfl rfl]
    exact Steps.refl _
  · exact ⟨rfl, N0, e1⟩
def Q2_10 (Z : State) (w_ACK : Addr) (w__VALUES : Addr) (w_GROUP : Addr) (w_OPENED : Addr) (w_PUT : Addr) (w_SETTLED : Addr) (w_CHECKED : Addr) (w_PARKED : Addr) (cl_w__VALUES : Cell) (h0 : Heap) (n0 : Nat) (v : Option Value) (h : Heap) (L : List Loc) : Prop := v = some (.ref w_OPENED) ∧ Fr n0 L ∧ Keep h0 h [] ∧ Old Z n0 h ∧ True
set_option maxRecDepth 65536 in
set_option maxHeartbeats 40000000 in
theorem rm2_10 (l : Launch) (Z : State) (a0 : Array Value) (hw : ∀ d ∈ tables_1, d.before a0 Z = true) (ws : List Jvm.Cond) (w_ACK : Addr) (w__VALUES : Addr) (w_GROUP : Addr) (w_OPENED : Addr) (w_PUT : Addr) (w_SETTLED : Addr) (w_CHECKED : Addr) (w_PARKED : Addr) (cl_w__VALUES : Cell) (h0 : Heap) (n0 : Nat) (Z0 : n0 ≤ h0.size) (O0 : Old Z n0 h0) (HW : World Z w_ACK w__VALUES w_GROUP w_OPENED w_PUT w_SETTLED w_CHECKED w_PARKED cl_w__VALUES) :
    MetFree l (⟨"com/example/clinch/clinch/broker/NoteKind", "of", "(B)Lcom/example/clinch/clinch/broker/NoteKind;"⟩ : MethodName) (head1 (Jvm.Cond.code (⟨"com/example/clinch/clinch/broker/NoteKind", "of", "(B)Lcom/example/clinch/clinch/broker/NoteKind;"⟩ : MethodName) prog_7_method_5_code 5 (some (.object "com/example/clinch/clinch/broker/NoteKind")) :: ws) ({ frames := 2, cells := 1, slots := 7, locals := 25 } : Room)) (fun a U => a = #[(.int (3 : Int32))] ∧ Z.Warmed39 U.vm ∧ U.heap = h0) (fun _ _ _ _ _ => True) (fun _ U o U' => ∃ v L, o = .returned v ∧ Q2_10 Z w_ACK w__VALUES w_GROUP w_OPENED w_PUT w_SETTLED w_CHECKED w_PARKED cl_w__VALUES h0 n0 v U'.heap L ∧ FrameEnd U o U' L ({ frames := 2, cells := 1, slots := 7, locals := 25 } : Room).cells ({ frames := 2, cells := 1, slots := 7, locals := 25 } : Room).slots) := by
  refine MetFree.of_bodySF (plainFor_of_name pn15) hisR ?_
  intro p e s m args below meth c s₁ Bd hml0 hP hK
  obtain ⟨rfl, hZ, hh⟩ := hP
  have hx := Bd.exec
  have hby := Bd.bytes
  have hml : c.maxLocals = 5 := hml0
  have hown : s.vm.findClass "com/example/clinch/clinch/broker/NoteKind" = some m.cls := findClass_of_methodNamed Bd.named
  have hnm := (name_of_methodNamed Bd.named Bd.method).1
  have X0 : Stand p l e ({ frames := 2, cells := 1, slots := 7, locals := 25 } : Room) s m #[(.int (3 : Int32))] below meth c s₁ [] 0 0 := Stand.of_body Bd
  have e0 : s₁.heap = h0 := by rw [← hh, Bd.state]; rfl
  have N0 := Fr.nil n0
  have pre0 : ∀ t, Steps p.tables e below (s₁.setTop (mkF m 0 #[.val (.int (3 : Int32)), .unset, .unset, .unset, .unset] [])) t → Steps p.tables e below (s₁.setTop (entryFrame m #[(.int (3 : Int32))] 5)) t := fun t k => castTop (ef38 m (3 : Int32)) k
  obtain ⟨S_w_ACK, E_w_ACK, S_w__VALUES, E_w__VALUES, S_w_GROUP, E_w_GROUP, S_w_OPENED, E_w_OPENED, S_w_PUT, E_w_PUT, S_w_SETTLED, E_w_SETTLED, S_w_CHECKED, E_w_CHECKED, S_w_PARKED, E_w_PARKED, F_code_w_ACK, F_code_w_GROUP, F_code_w_OPENED, F_code_w_PUT, F_code_w_SETTLED, F_code_w_CHECKED, F_code_w_PARKED, Ar_w__VALUES, Sz_w__VALUES, At_w__VALUES_0, At_w__VALUES_1, At_w__VALUES_2, At_w__VALUES_3, At_w__VALUES_4, At_w__VALUES_5, At_w__VALUES_6, ne_w_ACK_w_GROUP, ne_w_ACK_w_OPENED, ne_w_ACK_w_PUT, ne_w_ACK_w_SETTLED, ne_w_ACK_w_CHECKED, ne_w_ACK_w_PARKED, ne_w_GROUP_w_OPENED, ne_w_GROUP_w_PUT, ne_w_GROUP_w_SETTLED, ne_w_GROUP_w_CHECKED, ne_w_GROUP_w_PARKED, ne_w_OPENED_w_PUT, ne_w_OPENED_w_SETTLED, ne_w_OPENED_w_CHECKED, ne_w_OPENED_w_PARKED, ne_w_PUT_w_SETTLED, ne_w_PUT_w_CHECKED, ne_w_PUT_w_PARKED, ne_w_SETTLED_w_CHECKED, ne_w_SETTLED_w_PARKED, ne_w_CHECKED_w_PARKED, V_w__VALUES, -⟩ := id HW
  obtain ⟨_, _, ⟨T1, L1, k1, n1⟩, -, X1, ⟨Lc1, hQ1, l1, y1, z1⟩, st1⟩ := Jvm.LawKit.callS X0 hx (y := (⟨"com/example/clinch/clinch/broker/NoteKind", "values", "()[Lcom/example/clinch/clinch/broker/NoteKind;"⟩ : MethodName)) hown (mvT hZ (hw _ (List.mem_of_getElem? (i := 11) rfl))) (mvT hZ (hw _ (List.mem_of_getElem? (i := 12) rfl))) (mvT hZ (hw _ (List.mem_of_getElem? (i := 6) rfl))) (mvT hZ (hw _ (List.mem_of_getElem? (i := 13) rfl))) (by decide) (backOf (W := 0) (rm3_1 l Z a0 hw [] w_ACK w__VALUES w_GROUP w_OPENED w_PUT w_SETTLED w_CHECKED w_PARKED cl_w__VALUES h0 n0 (own_n0 O0) O0 HW) hZ (hw _ (List.mem_of_getElem? (i := 13) rfl)) (hw _ (List.mem_of_getElem? (i := 6) rfl)) (by decide) (by decide)) (g := (mkF m 0 #[.val (.int (3 : Int32)), .unset, .unset, .unset, .unset] [])) rfl (by rw [hml]; rfl) (argsL := []) (rest := []) (lenOf pd16 rfl) rfl (by show 2 * 0 + _ ≤ _; exact Nat.le_of_eq rfl) (hb hby d2_0) (fun _ _ => ⟨rfl, e0, (by decide : 0 + 1 ≤ _), (by decide : 0 + 7 ≤ _)⟩)
  dsimp only [Pt.U, Pt.locs, Pt.cells, Pt.slots] at X1 l1 y1 z1 st1 hQ1
  subst l1 y1 z1
  obtain ⟨b1_0, fk1_0, rfl, N1q, K1, O1, pz_b1_0, pf1_0, pf1_1, -⟩ := hQ1
  have bo_b1_0 : h0.size ≤ b1_0 := pz_b1_0
  have g_b1_0 : n0 ≤ b1_0 := Nat.le_trans (own_n0 O0) bo_b1_0
  have sz_b1_0 : h0.size ≤ b1_0 := Nat.le_trans (Keep.refl h0 []).1 bo_b1_0
  have KK1 : Keep h0 T1.heap [] := (Keep.refl h0 []).trans K1 all0
  have N1 := Fr.app N0 N1q
  obtain ⟨ac2, aA2, aq2, aS2, aN2, aH2, aG2⟩ := id pf1_1
  obtain ⟨ac3, aA3, aq3, aS3, aN3, aH3, aG3⟩ := id pf1_1
  obtain ⟨T4, X4, e4, st4⟩ := getF X1 hx hZ hown (host := "") (Or.inl (hw _ (List.mem_of_getElem? (i := 32) rfl))) Via.refl rfl (F_code_w_ACK.ext O1.2) (g := (mkF m 21 #[.val (.int (3 : Int32)), .val (.ref b1_0), .val (.int (7 : Int32)), .val (.int (0 : Int32)), .val (.ref w_ACK)] [(.ref w_ACK)])) rfl rfl (hb hby d2_21)
  obtain ⟨ac5, aA5, aq5, aS5, aN5, aH5, aG5⟩ := id pf1_1
  obtain ⟨T6, X6, e6, st6⟩ := getF X4 hx hZ hown (host := "") (Or.inl (hw _ (List.mem_of_getElem? (i := 32) rfl))) Via.refl e4 (F_code_w_GROUP.ext O1.2) (g := (mkF m 21 #[.val (.int (3 : Int32)), .val (.ref b1_0), .val (.int (7 : Int32)), .val (.int (1 : Int32)), .val (.ref w_GROUP)] [(.ref w_GROUP)])) rfl rfl (hb hby d2_21)
  obtain ⟨ac7, aA7, aq7, aS7, aN7, aH7, aG7⟩ := id pf1_1
  obtain ⟨T8, X8, e8, st8⟩ := getF X6 hx hZ hown (host := "") (Or.inl (hw _ (List.mem_of_getElem? (i := 32) rfl))) Via.refl e6 (F_code_w_OPENED.ext O1.2) (g := (mkF m 21 #[.val (.int (3 : Int32)), .val (.ref b1_0), .val (.int (7 : Int32)), .val (.int (2 : Int32)), .val (.ref w_OPENED)] [(.ref w_OPENED)])) rfl rfl (hb hby d2_21)
  obtain ⟨fs, hr, hrun, hended, hW, hsame⟩ := X8.leave (v := some (.ref w_OPENED)) (fun h => by rw [Bd.returns] at h; cases h)
  refine ⟨_, _, pre0 _ ?_, hrun, hended, _, _, rfl, ?_, ⟨_, rfl⟩, hW, hsame.mono (by decide) (by decide)⟩
  · show Steps p.tables e below (s₁.setTop (mkF m 0 #[.val (.int (3 : Int32)), .unset, .unset, .unset, .unset] [])) _
    refine st1 _ ?_
    show Steps p.tables e below (T1.setTop (mkF m 3 #[.val (.int (3 : Int32)), .unset, .unset, .unset, .unset] [(.ref b1_0)])) _
    refine XS.astoreN X1.here hx rfl (hb hby d2_3) rfl rfl (l' := #[.val (.int (3 : Int32)), .val (.ref b1_0), .unset, .unset, .unset]) rfl ?_
    show Steps p.tables e below (T1.setTop (mkF m 4 #[.val (.int (3 : Int32)), .val (.ref b1_0), .unset, .unset, .unset] [])) _
    refine XS.aloadN X1.here hx rfl (hb hby d2_4) rfl rfl ?_
    show Steps p.tables e below (T1.setTop (mkF m 5 #[.val (.int (3 : Int32)), .val (.ref b1_0), .unset, .unset, .unset] [(.ref b1_0)])) _
    refine X1.arraylength hx aA2.1 (State.isArrayOf_alike hZ.alike aA2.2.1) (g := (mkF m 5 #[.val (.int (3 : Int32)), .val (.ref b1_0), .unset, .unset, .unset] [(.ref b1_0)])) rfl rfl (hb hby d2_5) _ ?_
    rw [len_of aS2 aN2]
    show Steps p.tables e below (T1.setTop (mkF m 6 #[.val (.int (3 : Int32)), .val (.ref b1_0), .unset, .unset, .unset] [(.int (7 : Int32))])) _
    refine XS.istoreN X1.here hx rfl (hb hby d2_6) rfl (l' := #[.val (.int (3 : Int32)), .val (.ref b1_0), .val (.int (7 : Int32)), .unset, .unset]) rfl ?_
    show Steps p.tables e below (T1.setTop (mkF m 7 #[.val (.int (3 : Int32)), .val (.ref b1_0), .val (.int (7 : Int32)), .unset, .unset] [])) _
    refine XS.iconst X1.here hx rfl (hb hby d2_7) ?_
    show Steps p.tables e below (T1.setTop (mkF m 8 #[.val (.int (3 : Int32)), .val (.ref b1_0), .val (.int (7 : Int32)), .unset, .unset] [(.int (0 : Int32))])) _
    refine XS.istoreN X1.here hx rfl (hb hby d2_8) rfl (l' := #[.val (.int (3 : Int32)), .val (.ref b1_0), .val (.int (7 : Int32)), .val (.int (0 : Int32)), .unset]) rfl ?_
    show Steps p.tables e below (T1.setTop (mkF m 9 #[.val (.int (3 : Int32)), .val (.ref b1_0), .val (.int (7 : Int32)), .val (.int (0 : Int32)), .unset] [])) _
    refine XS.iloadN X1.here hx rfl (hb hby d2_9) rfl ?_
    show Steps p.tables e below (T1.setTop (mkF m 10 #[.val (.int (3 : Int32)), .val (.ref b1_0), .val (.int (7 : Int32)), .val (.int (0 : Int32)), .unset] [(.int (0 : Int32))])) _
    refine XS.iloadN X1.here hx rfl (hb hby d2_10) rfl ?_
    show Steps p.tables e below (T1.setTop (mkF m 11 #[.val (.int (3 : Int32)), .val (.ref b1_0), .val (.int (7 : Int32)), .val (.int (0 : Int32)), .unset] [(.int (7 : Int32)), (.int (0 : Int32))])) _
    refine XS.icmpNo X1.here hx rfl (hb hby d2_11) rfl (tlt (by decide : (0 : Int32) < (7 : Int32))).2.1 ?_
    show Steps p.tables e below (T1.setTop (mkF m 14 #[.val (.int (3 : Int32)), .val (.ref b1_0), .val (.int (7 : Int32)), .val (.int (0 : Int32)), .unset] [])) _
    refine XS.aloadN X1.here hx rfl (hb hby d2_14) rfl rfl ?_
    show Steps p.tables e below (T1.setTop (mkF m 15 #[.val (.int (3 : Int32)), .val (.ref b1_0), .val (.int (7 : Int32)), .val (.int (0 : Int32)), .unset] [(.ref b1_0)])) _
    refine XS.iloadN X1.here hx rfl (hb hby d2_15) rfl ?_
    show Steps p.tables e below (T1.setTop (mkF m 16 #[.val (.int (3 : Int32)), .val (.ref b1_0), .val (.int (7 : Int32)), .val (.int (0 : Int32)), .unset] [(.int (0 : Int32)), (.ref b1_0)])) _
    refine X1.aaload hx (j := (0 : Int32)) (v := (.ref w_ACK)) aA3.1 (State.isArrayOf_alike hZ.alike aA3.2.1) rfl aA3.2.2 (inb_of aS3 ⟨by decide, by decide⟩) (aH3.at (inb_of aS3 ⟨by decide, by decide⟩) rfl) (g := (mkF m 16 #[.val (.int (3 : Int32)), .val (.ref b1_0), .val (.int (7 : Int32)), .val (.int (0 : Int32)), .unset] [(.int (0 : Int32)), (.ref b1_0)])) rfl rfl (hb hby d2_16) _ ?_
    show Steps p.tables e below (T1.setTop (mkF m 17 #[.val (.int (3 : Int32)), .val (.ref b1_0), .val (.int (7 : Int32)), .val (.int (0 : Int32)), .unset] [(.ref w_ACK)])) _
    refine XS.astore X1.here hx rfl (hb hby d2_17) rfl rfl (l' := #[.val (.int (3 : Int32)), .val (.ref b1_0), .val (.int (7 : Int32)), .val (.int (0 : Int32)), .val (.ref w_ACK)]) rfl ?_
    show Steps p.tables e below (T1.setTop (mkF m 19 #[.val (.int (3 : Int32)), .val (.ref b1_0), .val (.int (7 : Int32)), .val (.int (0 : Int32)), .val (.ref w_ACK)] [])) _
    refine XS.aload X1.here hx rfl (hb hby d2_19) rfl rfl ?_
    show Steps p.tables e below (T1.setTop (mkF m 21 #[.val (.int (3 : Int32)), .val (.ref b1_0), .val (.int (7 : Int32)), .val (.int (0 : Int32)), .val (.ref w_ACK)] [(.ref w_ACK)])) _
    refine st4 _ ?_
    show Steps p.tables e below (T4.setTop (mkF m 24 #[.val (.int (3 : Int32)), .val (.ref b1_0), .val (.int (7 : Int32)), .val (.int (0 : Int32)), .val (.ref w_ACK)] [(.int (1 : Int32))])) _
    refine XS.iloadN X4.here hx rfl (hb hby d2_24) rfl ?_
    show Steps p.tables e below (T4.setTop (mkF m 25 #[.val (.int (3 : Int32)), .val (.ref b1_0), .val (.int (7 : Int32)), .val (.int (0 : Int32)), .val (.ref w_ACK)] [(.int (3 : Int32)), (.int (1 : Int32))])) _
    refine XS.icmpYes X4.here hx rfl (pc0 := 25) (pc' := 31) rfl (hb hby d2_25) rfl (feq (by decide : ¬ ((1 : Int32) = (3 : Int32)))).2 (by decide) (by decide) ?_
    show Steps p.tables e below (T4.setTop (mkF m 31 #[.val (.int (3 : Int32)), .val (.ref b1_0), .val (.int (7 : Int32)), .val (.int (0 : Int32)), .val (.ref w_ACK)] [])) _
    refine XS.iinc X4.here hx rfl (hb hby d2_31) rfl (l' := #[.val (.int (3 : Int32)), .val (.ref b1_0), .val (.int (7 : Int32)), .val (.int ((0 : Int32) + (1 : Int32))), .val (.ref w_ACK)]) rfl ?_
    rw [show ((0 : Int32) + (1 : Int32)) = (1 : Int32) from by decide]
    show Steps p.tables e below (T4.setTop (mkF m 34 #[.val (.int (3 : Int32)), .val (.ref b1_0), .val (.int (7 : Int32)), .val (.int (1 : Int32)), .val (.ref w_ACK)] [])) _
    refine XS.goto X4.here hx rfl (pc0 := 34) (pc' := 9) rfl (hb hby d2_34) (by decide) (by decide) ?_
    show Steps p.tables e below (T4.setTop (mkF m 9 #[.val (.int (3 : Int32)), .val (.ref b1_0), .val (.int (7 : Int32)), .val (.int (1 : Int32)), .val (.ref w_ACK)] [])) _
    refine XS.iloadN X4.here hx rfl (hb hby d2_9) rfl ?_
    show Steps p.tables e below (T4.setTop (mkF m 10 #[.val (.int (3 : Int32)), .val (.ref b1_0), .val (.int (7 : Int32)), .val (.int (1 : Int32)), .val (.ref w_ACK)] [(.int (1 : Int32))])) _
    refine XS.iloadN X4.here hx rfl (hb hby d2_10) rfl ?_
    show Steps p.tables e below (T4.setTop (mkF m 11 #[.val (.int (3 : Int32)), .val (.ref b1_0), .val (.int (7 : Int32)), .val (.int (1 : Int32)), .val (.ref w_ACK)] [(.int (7 : Int32)), (.int (1 : Int32))])) _
    refine XS.icmpNo X4.here hx rfl (hb hby d2_11) rfl (tlt (by decide : (1 : Int32) < (7 : Int32))).2.1 ?_
    show Steps p.tables e below (T4.setTop (mkF m 14 #[.val (.int (3 : Int32)), .val (.ref b1_0), .val (.int (7 : Int32)), .val (.int (1 : Int32)), .val (.ref w_ACK)] [])) _
    refine XS.aloadN X4.here hx rfl (hb hby d2_14) rfl rfl ?_
    show Steps p.tables e below (T4.setTop (mkF m 15 #[.val (.int (3 : Int32)), .val (.ref b1_0), .val (.int (7 : Int32)), .val (.int (1 : Int32)), .val (.ref w_ACK)] [(.ref b1_0)])) _
    refine XS.iloadN X4.here hx rfl (hb hby d2_15) rfl ?_
    show Steps p.tables e below (T4.setTop (mkF m 16 #[.val (.int (3 : Int32)), .val (.ref b1_0), .val (.int (7 : Int32)), .val (.int (1 : Int32)), .val (.ref w_ACK)] [(.int (1 : Int32)), (.ref b1_0)])) _
    refine X4.aaload hx (j := (1 : Int32)) (v := (.ref w_GROUP)) (by rw [e4]; exact aA5.1) (State.isArrayOf_alike hZ.alike aA5.2.1) rfl aA5.2.2 (inb_of aS5 ⟨by decide, by decide⟩) (aH5.at (inb_of aS5 ⟨by decide, by decide⟩) rfl) (g := (mkF m 16 #[.val (.int (3 : Int32)), .val (.ref b1_0), .val (.int (7 : Int32)), .val (.int (1 : Int32)), .val (.ref w_ACK)] [(.int (1 : Int32)), (.ref b1_0)])) rfl rfl (hb hby d2_16) _ ?_
    show Steps p.tables e below (T4.setTop (mkF m 17 #[.val (.int (3 : Int32)), .val (.ref b1_0), .val (.int (7 : Int32)), .val (.int (1 : Int32)), .val (.ref w_ACK)] [(.ref w_GROUP)])) _
    refine XS.astore X4.here hx rfl (hb hby d2_17) rfl rfl (l' := #[.val (.int (3 : Int32)), .val (.ref b1_0), .val (.int (7 : Int32)), .val (.int (1 : Int32)), .val (.ref w_GROUP)]) rfl ?_
    show Steps p.tables e below (T4.setTop (mkF m 19 #[.val (.int (3 : Int32)), .val (.ref b1_0), .val (.int (7 : Int32)), .val (.int (1 : Int32)), .val (.ref w_GROUP)] [])) _
    refine XS.aload X4.here hx rfl (hb hby d2_19) rfl rfl ?_
    show Steps p.tables e below (T4.setTop (mkF m 21 #[.val (.int (3 : Int32)), .val (.ref b1_0), .val (.int (7 : Int32)), .val (.int (1 : Int32)), .val (.ref w_GROUP)] [(.ref w_GROUP)])) _
    refine st6 _ ?_
    show Steps p.tables e below (T6.setTop (mkF m 24 #[.val (.int (3 : Int32)), .val (.ref b1_0), .val (.int (7 : Int32)), .val (.int (1 : Int32)), .val (.ref w_GROUP)] [(.int (2 : Int32))])) _
    refine XS.iloadN X6.here hx rfl (hb hby d2_24) rfl ?_
    show Steps p.tables e below (T6.setTop (mkF m 25 #[.val (.int (3 : Int32)), .val (.ref b1_0), .val (.int (7 : Int32)), .val (.int (1 : Int32)), .val (.ref w_GROUP)] [(.int (3 : Int32)), (.int (2 : Int32))])) _
    refine XS.icmpYes X6.here hx rfl (pc0 := 25) (pc' := 31) rfl (hb hby d2_25) rfl (feq (by decide : ¬ ((2 : Int32) = (3 : Int32)))).2 (by decide) (by decide) ?_
    show Steps p.tables e below (T6.setTop (mkF m 31 #[.val (.int (3 : Int32)), .val (.ref b1_0), .val (.int (7 : Int32)), .val (.int (1 : Int32)), .val (.ref w_GROUP)] [])) _
    refine XS.iinc X6.here hx rfl (hb hby d2_31) rfl (l' := #[.val (.int (3 : Int32)), .val (.ref b1_0), .val (.int (7 : Int32)), .val (.int ((1 : Int32) + (1 : Int32))), .val (.ref w_GROUP)]) rfl ?_
    rw [show ((1 : Int32) + (1 : Int32)) = (2 : Int32) from by decide]
    show Steps p.tables e below (T6.setTop (mkF m 34 #[.val (.int (3 : Int32)), .val (.ref b1_0), .val (.int (7 : Int32)), .val (.int (2 : Int32)), .val (.ref w_GROUP)] [])) _
    refine XS.goto X6.here hx rfl (pc0 := 34) (pc' := 9) rfl (hb hby d2_34) (by decide) (by decide) ?_
    show Steps p.tables e below (T6.setTop (mkF m 9 #[.val (.int (3 : Int32)), .val (.ref b1_0), .val (.int (7 : Int32)), .val (.int (2 : Int32)), .val (.ref w_GROUP)] [])) _
    refine XS.iloadN X6.here hx rfl (hb hby d2_9) rfl ?_
    show Steps p.tables e below (T6.setTop (mkF m 10 #[.val (.int (3 : Int32)), .val (.ref b1_0), .val (.int (7 : Int32)), .val (.int (2 : Int32)), .val (.ref w_GROUP)] [(.int (2 : Int32))])) _
    refine XS.iloadN X6.here hx rfl (hb hby d2_10) rfl ?_
    show Steps p.tables e below (T6.setTop (mkF m 11 #[.val (.int (3 : Int32)), .val (.ref b1_0), .val (.int (7 : Int32)), .val (.int (2 : Int32)), .val (.ref w_GROUP)] [(.int (7 : Int32)), (.int (2 : Int32))])) _
    refine XS.icmpNo X6.here hx rfl (hb hby d2_11) rfl (tlt (by decide : (2 : Int32) < (7 : Int32))).2.1 ?_
    show Steps p.tables e below (T6.setTop (mkF m 14 #[.val (.int (3 : Int32)), .val (.ref b1_0), .val (.int (7 : Int32)), .val (.int (2 : Int32)), .val (.ref w_GROUP)] [])) _
    refine XS.aloadN X6.here hx rfl (hb hby d2_14) rfl rfl ?_
    show Steps p.tables e below (T6.setTop (mkF m 15 #[.val (.int (3 : Int32)), .val (.ref b1_0), .val (.int (7 : Int32)), .val (.int (2 : Int32)), .val (.ref w_GROUP)] [(.ref b1_0)])) _
    refine XS.iloadN X6.here hx rfl (hb hby d2_15) rfl ?_
    show Steps p.tables e below (T6.setTop (mkF m 16 #[.val (.int (3 : Int32)), .val (.ref b1_0), .val (.int (7 : Int32)), .val (.int (2 : Int32)), .val (.ref w_GROUP)] [(.int (2 : Int32)), (.ref b1_0)])) _
    refine X6.aaload hx (j := (2 : Int32)) (v := (.ref w_OPENED)) (by rw [e6]; exact aA7.1) (State.isArrayOf_alike hZ.alike aA7.2.1) rfl aA7.2.2 (inb_of aS7 ⟨by decide, by decide⟩) (aH7.at (inb_of aS7 ⟨by decide, by decide⟩) rfl) (g := (mkF m 16 #[.val (.int (3 : Int32)), .val (.ref b1_0), .val (.int (7 : Int32)), .val (.int (2 : Int32)), .val (.ref w_GROUP)] [(.int (2 : Int32)), (.ref b1_0)])) rfl rfl (hb hby d2_16) _ ?_
    show Steps p.tables e below (T6.setTop (mkF m 17 #[.val (.int (3 : Int32)), .val (.ref b1_0), .val (.int (7 : Int32)), .val (.int (2 : Int32)), .val (.ref w_GROUP)] [(.ref w_OPENED)])) _
    refine XS.astore X6.here hx rfl (hb hby d2_17) rfl rfl (l' := #[.val (.int (3 : Int32)), .val (.ref b1_0), .val (.int (7 : Int32)), .val (.int (2 : Int32)), .val (.ref w_OPENED)]) rfl ?_
    show Steps p.tables e below (T6.setTop (mkF m 19 #[.val (.int (3 : Int32)), .val (.ref b1_0), .val (.int (7 : Int32)), .val (.int (2 : Int32)), .val (.ref w_OPENED)] [])) _
    refine XS.aload X6.here hx rfl (hb hby d2_19) rfl rfl ?_
    show Steps p.tables e below (T6.setTop (mkF m 21 #[.val (.int (3 : Int32)), .val (.ref b1_0), .val (.int (7 : Int32)), .val (.int (2 : Int32)), .val (.ref w_OPENED)] [(.ref w_OPENED)])) _
    refine st8 _ ?_
    show Steps p.tables e below (T8.setTop (mkF m 24 #[.val (.int (3 : Int32)), .val (.ref b1_0), .val (.int (7 : Int32)), .val (.int (2 : Int32)), .val (.ref w_OPENED)] [(.int (3 : Int32))])) _
    refine XS.iloadN X8.here hx rfl (hb hby d2_24) rfl ?_
    show Steps p.tables e below (T8.setTop (mkF m 25 #[.val (.int (3 : Int32)), .val (.ref b1_0), .val (.int (7 : Int32)), .val (.int (2 : Int32)), .val (.ref w_OPENED)] [(.int (3 : Int32)), (.int (3 : Int32))])) _
    refine XS.icmpNo X8.here hx rfl (hb hby d2_25) rfl (teq (by decide : (3 : Int32) = (3 : Int32))).2 ?_
    show Steps p.tables e below (T8.setTop (mkF m 28 #[.val (.int (3 : Int32)), .val (.ref b1_0), .val (.int (7 : Int32)), .val (.int (2 : Int32)), .val (.ref w_OPENED)] [])) _
    refine XS.aload X8.here hx rfl (hb hby d2_28) rfl rfl ?_
    show Steps p.tables e below (T8.setTop (mkF m 30 #[.val (.int (3 : Int32)), .val (.ref b1_0), .val (.int (7 : Int32)), .val (.int (2 : Int32)), .val (.ref w_OPENED)] [(.ref w_OPENED)])) _
    jvm_step X8.here [X8.here.top, hx, (hb hby d2_30), X8.method', Bd.returns, Value.isRef, FieldType.isReference]
    first | (intro acts; rw [hr _ acts rfl rfl rfl]) | rw [hr _ _ rfl rfl rfl]
    exact Steps.refl _
  · have eH : (T8.setFrames fs).heap = T1.heap := e8; rw [eH]; exact ⟨rfl, N1, KK1, O1, trivial⟩
def Q4_11 (Z : State) (w_ACK : Addr) (w__VALUES : Addr) (w_GROUP : Addr) (w_OPENED : Addr) (w_PUT : Addr) (w_SETTLED : Addr) (w_CHECKED : Addr) (w_PARKED : Addr) (cl_w__VALUES : Cell) (h0 : Heap) (n0 : Nat) (v : Option Value) (h : Heap) (L : List Loc) : Prop := v = some (.int (3 : Int32)) ∧ Fr n0 L ∧ h = h0
set_option maxRecDepth 65536 in
set_option maxHeartbeats 40000000 in
theorem rm4_11 (l : Launch) (Z : State) (a0 : Array Value) (hw : ∀ d ∈ tables_1, d.before a0 Z = true) (ws : List Jvm.Cond) (w_ACK : Addr) (w__VALUES : Addr) (w_GROUP : Addr) (w_OPENED : Addr) (w_PUT : Addr) (w_SETTLED : Addr) (w_CHECKED : Addr) (w_PARKED : Addr) (cl_w__VALUES : Cell) (h0 : Heap) (n0 : Nat) (Z0 : n0 ≤ h0.size) (O0 : Old Z n0 h0) (HW : World Z w_ACK w__VALUES w_GROUP w_OPENED w_PUT w_SETTLED w_CHECKED w_PARKED cl_w__VALUES) :
    MetFree l (⟨"com/example/clinch/clinch/broker/NoteKind", "code", "()B"⟩ : MethodName) (head1 (Jvm.Cond.code (⟨"com/example/clinch/clinch/broker/NoteKind", "code", "()B"⟩ : MethodName) prog_7_method_4_code 1 (some .byte) :: ws) ({ frames := 0, cells := 0, slots := 0, locals := 0 } : Room)) (fun a U => a = #[(.ref w_OPENED)] ∧ Z.Warmed39 U.vm ∧ U.heap = h0) (fun _ _ _ _ _ => True) (fun _ U o U' => ∃ v L, o = .returned v ∧ Q4_11 Z w_ACK w__VALUES w_GROUP w_OPENED w_PUT w_SETTLED w_CHECKED w_PARKED cl_w__VALUES h0 n0 v U'.heap L ∧ FrameEnd U o U' L ({ frames := 0, cells := 0, slots := 0, locals := 0 } : Room).cells ({ frames := 0, cells := 0, slots := 0, locals := 0 } : Room).slots) := by
  refine MetFree.of_bodySF (plainFor_of_name pn15) hisR ?_
  intro p e s m args below meth c s₁ Bd hml0 hP hK
  obtain ⟨rfl, hZ, hh⟩ := hP
  have hx := Bd.exec
  have hby := Bd.bytes
  have hml : c.maxLocals = 1 := hml0
  have hown : s.vm.findClass "com/example/clinch/clinch/broker/NoteKind" = some m.cls := findClass_of_methodNamed Bd.named
  have hnm := (name_of_methodNamed Bd.named Bd.method).1
  have X0 : Stand p l e ({ frames := 0, cells := 0, slots := 0, locals := 0 } : Room) s m #[(.ref w_OPENED)] below meth c s₁ [] 0 0 := Stand.of_body Bd
  have e0 : s₁.heap = h0 := by rw [← hh, Bd.state]; rfl
  have N0 := Fr.nil n0
  have pre0 : ∀ t, Steps p.tables e below (s₁.setTop (mkF m 0 #[.val (.ref w_OPENED)] [])) t → Steps p.tables e below (s₁.setTop (entryFrame m #[(.ref w_OPENED)] 1)) t := fun t k => castTop (ef44 m w_OPENED) k
  obtain ⟨S_w_ACK, E_w_ACK, S_w__VALUES, E_w__VALUES, S_w_GROUP, E_w_GROUP, S_w_OPENED, E_w_OPENED, S_w_PUT, E_w_PUT, S_w_SETTLED, E_w_SETTLED, S_w_CHECKED, E_w_CHECKED, S_w_PARKED, E_w_PARKED, F_code_w_ACK, F_code_w_GROUP, F_code_w_OPENED, F_code_w_PUT, F_code_w_SETTLED, F_code_w_CHECKED, F_code_w_PARKED, Ar_w__VALUES, Sz_w__VALUES, At_w__VALUES_0, At_w__VALUES_1, At_w__VALUES_2, At_w__VALUES_3, At_w__VALUES_4, At_w__VALUES_5, At_w__VALUES_6, ne_w_ACK_w_GROUP, ne_w_ACK_w_OPENED, ne_w_ACK_w_PUT, ne_w_ACK_w_SETTLED, ne_w_ACK_w_CHECKED, ne_w_ACK_w_PARKED, ne_w_GROUP_w_OPENED, ne_w_GROUP_w_PUT, ne_w_GROUP_w_SETTLED, ne_w_GROUP_w_CHECKED, ne_w_GROUP_w_PARKED, ne_w_OPENED_w_PUT, ne_w_OPENED_w_SETTLED, ne_w_OPENED_w_CHECKED, ne_w_OPENED_w_PARKED, ne_w_PUT_w_SETTLED, ne_w_PUT_w_CHECKED, ne_w_PUT_w_PARKED, ne_w_SETTLED_w_CHECKED, ne_w_SETTLED_w_PARKED, ne_w_CHECKED_w_PARKED, V_w__VALUES, -⟩ := id HW
  obtain ⟨T1, X1, e1, st1⟩ := getF X0 hx hZ hown (host := "") (Or.inl (hw _ (List.mem_of_getElem? (i := 32) rfl))) Via.refl e0 (F_code_w_OPENED.ext O0.2) (g := (mkF m 1 #[.val (.ref w_OPENED)] [(.ref w_OPENED)])) rfl rfl (hb hby d4_1)
  obtain ⟨fs, hr, hrun, hended, hW, hsame⟩ := X1.leave (v := some (.int (3 : Int32))) (fun h => by rw [Bd.returns] at h; cases h)
  refine ⟨_, _, pre0 _ ?_, hrun, hended, _, _, rfl, ?_, ⟨_, rfl⟩, hW, hsame.mono (by decide) (by decide)⟩
  · show Steps p.tables e below (s₁.setTop (mkF m 0 #[.val (.ref w_OPENED)] [])) _
    refine XS.aloadN X0.here hx rfl (hb hby d4_0) rfl rfl ?_
    show Steps p.tables e below (s₁.setTop (mkF m 1 #[.val (.ref w_OPENED)] [(.ref w_OPENED)])) _
    refine st1 _ ?_
    show Steps p.tables e below (T1.setTop (mkF m 4 #[.val (.ref w_OPENED)] [(.int (3 : Int32))])) _
    exact retN X1 hx (t := .byte) Bd.returns (by simp) (hb hby d4_4) hr
  · exact ⟨rfl, N0, e1⟩
set_option maxRecDepth 65536 in
set_option maxHeartbeats 40000000 in
theorem rm0_c2 (l : Launch) (Z : State) (a0 : Array Value) (hw : ∀ d ∈ tables_1, d.before a0 Z = true) (ws : List Jvm.Cond) (w_ACK : Addr) (w__VALUES : Addr) (w_GROUP : Addr) (w_OPENED : Addr) (w_PUT : Addr) (w_SETTLED : Addr) (w_CHECKED : Addr) (w_PARKED : Addr) (cl_w__VALUES : Cell) (p1 : Int32) (h0 : Heap) (n0 : Nat) (Z0 : n0 ≤ h0.size) (O0 : Old Z n0 h0) (HW : World Z w_ACK w__VALUES w_GROUP w_OPENED w_PUT w_SETTLED w_CHECKED w_PARKED cl_w__VALUES) (hk : ((p1 &&& (2147483647 : Int32)) % (7 : Int32)) = (2 : Int32)) :
    MetFree l x (head1 (Jvm.Cond.code x code maxLocals ret :: ws) room_1) (fun a U => a = #[(.int p1)] ∧ Z.Warmed39 U.vm ∧ U.heap = h0) (fun _ _ _ _ _ => True) (fun _ U o U' => ∃ v L, o = .returned v ∧ Q0 h0 n0 v U'.heap L ∧ FrameEnd U o U' L room_1.cells room_1.slots) := by
  refine MetFree.of_bodySF (plainFor_of_name pn7) hisR ?_
  intro p e s m args below meth c s₁ Bd hml0 hP hK
  obtain ⟨rfl, hZ, hh⟩ := hP
  have hx := Bd.exec
  have hby := Bd.bytes
  have hml : c.maxLocals = 4 := hml0
  have hown : s.vm.findClass "com/example/clinch/clinch/broker/NoteKindOfPinLaw" = some m.cls := findClass_of_methodNamed Bd.named
  have hnm := (name_of_methodNamed Bd.named Bd.method).1
  have X0 : Stand p l e room_1 s m #[(.int p1)] below meth c s₁ [] 0 0 := Stand.of_body Bd
  have e0 : s₁.heap = h0 := by rw [← hh, Bd.state]; rfl
  have N0 := Fr.nil n0
  have pre0 : ∀ t, Steps p.tables e below (s₁.setTop (mkF m 0 #[.val (.int p1), .unset, .unset, .unset] [])) t → Steps p.tables e below (s₁.setTop (entryFrame m #[(.int p1)] maxLocals)) t := fun t k => castTop (ef47 m p1) k
  obtain ⟨S_w_ACK, E_w_ACK, S_w__VALUES, E_w__VALUES, S_w_GROUP, E_w_GROUP, S_w_OPENED, E_w_OPENED, S_w_PUT, E_w_PUT, S_w_SETTLED, E_w_SETTLED, S_w_CHECKED, E_w_CHECKED, S_w_PARKED, E_w_PARKED, F_code_w_ACK, F_code_w_GROUP, F_code_w_OPENED, F_code_w_PUT, F_code_w_SETTLED, F_code_w_CHECKED, F_code_w_PARKED, Ar_w__VALUES, Sz_w__VALUES, At_w__VALUES_0, At_w__VALUES_1, At_w__VALUES_2, At_w__VALUES_3, At_w__VALUES_4, At_w__VALUES_5, At_w__VALUES_6, ne_w_ACK_w_GROUP, ne_w_ACK_w_OPENED, ne_w_ACK_w_PUT, ne_w_ACK_w_SETTLED, ne_w_ACK_w_CHECKED, ne_w_ACK_w_PARKED, ne_w_GROUP_w_OPENED, ne_w_GROUP_w_PUT, ne_w_GROUP_w_SETTLED, ne_w_GROUP_w_CHECKED, ne_w_GROUP_w_PARKED, ne_w_OPENED_w_PUT, ne_w_OPENED_w_SETTLED, ne_w_OPENED_w_CHECKED, ne_w_OPENED_w_PARKED, ne_w_PUT_w_SETTLED, ne_w_PUT_w_CHECKED, ne_w_PUT_w_PARKED, ne_w_SETTLED_w_CHECKED, ne_w_SETTLED_w_PARKED, ne_w_CHECKED_w_PARKED, V_w__VALUES, -⟩ := id HW
  obtain ⟨_, _, ⟨T1, L1, k1, n1⟩, -, X1, ⟨Lc1, hQ1, l1, y1, z1⟩, st1⟩ := Jvm.LawKit.callS X0 hx (y := (⟨"com/example/clinch/clinch/broker/NoteKindOfPinLaw", "expected", "(I)Lcom/example/clinch/clinch/broker/NoteKind;"⟩ : MethodName)) hown (mvT hZ (hw _ (List.mem_of_getElem? (i := 1) rfl))) (mvT hZ (hw _ (List.mem_of_getElem? (i := 2) rfl))) (mvT hZ (hw _ (List.mem_of_getElem? (i := 3) rfl))) (mvT hZ (hw _ (List.mem_of_getElem? (i := 4) rfl))) (by decide) (backOf (W := 0) (rm1_9 l Z a0 hw [] w_ACK w__VALUES w_GROUP w_OPENED w_PUT w_SETTLED w_CHECKED w_PARKED cl_w__VALUES h0 n0 (own_n0 O0) O0 HW) hZ (hw _ (List.mem_of_getElem? (i := 4) rfl)) (hw _ (List.mem_of_getElem? (i := 3) rfl)) (by decide) (by decide)) (g := (mkF m 11 #[.val (.int p1), .val (.int (3 : Int32)), .unset, .unset] [(.int (3 : Int32))])) rfl (by rw [hml]; rfl) (argsL := [(.int (3 : Int32))]) (rest := []) (lenOf pd8 rfl) rfl (by show 2 * 0 + _ ≤ _; exact Nat.le_of_eq rfl) (hb hby at_11) (fun _ _ => ⟨rfl, e0, (by decide : 0 + 0 ≤ _), (by decide : 0 + 0 ≤ _)⟩)
  dsimp only [Pt.U, Pt.locs, Pt.cells, Pt.slots] at X1 l1 y1 z1 st1 hQ1
  subst l1 y1 z1
  obtain ⟨rfl, N1q, e1⟩ := hQ1
  have N1 := Fr.app N0 N1q
  obtain ⟨_, _, ⟨T2, L2, k2, n2⟩, -, X2, ⟨Lc2, hQ2, l2, y2, z2⟩, st2⟩ := Jvm.LawKit.callS X1 hx (y := (⟨"com/example/clinch/clinch/broker/NoteKind", "of", "(B)Lcom/example/clinch/clinch/broker/NoteKind;"⟩ : MethodName)) hown (mvT hZ (hw _ (List.mem_of_getElem? (i := 8) rfl))) (mvT hZ (hw _ (List.mem_of_getElem? (i := 9) rfl))) (mvT hZ (hw _ (List.mem_of_getElem? (i := 6) rfl))) (mvT hZ (hw _ (List.mem_of_getElem? (i := 10) rfl))) (by decide) (backOf (W := 0) (rm2_10 l Z a0 hw [] w_ACK w__VALUES w_GROUP w_OPENED w_PUT w_SETTLED w_CHECKED w_PARKED cl_w__VALUES h0 n0 (own_n0 O0) O0 HW) hZ (hw _ (List.mem_of_getElem? (i := 10) rfl)) (hw _ (List.mem_of_getElem? (i := 6) rfl)) (by decide) (by decide)) (g := (mkF m 17 #[.val (.int p1), .val (.int (3 : Int32)), .val (.ref w_OPENED), .unset] [(.int (3 : Int32))])) rfl (by rw [hml]; rfl) (argsL := [(.int (3 : Int32))]) (rest := []) (lenOf pd39 rfl) rfl (by show 2 * 0 + _ ≤ _; exact Nat.le_of_eq rfl) (hb hby at_17) (fun _ _ => ⟨rfl, e1, (by decide : 0 + 1 ≤ _), (by decide : 0 + 7 ≤ _)⟩)
  dsimp only [Pt.U, Pt.locs, Pt.cells, Pt.slots] at X2 l2 y2 z2 st2 hQ2
  subst l2 y2 z2
  obtain ⟨rfl, N2q, K2, O2, -⟩ := hQ2
  have N2 := Fr.app N1 N2q
  obtain ⟨cq3, kq3, q3a, q3b, q3c⟩ := isOf hZ rfl (E_w_OPENED.ext O2.2)
  obtain ⟨_, _, ⟨T3, L3, k3, n3⟩, -, X3, ⟨Lc3, hQ3, l3, y3, z3⟩, st3⟩ := X2.virtualBack hx (y := (⟨"com/example/clinch/clinch/broker/NoteKind", "code", "()B"⟩ : MethodName)) (z := (⟨"com/example/clinch/clinch/broker/NoteKind", "code", "()B"⟩ : MethodName)) hown (mvT hZ (hw _ (List.mem_of_getElem? (i := 34) rfl))) (mvT hZ (hw _ (List.mem_of_getElem? (i := 35) rfl))) (notFace_of_selects (args := #[]) (mvT hZ (hw _ (List.mem_of_getElem? (i := 37) rfl)))) (mvT hZ (hw _ (List.mem_of_getElem? (i := 37) rfl))) (mvT hZ (hw _ (List.mem_of_getElem? (i := 36) rfl))) (by decide) (backOf (W := 0) (rm4_11 l Z a0 hw [] w_ACK w__VALUES w_GROUP w_OPENED w_PUT w_SETTLED w_CHECKED w_PARKED cl_w__VALUES T2.heap n0 (own_n0 O2) O2 HW) hZ (hw _ (List.mem_of_getElem? (i := 38) rfl)) (hw _ (List.mem_of_getElem? (i := 6) rfl)) (by decide) (by decide)) q3a q3c (g := (mkF m 27 #[.val (.int p1), .val (.int (3 : Int32)), .val (.ref w_OPENED), .val (.ref w_OPENED)] [(.ref w_OPENED)])) rfl (by rw [hml]; rfl) (Steps.refl _) (argsL := []) (rest := []) (lenOf pd45 rfl) rfl (by show 2 * 0 + _ ≤ _; exact Nat.le_of_eq rfl) (hb hby at_27) (fun _ _ => ⟨rfl, rfl, (by decide : 1 + 0 ≤ _), (by decide : 7 + 0 ≤ _)⟩)
  dsimp only [Pt.U, Pt.locs, Pt.cells, Pt.slots] at X3 l3 y3 z3 st3 hQ3
  subst l3 y3 z3
  obtain ⟨rfl, N3q, e3⟩ := hQ3
  have N3 := Fr.app N2 N3q
  obtain ⟨fs, hr, hrun, hended, hW, hsame⟩ := X3.leave (v := some (.int (1 : Int32))) (fun h => by rw [Bd.returns] at h; cases h)
  refine ⟨_, _, pre0 _ ?_, hrun, hended, _, _, rfl, ?_, ⟨_, rfl⟩, hW, hsame.mono (by decide) (by decide)⟩
  · show Steps p.tables e below (s₁.setTop (mkF m 0 #[.val (.int p1), .unset, .unset, .unset] [])) _
    refine XS.iloadN X0.here hx rfl (hb hby at_0) rfl ?_
    show Steps p.tables e below (s₁.setTop (mkF m 1 #[.val (.int p1), .unset, .unset, .unset] [(.int p1)])) _
    refine X0.ldcInt hx hown (mvT hZ (hw _ (List.mem_of_getElem? (i := 0) rfl))) (g := (mkF m 1 #[.val (.int p1), .unset, .unset, .unset] [(.int p1)])) rfl (hb hby at_1) _ ?_
    show Steps p.tables e below (s₁.setTop (mkF m 3 #[.val (.int p1), .unset, .unset, .unset] [(.int (2147483647 : Int32)), (.int p1)])) _
    refine XS.iand X0.here hx rfl (hb hby at_3) rfl ?_
    show Steps p.tables e below (s₁.setTop (mkF m 4 #[.val (.int p1), .unset, .unset, .unset] [(.int (p1 &&& (2147483647 : Int32)))])) _
    refine XS.bipush X0.here hx rfl (hb hby at_4) ?_
    show Steps p.tables e below (s₁.setTop (mkF m 6 #[.val (.int p1), .unset, .unset, .unset] [(.int (7 : Int32)), (.int (p1 &&& (2147483647 : Int32)))])) _
    refine iremM X0 hx rfl (hb hby at_6) rfl (by decide) ?_
    rw [hk]
    show Steps p.tables e below (s₁.setTop (mkF m 7 #[.val (.int p1), .unset, .unset, .unset] [(.int (2 : Int32))])) _
    refine XS.iconst X0.here hx rfl (hb hby at_7) ?_
    show Steps p.tables e below (s₁.setTop (mkF m 8 #[.val (.int p1), .unset, .unset, .unset] [(.int (1 : Int32)), (.int (2 : Int32))])) _
    refine XS.iadd X0.here hx rfl (hb hby at_8) rfl ?_
    rw [show ((2 : Int32) + (1 : Int32)) = (3 : Int32) from by decide]
    show Steps p.tables e below (s₁.setTop (mkF m 9 #[.val (.int p1), .unset, .unset, .unset] [(.int (3 : Int32))])) _
    refine XS.istoreN X0.here hx rfl (hb hby at_9) rfl (l' := #[.val (.int p1), .val (.int (3 : Int32)), .unset, .unset]) rfl ?_
    show Steps p.tables e below (s₁.setTop (mkF m 10 #[.val (.int p1), .val (.int (3 : Int32)), .unset, .unset] [])) _
    refine XS.iloadN X0.here hx rfl (hb hby at_10) rfl ?_
    show Steps p.tables e below (s₁.setTop (mkF m 11 #[.val (.int p1), .val (.int (3 : Int32)), .unset, .unset] [(.int (3 : Int32))])) _
    refine st1 _ ?_
    show Steps p.tables e below (T1.setTop (mkF m 14 #[.val (.int p1), .val (.int (3 : Int32)), .unset, .unset] [(.ref w_OPENED)])) _
    refine XS.astoreN X1.here hx rfl (hb hby at_14) rfl rfl (l' := #[.val (.int p1), .val (.int (3 : Int32)), .val (.ref w_OPENED), .unset]) rfl ?_
    show Steps p.tables e below (T1.setTop (mkF m 15 #[.val (.int p1), .val (.int (3 : Int32)), .val (.ref w_OPENED), .unset] [])) _
    refine XS.iloadN X1.here hx rfl (hb hby at_15) rfl ?_
    show Steps p.tables e below (T1.setTop (mkF m 16 #[.val (.int p1), .val (.int (3 : Int32)), .val (.ref w_OPENED), .unset] [(.int (3 : Int32))])) _
    refine XS.i2b X1.here hx rfl (hb hby at_16) rfl ?_
    rw [show ((3 : Int32).toInt8.toInt32) = (3 : Int32) from by decide]
    show Steps p.tables e below (T1.setTop (mkF m 17 #[.val (.int p1), .val (.int (3 : Int32)), .val (.ref w_OPENED), .unset] [(.int (3 : Int32))])) _
    refine st2 _ ?_
    show Steps p.tables e below (T2.setTop (mkF m 20 #[.val (.int p1), .val (.int (3 : Int32)), .val (.ref w_OPENED), .unset] [(.ref w_OPENED)])) _
    refine XS.astoreN X2.here hx rfl (hb hby at_20) rfl rfl (l' := #[.val (.int p1), .val (.int (3 : Int32)), .val (.ref w_OPENED), .val (.ref w_OPENED)]) rfl ?_
    show Steps p.tables e below (T2.setTop (mkF m 21 #[.val (.int p1), .val (.int (3 : Int32)), .val (.ref w_OPENED), .val (.ref w_OPENED)] [])) _
    refine XS.aloadN X2.here hx rfl (hb hby at_21) rfl rfl ?_
    show Steps p.tables e below (T2.setTop (mkF m 22 #[.val (.int p1), .val (.int (3 : Int32)), .val (.ref w_OPENED), .val (.ref w_OPENED)] [(.ref w_OPENED)])) _
    refine XS.aloadN X2.here hx rfl (hb hby at_22) rfl rfl ?_
    show Steps p.tables e below (T2.setTop (mkF m 23 #[.val (.int p1), .val (.int (3 : Int32)), .val (.ref w_OPENED), .val (.ref w_OPENED)] [(.ref w_OPENED), (.ref w_OPENED)])) _
    refine Jvm.RoadKit.acmp (g := (mkF m 23 #[.val (.int p1), .val (.int (3 : Int32)), .val (.ref w_OPENED), .val (.ref w_OPENED)] [(.ref w_OPENED), (.ref w_OPENED)])) X2 hx rfl rfl rfl (pc0 := 23) (pc' := 26) (same := true) rfl (hb hby at_23) rfl (decide_eq_true rfl) (by decide) (by decide) ?_
    show Steps p.tables e below (T2.setTop (mkF m 26 #[.val (.int p1), .val (.int (3 : Int32)), .val (.ref w_OPENED), .val (.ref w_OPENED)] [])) _
    refine XS.aloadN X2.here hx rfl (hb hby at_26) rfl rfl ?_
    show Steps p.tables e below (T2.setTop (mkF m 27 #[.val (.int p1), .val (.int (3 : Int32)), .val (.ref w_OPENED), .val (.ref w_OPENED)] [(.ref w_OPENED)])) _
    refine st3.trans ?_
    show Steps p.tables e below (T3.setTop (mkF m 30 #[.val (.int p1), .val (.int (3 : Int32)), .val (.ref w_OPENED), .val (.ref w_OPENED)] [(.int (3 : Int32))])) _
    refine XS.iloadN X3.here hx rfl (hb hby at_30) rfl ?_
    show Steps p.tables e below (T3.setTop (mkF m 31 #[.val (.int p1), .val (.int (3 : Int32)), .val (.ref w_OPENED), .val (.ref w_OPENED)] [(.int (3 : Int32)), (.int (3 : Int32))])) _
    refine XS.i2b X3.here hx rfl (hb hby at_31) rfl ?_
    rw [show ((3 : Int32).toInt8.toInt32) = (3 : Int32) from by decide]
    show Steps p.tables e below (T3.setTop (mkF m 32 #[.val (.int p1), .val (.int (3 : Int32)), .val (.ref w_OPENED), .val (.ref w_OPENED)] [(.int (3 : Int32)), (.int (3 : Int32))])) _
    refine XS.icmpNo X3.here hx rfl (hb hby at_32) rfl (teq (by decide : (3 : Int32) = (3 : Int32))).2 ?_
    show Steps p.tables e below (T3.setTop (mkF m 35 #[.val (.int p1), .val (.int (3 : Int32)), .val (.ref w_OPENED), .val (.ref w_OPENED)] [])) _
    refine XS.iconst X3.here hx rfl (hb hby at_35) ?_
    show Steps p.tables e below (T3.setTop (mkF m 36 #[.val (.int p1), .val (.int (3 : Int32)), .val (.ref w_OPENED), .val (.ref w_OPENED)] [(.int (1 : Int32))])) _
    refine XS.goto X3.here hx rfl (pc0 := 36) (pc' := 40) rfl (hb hby at_36) (by decide) (by decide) ?_
    show Steps p.tables e below (T3.setTop (mkF m 40 #[.val (.int p1), .val (.int (3 : Int32)), .val (.ref w_OPENED), .val (.ref w_OPENED)] [(.int (1 : Int32))])) _
    exact retN X3 hx (t := .boolean) Bd.returns (by simp) (hb hby at_40) hr
  · exact ⟨rfl, N3⟩
theorem d1_27 : decode method_2_code 27 = .ok (.iload_n 0, 1) := by decide +kernel
theorem d1_28 : decode method_2_code 28 = .ok (.iconst 4, 1) := by decide +kernel
theorem d1_29 : decode method_2_code 29 = .ok (.if_icmp .ne 7, 3) := by decide +kernel
theorem d1_32 : decode method_2_code 32 = .ok (.getstatic 19, 3) := by decide +kernel
theorem d1_35 : decode method_2_code 35 = .ok (.areturn, 1) := by decide +kernel
def Q1_13 (Z : State) (w_ACK : Addr) (w__VALUES : Addr) (w_GROUP : Addr) (w_OPENED : Addr) (w_PUT : Addr) (w_SETTLED : Addr) (w_CHECKED : Addr) (w_PARKED : Addr) (cl_w__VALUES : Cell) (h0 : Heap) (n0 : Nat) (v : Option Value) (h : Heap) (L : List Loc) : Prop := v = some (.ref w_PUT) ∧ Fr n0 L ∧ h = h0
set_option maxRecDepth 65536 in
set_option maxHeartbeats 40000000 in
theorem rm1_13 (l : Launch) (Z : State) (a0 : Array Value) (hw : ∀ d ∈ tables_1, d.before a0 Z = true) (ws : List Jvm.Cond) (w_ACK : Addr) (w__VALUES : Addr) (w_GROUP : Addr) (w_OPENED : Addr) (w_PUT : Addr) (w_SETTLED : Addr) (w_CHECKED : Addr) (w_PARKED : Addr) (cl_w__VALUES : Cell) (h0 : Heap) (n0 : Nat) (Z0 : n0 ≤ h0.size) (O0 : Old Z n0 h0) (HW : World Z w_ACK w__VALUES w_GROUP w_OPENED w_PUT w_SETTLED w_CHECKED w_PARKED cl_w__VALUES) :
    MetFree l (⟨"com/example/clinch/clinch/broker/NoteKindOfPinLaw", "expected", "(I)Lcom/example/clinch/clinch/broker/NoteKind;"⟩ : MethodName) (head1 (Jvm.Cond.code (⟨"com/example/clinch/clinch/broker/NoteKindOfPinLaw", "expected", "(I)Lcom/example/clinch/clinch/broker/NoteKind;"⟩ : MethodName) method_2_code 1 (some (.object "com/example/clinch/clinch/broker/NoteKind")) :: ws) ({ frames := 0, cells := 0, slots := 0, locals := 0 } : Room)) (fun a U => a = #[(.int (4 : Int32))] ∧ Z.Warmed39 U.vm ∧ U.heap = h0) (fun _ _ _ _ _ => True) (fun _ U o U' => ∃ v L, o = .returned v ∧ Q1_13 Z w_ACK w__VALUES w_GROUP w_OPENED w_PUT w_SETTLED w_CHECKED w_PARKED cl_w__VALUES h0 n0 v U'.heap L ∧ FrameEnd U o U' L ({ frames := 0, cells := 0, slots := 0, locals := 0 } : Room).cells ({ frames := 0, cells := 0, slots := 0, locals := 0 } : Room).slots) := by
  refine MetFree.of_bodySF (plainFor_of_name pn7) hisR ?_
  intro p e s m args below meth c s₁ Bd hml0 hP hK
  obtain ⟨rfl, hZ, hh⟩ := hP
  have hx := Bd.exec
  have hby := Bd.bytes
  have hml : c.maxLocals = 1 := hml0
  have hown : s.vm.findClass "com/example/clinch/clinch/broker/NoteKindOfPinLaw" = some m.cls := findClass_of_methodNamed Bd.named
  have hnm := (name_of_methodNamed Bd.named Bd.method).1
  have X0 : Stand p l e ({ frames := 0, cells := 0, slots := 0, locals := 0 } : Room) s m #[(.int (4 : Int32))] below meth c s₁ [] 0 0 := Stand.of_body Bd
  have e0 : s₁.heap = h0 := by rw [← hh, Bd.state]; rfl
  have N0 := Fr.nil n0
  have pre0 : ∀ t, Steps p.tables e below (s₁.setTop (mkF m 0 #[.val (.int (4 : Int32))] [])) t → Steps p.tables e below (s₁.setTop (entryFrame m #[(.int (4 : Int32))] 1)) t := fun t k => castTop (ef6 m (4 : Int32)) k
  obtain ⟨S_w_ACK, E_w_ACK, S_w__VALUES, E_w__VALUES, S_w_GROUP, E_w_GROUP, S_w_OPENED, E_w_OPENED, S_w_PUT, E_w_PUT, S_w_SETTLED, E_w_SETTLED, S_w_CHECKED, E_w_CHECKED, S_w_PARKED, E_w_PARKED, F_code_w_ACK, F_code_w_GROUP, F_code_w_OPENED, F_code_w_PUT, F_code_w_SETTLED, F_code_w_CHECKED, F_code_w_PARKED, Ar_w__VALUES, Sz_w__VALUES, At_w__VALUES_0, At_w__VALUES_1, At_w__VALUES_2, At_w__VALUES_3, At_w__VALUES_4, At_w__VALUES_5, At_w__VALUES_6, ne_w_ACK_w_GROUP, ne_w_ACK_w_OPENED, ne_w_ACK_w_PUT, ne_w_ACK_w_SETTLED, ne_w_ACK_w_CHECKED, ne_w_ACK_w_PARKED, ne_w_GROUP_w_OPENED, ne_w_GROUP_w_PUT, ne_w_GROUP_w_SETTLED, ne_w_GROUP_w_CHECKED, ne_w_GROUP_w_PARKED, ne_w_OPENED_w_PUT, ne_w_OPENED_w_SETTLED, ne_w_OPENED_w_CHECKED, ne_w_OPENED_w_PARKED, ne_w_PUT_w_SETTLED, ne_w_PUT_w_CHECKED, ne_w_PUT_w_PARKED, ne_w_SETTLED_w_CHECKED, ne_w_SETTLED_w_PARKED, ne_w_CHECKED_w_PARKED, V_w__VALUES, -⟩ := id HW
  obtain ⟨T1, X1, e1, st1⟩ := getS2 X0 hx hZ hown (host := "") (Or.inl (hw _ (List.mem_of_getElem? (i := 39) rfl))) Via.refl e0 (S_w_PUT.ext O0.2) (g := (mkF m 32 #[.val (.int (4 : Int32))] [])) rfl (hb hby d1_32)
  obtain ⟨fs, hr, hrun, hended, hW, hsame⟩ := X1.leave (v := some (.ref w_PUT)) (fun h => by rw [Bd.returns] at h; cases h)
  refine ⟨_, _, pre0 _ ?_, hrun, hended, _, _, rfl, ?_, ⟨_, rfl⟩, hW, hsame.mono (by decide) (by decide)⟩
  · show Steps p.tables e below (s₁.setTop (mkF m 0 #[.val (.int (4 : Int32))] [])) _
    refine XS.iloadN X0.here hx rfl (hb hby d1_0) rfl ?_
    show Steps p.tables e below (s₁.setTop (mkF m 1 #[.val (.int (4 : Int32))] [(.int (4 : Int32))])) _
    refine XS.iconst X0.here hx rfl (hb hby d1_1) ?_
    show Steps p.tables e below (s₁.setTop (mkF m 2 #[.val (.int (4 : Int32))] [(.int (1 : Int32)), (.int (4 : Int32))])) _
    refine XS.icmpYes X0.here hx rfl (pc0 := 2) (pc' := 9) rfl (hb hby d1_2) rfl (feq (by decide : ¬ ((4 : Int32) = (1 : Int32)))).2 (by decide) (by decide) ?_
    show Steps p.tables e below (s₁.setTop (mkF m 9 #[.val (.int (4 : Int32))] [])) _
    refine XS.iloadN X0.here hx rfl (hb hby d1_9) rfl ?_
    show Steps p.tables e below (s₁.setTop (mkF m 10 #[.val (.int (4 : Int32))] [(.int (4 : Int32))])) _
    refine XS.iconst X0.here hx rfl (hb hby d1_10) ?_
    show Steps p.tables e below (s₁.setTop (mkF m 11 #[.val (.int (4 : Int32))] [(.int (2 : Int32)), (.int (4 : Int32))])) _
    refine XS.icmpYes X0.here hx rfl (pc0 := 11) (pc' := 18) rfl (hb hby d1_11) rfl (feq (by decide : ¬ ((4 : Int32) = (2 : Int32)))).2 (by decide) (by decide) ?_
    show Steps p.tables e below (s₁.setTop (mkF m 18 #[.val (.int (4 : Int32))] [])) _
    refine XS.iloadN X0.here hx rfl (hb hby d1_18) rfl ?_
    show Steps p.tables e below (s₁.setTop (mkF m 19 #[.val (.int (4 : Int32))] [(.int (4 : Int32))])) _
    refine XS.iconst X0.here hx rfl (hb hby d1_19) ?_
    show Steps p.tables e below (s₁.setTop (mkF m 20 #[.val (.int (4 : Int32))] [(.int (3 : Int32)), (.int (4 : Int32))])) _
    refine XS.icmpYes X0.here hx rfl (pc0 := 20) (pc' := 27) rfl (hb hby d1_20) rfl (feq (by decide : ¬ ((4 : Int32) = (3 : Int32)))).2 (by decide) (by decide) ?_
    show Steps p.tables e below (s₁.setTop (mkF m 27 #[.val (.int (4 : Int32))] [])) _
    refine XS.iloadN X0.here hx rfl (hb hby d1_27) rfl ?_
    show Steps p.tables e below (s₁.setTop (mkF m 28 #[.val (.int (4 : Int32))] [(.int (4 : Int32))])) _
    refine XS.iconst X0.here hx rfl (hb hby d1_28) ?_
    show Steps p.tables e below (s₁.setTop (mkF m 29 #[.val (.int (4 : Int32))] [(.int (4 : Int32)), (.int (4 : Int32))])) _
    refine XS.icmpNo X0.here hx rfl (hb hby d1_29) rfl (teq (by decide : (4 : Int32) = (4 : Int32))).2 ?_
    show Steps p.tables e below (s₁.setTop (mkF m 32 #[.val (.int (4 : Int32))] [])) _
    refine st1 _ ?_
    show Steps p.tables e below (T1.setTop (mkF m 35 #[.val (.int (4 : Int32))] [(.ref w_PUT)])) _
    jvm_step X1.here [X1.here.top, hx, (hb hby d1_35), X1.method', Bd.returns, Value.isRef, FieldType.isReference]
    first | (intro acts; rw [hr _ acts rfl rfl rfl]) | rw [hr _ _ rfl rfl rfl]
    exact Steps.refl _
  · exact ⟨rfl, N0, e1⟩
def Q2_14 (Z : State) (w_ACK : Addr) (w__VALUES : Addr) (w_GROUP : Addr) (w_OPENED : Addr) (w_PUT : Addr) (w_SETTLED : Addr) (w_CHECKED : Addr) (w_PARKED : Addr) (cl_w__VALUES : Cell) (h0 : Heap) (n0 : Nat) (v : Option Value) (h : Heap) (L : List Loc) : Prop := v = some (.ref w_PUT) ∧ Fr n0 L ∧ Keep h0 h [] ∧ Old Z n0 h ∧ True
set_option maxRecDepth 65536 in
set_option maxHeartbeats 40000000 in
theorem rm2_14 (l : Launch) (Z : State) (a0 : Array Value) (hw : ∀ d ∈ tables_1, d.before a0 Z = true) (ws : List Jvm.Cond) (w_ACK : Addr) (w__VALUES : Addr) (w_GROUP : Addr) (w_OPENED : Addr) (w_PUT : Addr) (w_SETTLED : Addr) (w_CHECKED : Addr) (w_PARKED : Addr) (cl_w__VALUES : Cell) (h0 : Heap) (n0 : Nat) (Z0 : n0 ≤ h0.size) (O0 : Old Z n0 h0) (HW : World Z w_ACK w__VALUES w_GROUP w_OPENED w_PUT w_SETTLED w_CHECKED w_PARKED cl_w__VALUES) :
    MetFree l (⟨"com/example/clinch/clinch/broker/NoteKind", "of", "(B)Lcom/example/clinch/clinch/broker/NoteKind;"⟩ : MethodName) (head1 (Jvm.Cond.code (⟨"com/example/clinch/clinch/broker/NoteKind", "of", "(B)Lcom/example/clinch/clinch/broker/NoteKind;"⟩ : MethodName) prog_7_method_5_code 5 (some (.object "com/example/clinch/clinch/broker/NoteKind")) :: ws) ({ frames := 2, cells := 1, slots := 7, locals := 25 } : Room)) (fun a U => a = #[(.int (4 : Int32))] ∧ Z.Warmed39 U.vm ∧ U.heap = h0) (fun _ _ _ _ _ => True) (fun _ U o U' => ∃ v L, o = .returned v ∧ Q2_14 Z w_ACK w__VALUES w_GROUP w_OPENED w_PUT w_SETTLED w_CHECKED w_PARKED cl_w__VALUES h0 n0 v U'.heap L ∧ FrameEnd U o U' L ({ frames := 2, cells := 1, slots := 7, locals := 25 } : Room).cells ({ frames := 2, cells := 1, slots := 7, locals := 25 } : Room).slots) := by
  refine MetFree.of_bodySF (plainFor_of_name pn15) hisR ?_
  intro p e s m args below meth c s₁ Bd hml0 hP hK
  obtain ⟨rfl, hZ, hh⟩ := hP
  have hx := Bd.exec
  have hby := Bd.bytes
  have hml : c.maxLocals = 5 := hml0
  have hown : s.vm.findClass "com/example/clinch/clinch/broker/NoteKind" = some m.cls := findClass_of_methodNamed Bd.named
  have hnm := (name_of_methodNamed Bd.named Bd.method).1
  have X0 : Stand p l e ({ frames := 2, cells := 1, slots := 7, locals := 25 } : Room) s m #[(.int (4 : Int32))] below meth c s₁ [] 0 0 := Stand.of_body Bd
  have e0 : s₁.heap = h0 := by rw [← hh, Bd.state]; rfl
  have N0 := Fr.nil n0
  have pre0 : ∀ t, Steps p.tables e below (s₁.setTop (mkF m 0 #[.val (.int (4 : Int32)), .unset, .unset, .unset, .unset] [])) t → Steps p.tables e below (s₁.setTop (entryFrame m #[(.int (4 : Int32))] 5)) t := fun t k => castTop (ef38 m (4 : Int32)) k
  obtain ⟨S_w_ACK, E_w_ACK, S_w__VALUES, E_w__VALUES, S_w_GROUP, E_w_GROUP, S_w_OPENED, E_w_OPENED, S_w_PUT, E_w_PUT, S_w_SETTLED, E_w_SETTLED, S_w_CHECKED, E_w_CHECKED, S_w_PARKED, E_w_PARKED, F_code_w_ACK, F_code_w_GROUP, F_code_w_OPENED, F_code_w_PUT, F_code_w_SETTLED, F_code_w_CHECKED, F_code_w_PARKED, Ar_w__VALUES, Sz_w__VALUES, At_w__VALUES_0, At_w__VALUES_1, At_w__VALUES_2, At_w__VALUES_3, At_w__VALUES_4, At_w__VALUES_5, At_w__VALUES_6, ne_w_ACK_w_GROUP, ne_w_ACK_w_OPENED, ne_w_ACK_w_PUT, ne_w_ACK_w_SETTLED, ne_w_ACK_w_CHECKED, ne_w_ACK_w_PARKED, ne_w_GROUP_w_OPENED, ne_w_GROUP_w_PUT, ne_w_GROUP_w_SETTLED, ne_w_GROUP_w_CHECKED, ne_w_GROUP_w_PARKED, ne_w_OPENED_w_PUT, ne_w_OPENED_w_SETTLED, ne_w_OPENED_w_CHECKED, ne_w_OPENED_w_PARKED, ne_w_PUT_w_SETTLED, ne_w_PUT_w_CHECKED, ne_w_PUT_w_PARKED, ne_w_SETTLED_w_CHECKED, ne_w_SETTLED_w_PARKED, ne_w_CHECKED_w_PARKED, V_w__VALUES, -⟩ := id HW
  obtain ⟨_, _, ⟨T1, L1, k1, n1⟩, -, X1, ⟨Lc1, hQ1, l1, y1, z1⟩, st1⟩ := Jvm.LawKit.callS X0 hx (y := (⟨"com/example/clinch/clinch/broker/NoteKind", "values", "()[Lcom/example/clinch/clinch/broker/NoteKind;"⟩ : MethodName)) hown (mvT hZ (hw _ (List.mem_of_getElem? (i := 11) rfl))) (mvT hZ (hw _ (List.mem_of_getElem? (i := 12) rfl))) (mvT hZ (hw _ (List.mem_of_getElem? (i := 6) rfl))) (mvT hZ (hw _ (List.mem_of_getElem? (i := 13) rfl))) (by decide) (backOf (W := 0) (rm3_1 l Z a0 hw [] w_ACK w__VALUES w_GROUP w_OPENED w_PUT w_SETTLED w_CHECKED w_PARKED cl_w__VALUES h0 n0 (own_n0 O0) O0 HW) hZ (hw _ (List.mem_of_getElem? (i := 13) rfl)) (hw _ (List.mem_of_getElem? (i := 6) rfl)) (by decide) (by decide)) (g := (mkF m 0 #[.val (.int (4 : Int32)), .unset, .unset, .unset, .unset] [])) rfl (by rw [hml]; rfl) (argsL := []) (rest := []) (lenOf pd16 rfl) rfl (by show 2 * 0 + _ ≤ _; exact Nat.le_of_eq rfl) (hb hby d2_0) (fun _ _ => ⟨rfl, e0, (by decide : 0 + 1 ≤ _), (by decide : 0 + 7 ≤ _)⟩)
  dsimp only [Pt.U, Pt.locs, Pt.cells, Pt.slots] at X1 l1 y1 z1 st1 hQ1
  subst l1 y1 z1
  obtain ⟨b1_0, fk1_0, rfl, N1q, K1, O1, pz_b1_0, pf1_0, pf1_1, -⟩ := hQ1
  have bo_b1_0 : h0.size ≤ b1_0 := pz_b1_0
  have g_b1_0 : n0 ≤ b1_0 := Nat.le_trans (own_n0 O0) bo_b1_0
  have sz_b1_0 : h0.size ≤ b1_0 := Nat.le_trans (Keep.refl h0 []).1 bo_b1_0
  have KK1 : Keep h0 T1.heap [] := (Keep.refl h0 []).trans K1 all0
  have N1 := Fr.app N0 N1q
  obtain ⟨ac2, aA2, aq2, aS2, aN2, aH2, aG2⟩ := id pf1_1
  obtain ⟨ac3, aA3, aq3, aS3, aN3, aH3, aG3⟩ := id pf1_1
  obtain ⟨T4, X4, e4, st4⟩ := getF X1 hx hZ hown (host := "") (Or.inl (hw _ (List.mem_of_getElem? (i := 32) rfl))) Via.refl rfl (F_code_w_ACK.ext O1.2) (g := (mkF m 21 #[.val (.int (4 : Int32)), .val (.ref b1_0), .val (.int (7 : Int32)), .val (.int (0 : Int32)), .val (.ref w_ACK)] [(.ref w_ACK)])) rfl rfl (hb hby d2_21)
  obtain ⟨ac5, aA5, aq5, aS5, aN5, aH5, aG5⟩ := id pf1_1
  obtain ⟨T6, X6, e6, st6⟩ := getF X4 hx hZ hown (host := "") (Or.inl (hw _ (List.mem_of_getElem? (i := 32) rfl))) Via.refl e4 (F_code_w_GROUP.ext O1.2) (g := (mkF m 21 #[.val (.int (4 : Int32)), .val (.ref b1_0), .val (.int (7 : Int32)), .val (.int (1 : Int32)), .val (.ref w_GROUP)] [(.ref w_GROUP)])) rfl rfl (hb hby d2_21)
  obtain ⟨ac7, aA7, aq7, aS7, aN7, aH7, aG7⟩ := id pf1_1
  obtain ⟨T8, X8, e8, st8⟩ := getF X6 hx hZ hown (host := "") (Or.inl (hw _ (List.mem_of_getElem? (i := 32) rfl))) Via.refl e6 (F_code_w_OPENED.ext O1.2) (g := (mkF m 21 #[.val (.int (4 : Int32)), .val (.ref b1_0), .val (.int (7 : Int32)), .val (.int (2 : Int32)), .val (.ref w_OPENED)] [(.ref w_OPENED)])) rfl rfl (hb hby d2_21)
  obtain ⟨ac9, aA9, aq9, aS9, aN9, aH9, aG9⟩ := id pf1_1
  obtain ⟨T10, X10, e10, st10⟩ := getF X8 hx hZ hown (host := "") (Or.inl (hw _ (List.mem_of_getElem? (i := 32) rfl))) Via.refl e8 (F_code_w_PUT.ext O1.2) (g := (mkF m 21 #[.val (.int (4 : Int32)), .val (.ref b1_0), .val (.int (7 : Int32)), .val (.int (3 : Int32)), .val (.ref w_PUT)] [(.ref w_PUT)])) rfl rfl (hb hby d2_21)
  obtain ⟨fs, hr, hrun, hended, hW, hsame⟩ := X10.leave (v := some (.ref w_PUT)) (fun h => by rw [Bd.returns] at h; cases h)
  refine ⟨_, _, pre0 _ ?_, hrun, hended, _, _, rfl, ?_, ⟨_, rfl⟩, hW, hsame.mono (by decide) (by decide)⟩
  · show Steps p.tables e below (s₁.setTop (mkF m 0 #[.val (.int (4 : Int32)), .unset, .unset, .unset, .unset] [])) _
    refine st1 _ ?_
    show Steps p.tables e below (T1.setTop (mkF m 3 #[.val (.int (4 : Int32)), .unset, .unset, .unset, .unset] [(.ref b1_0)])) _
    refine XS.astoreN X1.here hx rfl (hb hby d2_3) rfl rfl (l' := #[.val (.int (4 : Int32)), .val (.ref b1_0), .unset, .unset, .unset]) rfl ?_
    show Steps p.tables e below (T1.setTop (mkF m 4 #[.val (.int (4 : Int32)), .val (.ref b1_0), .unset, .unset, .unset] [])) _
    refine XS.aloadN X1.here hx rfl (hb hby d2_4) rfl rfl ?_
    show Steps p.tables e below (T1.setTop (mkF m 5 #[.val (.int (4 : Int32)), .val (.ref b1_0), .unset, .unset, .unset] [(.ref b1_0)])) _
    refine X1.arraylength hx aA2.1 (State.isArrayOf_alike hZ.alike aA2.2.1) (g := (mkF m 5 #[.val (.int (4 : Int32)), .val (.ref b1_0), .unset, .unset, .unset] [(.ref b1_0)])) rfl rfl (hb hby d2_5) _ ?_
    rw [len_of aS2 aN2]
    show Steps p.tables e below (T1.setTop (mkF m 6 #[.val (.int (4 : Int32)), .val (.ref b1_0), .unset, .unset, .unset] [(.int (7 : Int32))])) _
    refine XS.istoreN X1.here hx rfl (hb hby d2_6) rfl (l' := #[.val (.int (4 : Int32)), .val (.ref b1_0), .val (.int (7 : Int32)), .unset, .unset]) rfl ?_
    show Steps p.tables e below (T1.setTop (mkF m 7 #[.val (.int (4 : Int32)), .val (.ref b1_0), .val (.int (7 : Int32)), .unset, .unset] [])) _
    refine XS.iconst X1.here hx rfl (hb hby d2_7) ?_
    show Steps p.tables e below (T1.setTop (mkF m 8 #[.val (.int (4 : Int32)), .val (.ref b1_0), .val (.int (7 : Int32)), .unset, .unset] [(.int (0 : Int32))])) _
    refine XS.istoreN X1.here hx rfl (hb hby d2_8) rfl (l' := #[.val (.int (4 : Int32)), .val (.ref b1_0), .val (.int (7 : Int32)), .val (.int (0 : Int32)), .unset]) rfl ?_
    show Steps p.tables e below (T1.setTop (mkF m 9 #[.val (.int (4 : Int32)), .val (.ref b1_0), .val (.int (7 : Int32)), .val (.int (0 : Int32)), .unset] [])) _
    refine XS.iloadN X1.here hx rfl (hb hby d2_9) rfl ?_
    show Steps p.tables e below (T1.setTop (mkF m 10 #[.val (.int (4 : Int32)), .val (.ref b1_0), .val (.int (7 : Int32)), .val (.int (0 : Int32)), .unset] [(.int (0 : Int32))])) _
    refine XS.iloadN X1.here hx rfl (hb hby d2_10) rfl ?_
    show Steps p.tables e below (T1.setTop (mkF m 11 #[.val (.int (4 : Int32)), .val (.ref b1_0), .val (.int (7 : Int32)), .val (.int (0 : Int32)), .unset] [(.int (7 : Int32)), (.int (0 : Int32))])) _
    refine XS.icmpNo X1.here hx rfl (hb hby d2_11) rfl (tlt (by decide : (0 : Int32) < (7 : Int32))).2.1 ?_
    show Steps p.tables e below (T1.setTop (mkF m 14 #[.val (.int (4 : Int32)), .val (.ref b1_0), .val (.int (7 : Int32)), .val (.int (0 : Int32)), .unset] [])) _
    refine XS.aloadN X1.here hx rfl (hb hby d2_14) rfl rfl ?_
    show Steps p.tables e below (T1.setTop (mkF m 15 #[.val (.int (4 : Int32)), .val (.ref b1_0), .val (.int (7 : Int32)), .val (.int (0 : Int32)), .unset] [(.ref b1_0)])) _
    refine XS.iloadN X1.here hx rfl (hb hby d2_15) rfl ?_
    show Steps p.tables e below (T1.setTop (mkF m 16 #[.val (.int (4 : Int32)), .val (.ref b1_0), .val (.int (7 : Int32)), .val (.int (0 : Int32)), .unset] [(.int (0 : Int32)), (.ref b1_0)])) _
    refine X1.aaload hx (j := (0 : Int32)) (v := (.ref w_ACK)) aA3.1 (State.isArrayOf_alike hZ.alike aA3.2.1) rfl aA3.2.2 (inb_of aS3 ⟨by decide, by decide⟩) (aH3.at (inb_of aS3 ⟨by decide, by decide⟩) rfl) (g := (mkF m 16 #[.val (.int (4 : Int32)), .val (.ref b1_0), .val (.int (7 : Int32)), .val (.int (0 : Int32)), .unset] [(.int (0 : Int32)), (.ref b1_0)])) rfl rfl (hb hby d2_16) _ ?_
    show Steps p.tables e below (T1.setTop (mkF m 17 #[.val (.int (4 : Int32)), .val (.ref b1_0), .val (.int (7 : Int32)), .val (.int (0 : Int32)), .unset] [(.ref w_ACK)])) _
    refine XS.astore X1.here hx rfl (hb hby d2_17) rfl rfl (l' := #[.val (.int (4 : Int32)), .val (.ref b1_0), .val (.int (7 : Int32)), .val (.int (0 : Int32)), .val (.ref w_ACK)]) rfl ?_
    show Steps p.tables e below (T1.setTop (mkF m 19 #[.val (.int (4 : Int32)), .val (.ref b1_0), .val (.int (7 : Int32)), .val (.int (0 : Int32)), .val (.ref w_ACK)] [])) _
    refine XS.aload X1.here hx rfl (hb hby d2_19) rfl rfl ?_
    show Steps p.tables e below (T1.setTop (mkF m 21 #[.val (.int (4 : Int32)), .val (.ref b1_0), .val (.int (7 : Int32)), .val (.int (0 : Int32)), .val (.ref w_ACK)] [(.ref w_ACK)])) _
    refine st4 _ ?_
    show Steps p.tables e below (T4.setTop (mkF m 24 #[.val (.int (4 : Int32)), .val (.ref b1_0), .val (.int (7 : Int32)), .val (.int (0 : Int32)), .val (.ref w_ACK)] [(.int (1 : Int32))])) _
    refine XS.iloadN X4.here hx rfl (hb hby d2_24) rfl ?_
    show Steps p.tables e below (T4.setTop (mkF m 25 #[.val (.int (4 : Int32)), .val (.ref b1_0), .val (.int (7 : Int32)), .val (.int (0 : Int32)), .val (.ref w_ACK)] [(.int (4 : Int32)), (.int (1 : Int32))])) _
    refine XS.icmpYes X4.here hx rfl (pc0 := 25) (pc' := 31) rfl (hb hby d2_25) rfl (feq (by decide : ¬ ((1 : Int32) = (4 : Int32)))).2 (by decide) (by decide) ?_
    show Steps p.tables e below (T4.setTop (mkF m 31 #[.val (.int (4 : Int32)), .val (.ref b1_0), .val (.int (7 : Int32)), .val (.int (0 : Int32)), .val (.ref w_ACK)] [])) _
    refine XS.iinc X4.here hx rfl (hb hby d2_31) rfl (l' := #[.val (.int (4 : Int32)), .val (.ref b1_0), .val (.int (7 : Int32)), .val (.int ((0 : Int32) + (1 : Int32))), .val (.ref w_ACK)]) rfl ?_
    rw [show ((0 : Int32) + (1 : Int32)) = (1 : Int32) from by decide]
    show Steps p.tables e below (T4.setTop (mkF m 34 #[.val (.int (4 : Int32)), .val (.ref b1_0), .val (.int (7 : Int32)), .val (.int (1 : Int32)), .val (.ref w_ACK)] [])) _
    refine XS.goto X4.here hx rfl (pc0 := 34) (pc' := 9) rfl (hb hby d2_34) (by decide) (by decide) ?_
    show Steps p.tables e below (T4.setTop (mkF m 9 #[.val (.int (4 : Int32)), .val (.ref b1_0), .val (.int (7 : Int32)), .val (.int (1 : Int32)), .val (.ref w_ACK)] [])) _
    refine XS.iloadN X4.here hx rfl (hb hby d2_9) rfl ?_
    show Steps p.tables e below (T4.setTop (mkF m 10 #[.val (.int (4 : Int32)), .val (.ref b1_0), .val (.int (7 : Int32)), .val (.int (1 : Int32)), .val (.ref w_ACK)] [(.int (1 : Int32))])) _
    refine XS.iloadN X4.here hx rfl (hb hby d2_10) rfl ?_
    show Steps p.tables e below (T4.setTop (mkF m 11 #[.val (.int (4 : Int32)), .val (.ref b1_0), .val (.int (7 : Int32)), .val (.int (1 : Int32)), .val (.ref w_ACK)] [(.int (7 : Int32)), (.int (1 : Int32))])) _
    refine XS.icmpNo X4.here hx rfl (hb hby d2_11) rfl (tlt (by decide : (1 : Int32) < (7 : Int32))).2.1 ?_
    show Steps p.tables e below (T4.setTop (mkF m 14 #[.val (.int (4 : Int32)), .val (.ref b1_0), .val (.int (7 : Int32)), .val (.int (1 : Int32)), .val (.ref w_ACK)] [])) _
    refine XS.aloadN X4.here hx rfl (hb hby d2_14) rfl rfl ?_
    show Steps p.tables e below (T4.setTop (mkF m 15 #[.val (.int (4 : Int32)), .val (.ref b1_0), .val (.int (7 : Int32)), .val (.int (1 : Int32)), .val (.ref w_ACK)] [(.ref b1_0)])) _
    refine XS.iloadN X4.here hx rfl (hb hby d2_15) rfl ?_
    show Steps p.tables e below (T4.setTop (mkF m 16 #[.val (.int (4 : Int32)), .val (.ref b1_0), .val (.int (7 : Int32)), .val (.int (1 : Int32)), .val (.ref w_ACK)] [(.int (1 : Int32)), (.ref b1_0)])) _
    refine X4.aaload hx (j := (1 : Int32)) (v := (.ref w_GROUP)) (by rw [e4]; exact aA5.1) (State.isArrayOf_alike hZ.alike aA5.2.1) rfl aA5.2.2 (inb_of aS5 ⟨by decide, by decide⟩) (aH5.at (inb_of aS5 ⟨by decide, by decide⟩) rfl) (g := (mkF m 16 #[.val (.int (4 : Int32)), .val (.ref b1_0), .val (.int (7 : Int32)), .val (.int (1 : Int32)), .val (.ref w_ACK)] [(.int (1 : Int32)), (.ref b1_0)])) rfl rfl (hb hby d2_16) _ ?_
    show Steps p.tables e below (T4.setTop (mkF m 17 #[.val (.int (4 : Int32)), .val (.ref b1_0), .val (.int (7 : Int32)), .val (.int (1 : Int32)), .val (.ref w_ACK)] [(.ref w_GROUP)])) _
    refine XS.astore X4.here hx rfl (hb hby d2_17) rfl rfl (l' := #[.val (.int (4 : Int32)), .val (.ref b1_0), .val (.int (7 : Int32)), .val (.int (1 : Int32)), .val (.ref w_GROUP)]) rfl ?_
    show Steps p.tables e below (T4.setTop (mkF m 19 #[.val (.int (4 : Int32)), .val (.ref b1_0), .val (.int (7 : Int32)), .val (.int (1 : Int32)), .val (.ref w_GROUP)] [])) _
    refine XS.aload X4.here hx rfl (hb hby d2_19) rfl rfl ?_
    show Steps p.tables e below (T4.setTop (mkF m 21 #[.val (.int (4 : Int32)), .val (.ref b1_0), .val (.int (7 : Int32)), .val (.int (1 : Int32)), .val (.ref w_GROUP)] [(.ref w_GROUP)])) _
    refine st6 _ ?_
    show Steps p.tables e below (T6.setTop (mkF m 24 #[.val (.int (4 : Int32)), .val (.ref b1_0), .val (.int (7 : Int32)), .val (.int (1 : Int32)), .val (.ref w_GROUP)] [(.int (2 : Int32))])) _
    refine XS.iloadN X6.here hx rfl (hb hby d2_24) rfl ?_
    show Steps p.tables e below (T6.setTop (mkF m 25 #[.val (.int (4 : Int32)), .val (.ref b1_0), .val (.int (7 : Int32)), .val (.int (1 : Int32)), .val (.ref w_GROUP)] [(.int (4 : Int32)), (.int (2 : Int32))])) _
    refine XS.icmpYes X6.here hx rfl (pc0 := 25) (pc' := 31) rfl (hb hby d2_25) rfl (feq (by decide : ¬ ((2 : Int32) = (4 : Int32)))).2 (by decide) (by decide) ?_
    show Steps p.tables e below (T6.setTop (mkF m 31 #[.val (.int (4 : Int32)), .val (.ref b1_0), .val (.int (7 : Int32)), .val (.int (1 : Int32)), .val (.ref w_GROUP)] [])) _
    refine XS.iinc X6.here hx rfl (hb hby d2_31) rfl (l' := #[.val (.int (4 : Int32)), .val (.ref b1_0), .val (.int (7 : Int32)), .val (.int ((1 : Int32) + (1 : Int32))), .val (.ref w_GROUP)]) rfl ?_
    rw [show ((1 : Int32) + (1 : Int32)) = (2 : Int32) from by decide]
    show Steps p.tables e below (T6.setTop (mkF m 34 #[.val (.int (4 : Int32)), .val (.ref b1_0), .val (.int (7 : Int32)), .val (.int (2 : Int32)), .val (.ref w_GROUP)] [])) _
    refine XS.goto X6.here hx rfl (pc0 := 34) (pc' := 9) rfl (hb hby d2_34) (by decide) (by decide) ?_
    show Steps p.tables e below (T6.setTop (mkF m 9 #[.val (.int (4 : Int32)), .val (.ref b1_0), .val (.int (7 : Int32)), .val (.int (2 : Int32)), .val (.ref w_GROUP)] [])) _
    refine XS.iloadN X6.here hx rfl (hb hby d2_9) rfl ?_
    show Steps p.tables e below (T6.setTop (mkF m 10 #[.val (.int (4 : Int32)), .val (.ref b1_0), .val (.int (7 : Int32)), .val (.int (2 : Int32)), .val (.ref w_GROUP)] [(.int (2 : Int32))])) _
    refine XS.iloadN X6.here hx rfl (hb hby d2_10) rfl ?_
    show Steps p.tables e below (T6.setTop (mkF m 11 #[.val (.int (4 : Int32)), .val (.ref b1_0), .val (.int (7 : Int32)), .val (.int (2 : Int32)), .val (.ref w_GROUP)] [(.int (7 : Int32)), (.int (2 : Int32))])) _
    refine XS.icmpNo X6.here hx rfl (hb hby d2_11) rfl (tlt (by decide : (2 : Int32) < (7 : Int32))).2.1 ?_
    show Steps p.tables e below (T6.setTop (mkF m 14 #[.val (.int (4 : Int32)), .val (.ref b1_0), .val (.int (7 : Int32)), .val (.int (2 : Int32)), .val (.ref w_GROUP)] [])) _
    refine XS.aloadN X6.here hx rfl (hb hby d2_14) rfl rfl ?_
    show Steps p.tables e below (T6.setTop (mkF m 15 #[.val (.int (4 : Int32)), .val (.ref b1_0), .val (.int (7 : Int32)), .val (.int (2 : Int32)), .val (.ref w_GROUP)] [(.ref b1_0)])) _
    refine XS.iloadN X6.here hx rfl (hb hby d2_15) rfl ?_
    show Steps p.tables e below (T6.setTop (mkF m 16 #[.val (.int (4 : Int32)), .val (.ref b1_0), .val (.int (7 : Int32)), .val (.int (2 : Int32)), .val (.ref w_GROUP)] [(.int (2 : Int32)), (.ref b1_0)])) _
    refine X6.aaload hx (j := (2 : Int32)) (v := (.ref w_OPENED)) (by rw [e6]; exact aA7.1) (State.isArrayOf_alike hZ.alike aA7.2.1) rfl aA7.2.2 (inb_of aS7 ⟨by decide, by decide⟩) (aH7.at (inb_of aS7 ⟨by decide, by decide⟩) rfl) (g := (mkF m 16 #[.val (.int (4 : Int32)), .val (.ref b1_0), .val (.int (7 : Int32)), .val (.int (2 : Int32)), .val (.ref w_GROUP)] [(.int (2 : Int32)), (.ref b1_0)])) rfl rfl (hb hby d2_16) _ ?_
    show Steps p.tables e below (T6.setTop (mkF m 17 #[.val (.int (4 : Int32)), .val (.ref b1_0), .val (.int (7 : Int32)), .val (.int (2 : Int32)), .val (.ref w_GROUP)] [(.ref w_OPENED)])) _
    refine XS.astore X6.here hx rfl (hb hby d2_17) rfl rfl (l' := #[.val (.int (4 : Int32)), .val (.ref b1_0), .val (.int (7 : Int32)), .val (.int (2 : Int32)), .val (.ref w_OPENED)]) rfl ?_
    show Steps p.tables e below (T6.setTop (mkF m 19 #[.val (.int (4 : Int32)), .val (.ref b1_0), .val (.int (7 : Int32)), .val (.int (2 : Int32)), .val (.ref w_OPENED)] [])) _
    refine XS.aload X6.here hx rfl (hb hby d2_19) rfl rfl ?_
    show Steps p.tables e below (T6.setTop (mkF m 21 #[.val (.int (4 : Int32)), .val (.ref b1_0), .val (.int (7 : Int32)), .val (.int (2 : Int32)), .val (.ref w_OPENED)] [(.ref w_OPENED)])) _
    refine st8 _ ?_
    show Steps p.tables e below (T8.setTop (mkF m 24 #[.val (.int (4 : Int32)), .val (.ref b1_0), .val (.int (7 : Int32)), .val (.int (2 : Int32)), .val (.ref w_OPENED)] [(.int (3 : Int32))])) _
    refine XS.iloadN X8.here hx rfl (hb hby d2_24) rfl ?_
    show Steps p.tables e below (T8.setTop (mkF m 25 #[.val (.int (4 : Int32)), .val (.ref b1_0), .val (.int (7 : Int32)), .val (.int (2 : Int32)), .val (.ref w_OPENED)] [(.int (4 : Int32)), (.int (3 : Int32))])) _
    refine XS.icmpYes X8.here hx rfl (pc0 := 25) (pc' := 31) rfl (hb hby d2_25) rfl (feq (by decide : ¬ ((3 : Int32) = (4 : Int32)))).2 (by decide) (by decide) ?_
    show Steps p.tables e below (T8.setTop (mkF m 31 #[.val (.int (4 : Int32)), .val (.ref b1_0), .val (.int (7 : Int32)), .val (.int (2 : Int32)), .val (.ref w_OPENED)] [])) _
    refine XS.iinc X8.here hx rfl (hb hby d2_31) rfl (l' := #[.val (.int (4 : Int32)), .val (.ref b1_0), .val (.int (7 : Int32)), .val (.int ((2 : Int32) + (1 : Int32))), .val (.ref w_OPENED)]) rfl ?_
    rw [show ((2 : Int32) + (1 : Int32)) = (3 : Int32) from by decide]
    show Steps p.tables e below (T8.setTop (mkF m 34 #[.val (.int (4 : Int32)), .val (.ref b1_0), .val (.int (7 : Int32)), .val (.int (3 : Int32)), .val (.ref w_OPENED)] [])) _
    refine XS.goto X8.here hx rfl (pc0 := 34) (pc' := 9) rfl (hb hby d2_34) (by decide) (by decide) ?_
    show Steps p.tables e below (T8.setTop (mkF m 9 #[.val (.int (4 : Int32)), .val (.ref b1_0), .val (.int (7 : Int32)), .val (.int (3 : Int32)), .val (.ref w_OPENED)] [])) _
    refine XS.iloadN X8.here hx rfl (hb hby d2_9) rfl ?_
    show Steps p.tables e below (T8.setTop (mkF m 10 #[.val (.int (4 : Int32)), .val (.ref b1_0), .val (.int (7 : Int32)), .val (.int (3 : Int32)), .val (.ref w_OPENED)] [(.int (3 : Int32))])) _
    refine XS.iloadN X8.here hx rfl (hb hby d2_10) rfl ?_
    show Steps p.tables e below (T8.setTop (mkF m 11 #[.val (.int (4 : Int32)), .val (.ref b1_0), .val (.int (7 : Int32)), .val (.int (3 : Int32)), .val (.ref w_OPENED)] [(.int (7 : Int32)), (.int (3 : Int32))])) _
    refine XS.icmpNo X8.here hx rfl (hb hby d2_11) rfl (tlt (by decide : (3 : Int32) < (7 : Int32))).2.1 ?_
    show Steps p.tables e below (T8.setTop (mkF m 14 #[.val (.int (4 : Int32)), .val (.ref b1_0), .val (.int (7 : Int32)), .val (.int (3 : Int32)), .val (.ref w_OPENED)] [])) _
    refine XS.aloadN X8.here hx rfl (hb hby d2_14) rfl rfl ?_
    show Steps p.tables e below (T8.setTop (mkF m 15 #[.val (.int (4 : Int32)), .val (.ref b1_0), .val (.int (7 : Int32)), .val (.int (3 : Int32)), .val (.ref w_OPENED)] [(.ref b1_0)])) _
    refine XS.iloadN X8.here hx rfl (hb hby d2_15) rfl ?_
    show Steps p.tables e below (T8.setTop (mkF m 16 #[.val (.int (4 : Int32)), .val (.ref b1_0), .val (.int (7 : Int32)), .val (.int (3 : Int32)), .val (.ref w_OPENED)] [(.int (3 : Int32)), (.ref b1_0)])) _
    refine X8.aaload hx (j := (3 : Int32)) (v := (.ref w_PUT)) (by rw [e8]; exact aA9.1) (State.isArrayOf_alike hZ.alike aA9.2.1) rfl aA9.2.2 (inb_of aS9 ⟨by decide, by decide⟩) (aH9.at (inb_of aS9 ⟨by decide, by decide⟩) rfl) (g := (mkF m 16 #[.val (.int (4 : Int32)), .val (.ref b1_0), .val (.int (7 : Int32)), .val (.int (3 : Int32)), .val (.ref w_OPENED)] [(.int (3 : Int32)), (.ref b1_0)])) rfl rfl (hb hby d2_16) _ ?_
    show Steps p.tables e below (T8.setTop (mkF m 17 #[.val (.int (4 : Int32)), .val (.ref b1_0), .val (.int (7 : Int32)), .val (.int (3 : Int32)), .val (.ref w_OPENED)] [(.ref w_PUT)])) _
    refine XS.astore X8.here hx rfl (hb hby d2_17) rfl rfl (l' := #[.val (.int (4 : Int32)), .val (.ref b1_0), .val (.int (7 : Int32)), .val (.int (3 : Int32)), .val (.ref w_PUT)]) rfl ?_
    show Steps p.tables e below (T8.setTop (mkF m 19 #[.val (.int (4 : Int32)), .val (.ref b1_0), .val (.int (7 : Int32)), .val (.int (3 : Int32)), .val (.ref w_PUT)] [])) _
    refine XS.aload X8.here hx rfl (hb hby d2_19) rfl rfl ?_
    show Steps p.tables e below (T8.setTop (mkF m 21 #[.val (.int (4 : Int32)), .val (.ref b1_0), .val (.int (7 : Int32)), .val (.int (3 : Int32)), .val (.ref w_PUT)] [(.ref w_PUT)])) _
    refine st10 _ ?_
    show Steps p.tables e below (T10.setTop (mkF m 24 #[.val (.int (4 : Int32)), .val (.ref b1_0), .val (.int (7 : Int32)), .val (.int (3 : Int32)), .val (.ref w_PUT)] [(.int (4 : Int32))])) _
    refine XS.iloadN X10.here hx rfl (hb hby d2_24) rfl ?_
    show Steps p.tables e below (T10.setTop (mkF m 25 #[.val (.int (4 : Int32)), .val (.ref b1_0), .val (.int (7 : Int32)), .val (.int (3 : Int32)), .val (.ref w_PUT)] [(.int (4 : Int32)), (.int (4 : Int32))])) _
    refine XS.icmpNo X10.here hx rfl (hb hby d2_25) rfl (teq (by decide : (4 : Int32) = (4 : Int32))).2 ?_
    show Steps p.tables e below (T10.setTop (mkF m 28 #[.val (.int (4 : Int32)), .val (.ref b1_0), .val (.int (7 : Int32)), .val (.int (3 : Int32)), .val (.ref w_PUT)] [])) _
    refine XS.aload X10.here hx rfl (hb hby d2_28) rfl rfl ?_
    show Steps p.tables e below (T10.setTop (mkF m 30 #[.val (.int (4 : Int32)), .val (.ref b1_0), .val (.int (7 : Int32)), .val (.int (3 : Int32)), .val (.ref w_PUT)] [(.ref w_PUT)])) _
    jvm_step X10.here [X10.here.top, hx, (hb hby d2_30), X10.method', Bd.returns, Value.isRef, FieldType.isReference]
    first | (intro acts; rw [hr _ acts rfl rfl rfl]) | rw [hr _ _ rfl rfl rfl]
    exact Steps.refl _
  · have eH : (T10.setFrames fs).heap = T1.heap := e10; rw [eH]; exact ⟨rfl, N1, KK1, O1, trivial⟩
def Q4_15 (Z : State) (w_ACK : Addr) (w__VALUES : Addr) (w_GROUP : Addr) (w_OPENED : Addr) (w_PUT : Addr) (w_SETTLED : Addr) (w_CHECKED : Addr) (w_PARKED : Addr) (cl_w__VALUES : Cell) (h0 : Heap) (n0 : Nat) (v : Option Value) (h : Heap) (L : List Loc) : Prop := v = some (.int (4 : Int32)) ∧ Fr n0 L ∧ h = h0
set_option maxRecDepth 65536 in
set_option maxHeartbeats 40000000 in
theorem rm4_15 (l : Launch) (Z : State) (a0 : Array Value) (hw : ∀ d ∈ tables_1, d.before a0 Z = true) (ws : List Jvm.Cond) (w_ACK : Addr) (w__VALUES : Addr) (w_GROUP : Addr) (w_OPENED : Addr) (w_PUT : Addr) (w_SETTLED : Addr) (w_CHECKED : Addr) (w_PARKED : Addr) (cl_w__VALUES : Cell) (h0 : Heap) (n0 : Nat) (Z0 : n0 ≤ h0.size) (O0 : Old Z n0 h0) (HW : World Z w_ACK w__VALUES w_GROUP w_OPENED w_PUT w_SETTLED w_CHECKED w_PARKED cl_w__VALUES) :
    MetFree l (⟨"com/example/clinch/clinch/broker/NoteKind", "code", "()B"⟩ : MethodName) (head1 (Jvm.Cond.code (⟨"com/example/clinch/clinch/broker/NoteKind", "code", "()B"⟩ : MethodName) prog_7_method_4_code 1 (some .byte) :: ws) ({ frames := 0, cells := 0, slots := 0, locals := 0 } : Room)) (fun a U => a = #[(.ref w_PUT)] ∧ Z.Warmed39 U.vm ∧ U.heap = h0) (fun _ _ _ _ _ => True) (fun _ U o U' => ∃ v L, o = .returned v ∧ Q4_15 Z w_ACK w__VALUES w_GROUP w_OPENED w_PUT w_SETTLED w_CHECKED w_PARKED cl_w__VALUES h0 n0 v U'.heap L ∧ FrameEnd U o U' L ({ frames := 0, cells := 0, slots := 0, locals := 0 } : Room).cells ({ frames := 0, cells := 0, slots := 0, locals := 0 } : Room).slots) := by
  refine MetFree.of_bodySF (plainFor_of_name pn15) hisR ?_
  intro p e s m args below meth c s₁ Bd hml0 hP hK
  obtain ⟨rfl, hZ, hh⟩ := hP
  have hx := Bd.exec
  have hby := Bd.bytes
  have hml : c.maxLocals = 1 := hml0
  have hown : s.vm.findClass "com/example/clinch/clinch/broker/NoteKind" = some m.cls := findClass_of_methodNamed Bd.named
  have hnm := (name_of_methodNamed Bd.named Bd.method).1
  have X0 : Stand p l e ({ frames := 0, cells := 0, slots := 0, locals := 0 } : Room) s m #[(.ref w_PUT)] below meth c s₁ [] 0 0 := Stand.of_body Bd
  have e0 : s₁.heap = h0 := by rw [← hh, Bd.state]; rfl
  have N0 := Fr.nil n0
  have pre0 : ∀ t, Steps p.tables e below (s₁.setTop (mkF m 0 #[.val (.ref w_PUT)] [])) t → Steps p.tables e below (s₁.setTop (entryFrame m #[(.ref w_PUT)] 1)) t := fun t k => castTop (ef44 m w_PUT) k
  obtain ⟨S_w_ACK, E_w_ACK, S_w__VALUES, E_w__VALUES, S_w_GROUP, E_w_GROUP, S_w_OPENED, E_w_OPENED, S_w_PUT, E_w_PUT, S_w_SETTLED, E_w_SETTLED, S_w_CHECKED, E_w_CHECKED, S_w_PARKED, E_w_PARKED, F_code_w_ACK, F_code_w_GROUP, F_code_w_OPENED, F_code_w_PUT, F_code_w_SETTLED, F_code_w_CHECKED, F_code_w_PARKED, Ar_w__VALUES, Sz_w__VALUES, At_w__VALUES_0, At_w__VALUES_1, At_w__VALUES_2, At_w__VALUES_3, At_w__VALUES_4, At_w__VALUES_5, At_w__VALUES_6, ne_w_ACK_w_GROUP, ne_w_ACK_w_OPENED, ne_w_ACK_w_PUT, ne_w_ACK_w_SETTLED, ne_w_ACK_w_CHECKED, ne_w_ACK_w_PARKED, ne_w_GROUP_w_OPENED, ne_w_GROUP_w_PUT, ne_w_GROUP_w_SETTLED, ne_w_GROUP_w_CHECKED, ne_w_GROUP_w_PARKED, ne_w_OPENED_w_PUT, ne_w_OPENED_w_SETTLED, ne_w_OPENED_w_CHECKED, ne_w_OPENED_w_PARKED, ne_w_PUT_w_SETTLED, ne_w_PUT_w_CHECKED, ne_w_PUT_w_PARKED, ne_w_SETTLED_w_CHECKED, ne_w_SETTLED_w_PARKED, ne_w_CHECKED_w_PARKED, V_w__VALUES, -⟩ := id HW
  obtain ⟨T1, X1, e1, st1⟩ := getF X0 hx hZ hown (host := "") (Or.inl (hw _ (List.mem_of_getElem? (i := 32) rfl))) Via.refl e0 (F_code_w_PUT.ext O0.2) (g := (mkF m 1 #[.val (.ref w_PUT)] [(.ref w_PUT)])) rfl rfl (hb hby d4_1)
  obtain ⟨fs, hr, hrun, hended, hW, hsame⟩ := X1.leave (v := some (.int (4 : Int32))) (fun h => by rw [Bd.returns] at h; cases h)
  refine ⟨_, _, pre0 _ ?_, hrun, hended, _, _, rfl, ?_, ⟨_, rfl⟩, hW, hsame.mono (by decide) (by decide)⟩
  · show Steps p.tables e below (s₁.setTop (mkF m 0 #[.val (.ref w_PUT)] [])) _
    refine XS.aloadN X0.here hx rfl (hb hby d4_0) rfl rfl ?_
    show Steps p.tables e below (s₁.setTop (mkF m 1 #[.val (.ref w_PUT)] [(.ref w_PUT)])) _
    refine st1 _ ?_
    show Steps p.tables e below (T1.setTop (mkF m 4 #[.val (.ref w_PUT)] [(.int (4 : Int32))])) _
    exact retN X1 hx (t := .byte) Bd.returns (by simp) (hb hby d4_4) hr
  · exact ⟨rfl, N0, e1⟩
set_option maxRecDepth 65536 in
set_option maxHeartbeats 40000000 in
theorem rm0_c3 (l : Launch) (Z : State) (a0 : Array Value) (hw : ∀ d ∈ tables_1, d.before a0 Z = true) (ws : List Jvm.Cond) (w_ACK : Addr) (w__VALUES : Addr) (w_GROUP : Addr) (w_OPENED : Addr) (w_PUT : Addr) (w_SETTLED : Addr) (w_CHECKED : Addr) (w_PARKED : Addr) (cl_w__VALUES : Cell) (p1 : Int32) (h0 : Heap) (n0 : Nat) (Z0 : n0 ≤ h0.size) (O0 : Old Z n0 h0) (HW : World Z w_ACK w__VALUES w_GROUP w_OPENED w_PUT w_SETTLED w_CHECKED w_PARKED cl_w__VALUES) (hk : ((p1 &&& (2147483647 : Int32)) % (7 : Int32)) = (3 : Int32)) :
    MetFree l x (head1 (Jvm.Cond.code x code maxLocals ret :: ws) room_1) (fun a U => a = #[(.int p1)] ∧ Z.Warmed39 U.vm ∧ U.heap = h0) (fun _ _ _ _ _ => True) (fun _ U o U' => ∃ v L, o = .returned v ∧ Q0 h0 n0 v U'.heap L ∧ FrameEnd U o U' L room_1.cells room_1.slots) := by
  refine MetFree.of_bodySF (plainFor_of_name pn7) hisR ?_
  intro p e s m args below meth c s₁ Bd hml0 hP hK
  obtain ⟨rfl, hZ, hh⟩ := hP
  have hx := Bd.exec
  have hby := Bd.bytes
  have hml : c.maxLocals = 4 := hml0
  have hown : s.vm.findClass "com/example/clinch/clinch/broker/NoteKindOfPinLaw" = some m.cls := findClass_of_methodNamed Bd.named
  have hnm := (name_of_methodNamed Bd.named Bd.method).1
  have X0 : Stand p l e room_1 s m #[(.int p1)] below meth c s₁ [] 0 0 := Stand.of_body Bd
  have e0 : s₁.heap = h0 := by rw [← hh, Bd.state]; rfl
  have N0 := Fr.nil n0
  have pre0 : ∀ t, Steps p.tables e below (s₁.setTop (mkF m 0 #[.val (.int p1), .unset, .unset, .unset] [])) t → Steps p.tables e below (s₁.setTop (entryFrame m #[(.int p1)] maxLocals)) t := fun t k => castTop (ef47 m p1) k
  obtain ⟨S_w_ACK, E_w_ACK, S_w__VALUES, E_w__VALUES, S_w_GROUP, E_w_GROUP, S_w_OPENED, E_w_OPENED, S_w_PUT, E_w_PUT, S_w_SETTLED, E_w_SETTLED, S_w_CHECKED, E_w_CHECKED, S_w_PARKED, E_w_PARKED, F_code_w_ACK, F_code_w_GROUP, F_code_w_OPENED, F_code_w_PUT, F_code_w_SETTLED, F_code_w_CHECKED, F_code_w_PARKED, Ar_w__VALUES, Sz_w__VALUES, At_w__VALUES_0, At_w__VALUES_1, At_w__VALUES_2, At_w__VALUES_3, At_w__VALUES_4, At_w__VALUES_5, At_w__VALUES_6, ne_w_ACK_w_GROUP, ne_w_ACK_w_OPENED, ne_w_ACK_w_PUT, ne_w_ACK_w_SETTLED, ne_w_ACK_w_CHECKED, ne_w_ACK_w_PARKED, ne_w_GROUP_w_OPENED, ne_w_GROUP_w_PUT, ne_w_GROUP_w_SETTLED, ne_w_GROUP_w_CHECKED, ne_w_GROUP_w_PARKED, ne_w_OPENED_w_PUT, ne_w_OPENED_w_SETTLED, ne_w_OPENED_w_CHECKED, ne_w_OPENED_w_PARKED, ne_w_PUT_w_SETTLED, ne_w_PUT_w_CHECKED, ne_w_PUT_w_PARKED, ne_w_SETTLED_w_CHECKED, ne_w_SETTLED_w_PARKED, ne_w_CHECKED_w_PARKED, V_w__VALUES, -⟩ := id HW
  obtain ⟨_, _, ⟨T1, L1, k1, n1⟩, -, X1, ⟨Lc1, hQ1, l1, y1, z1⟩, st1⟩ := Jvm.LawKit.callS X0 hx (y := (⟨"com/example/clinch/clinch/broker/NoteKindOfPinLaw", "expected", "(I)Lcom/example/clinch/clinch/broker/NoteKind;"⟩ : MethodName)) hown (mvT hZ (hw _ (List.mem_of_getElem? (i := 1) rfl))) (mvT hZ (hw _ (List.mem_of_getElem? (i := 2) rfl))) (mvT hZ (hw _ (List.mem_of_getElem? (i := 3) rfl))) (mvT hZ (hw _ (List.mem_of_getElem? (i := 4) rfl))) (by decide) (backOf (W := 0) (rm1_13 l Z a0 hw [] w_ACK w__VALUES w_GROUP w_OPENED w_PUT w_SETTLED w_CHECKED w_PARKED cl_w__VALUES h0 n0 (own_n0 O0) O0 HW) hZ (hw _ (List.mem_of_getElem? (i := 4) rfl)) (hw _ (List.mem_of_getElem? (i := 3) rfl)) (by decide) (by decide)) (g := (mkF m 11 #[.val (.int p1), .val (.int (4 : Int32)), .unset, .unset] [(.int (4 : Int32))])) rfl (by rw [hml]; rfl) (argsL := [(.int (4 : Int32))]) (rest := []) (lenOf pd8 rfl) rfl (by show 2 * 0 + _ ≤ _; exact Nat.le_of_eq rfl) (hb hby at_11) (fun _ _ => ⟨rfl, e0, (by decide : 0 + 0 ≤ _), (by decide : 0 + 0 ≤ _)⟩)
  dsimp only [Pt.U, Pt.locs, Pt.cells, Pt.slots] at X1 l1 y1 z1 st1 hQ1
  subst l1 y1 z1
  obtain ⟨rfl, N1q, e1⟩ := hQ1
  have N1 := Fr.app N0 N1q
  obtain ⟨_, _, ⟨T2, L2, k2, n2⟩, -, X2, ⟨Lc2, hQ2, l2, y2, z2⟩, st2⟩ := Jvm.LawKit.callS X1 hx (y := (⟨"com/example/clinch/clinch/broker/NoteKind", "of", "(B)Lcom/example/clinch/clinch/broker/NoteKind;"⟩ : MethodName)) hown (mvT hZ (hw _ (List.mem_of_getElem? (i := 8) rfl))) (mvT hZ (hw _ (List.mem_of_getElem? (i := 9) rfl))) (mvT hZ (hw _ (List.mem_of_getElem? (i := 6) rfl))) (mvT hZ (hw _ (List.mem_of_getElem? (i := 10) rfl))) (by decide) (backOf (W := 0) (rm2_14 l Z a0 hw [] w_ACK w__VALUES w_GROUP w_OPENED w_PUT w_SETTLED w_CHECKED w_PARKED cl_w__VALUES h0 n0 (own_n0 O0) O0 HW) hZ (hw _ (List.mem_of_getElem? (i := 10) rfl)) (hw _ (List.mem_of_getElem? (i := 6) rfl)) (by decide) (by decide)) (g := (mkF m 17 #[.val (.int p1), .val (.int (4 : Int32)), .val (.ref w_PUT), .unset] [(.int (4 : Int32))])) rfl (by rw [hml]; rfl) (argsL := [(.int (4 : Int32))]) (rest := []) (lenOf pd39 rfl) rfl (by show 2 * 0 + _ ≤ _; exact Nat.le_of_eq rfl) (hb hby at_17) (fun _ _ => ⟨rfl, e1, (by decide : 0 + 1 ≤ _), (by decide : 0 + 7 ≤ _)⟩)
  dsimp only [Pt.U, Pt.locs, Pt.cells, Pt.slots] at X2 l2 y2 z2 st2 hQ2
  subst l2 y2 z2
  obtain ⟨rfl, N2q, K2, O2, -⟩ := hQ2
  have N2 := Fr.app N1 N2q
  obtain ⟨cq3, kq3, q3a, q3b, q3c⟩ := isOf hZ rfl (E_w_PUT.ext O2.2)
  obtain ⟨_, _, ⟨T3, L3, k3, n3⟩, -, X3, ⟨Lc3, hQ3, l3, y3, z3⟩, st3⟩ := X2.virtualBack hx (y := (⟨"com/example/clinch/clinch/broker/NoteKind", "code", "()B"⟩ : MethodName)) (z := (⟨"com/example/clinch/clinch/broker/NoteKind", "code", "()B"⟩ : MethodName)) hown (mvT hZ (hw _ (List.mem_of_getElem? (i := 34) rfl))) (mvT hZ (hw _ (List.mem_of_getElem? (i := 35) rfl))) (notFace_of_selects (args := #[]) (mvT hZ (hw _ (List.mem_of_getElem? (i := 37) rfl)))) (mvT hZ (hw _ (List.mem_of_getElem? (i := 37) rfl))) (mvT hZ (hw _ (List.mem_of_getElem? (i := 36) rfl))) (by decide) (backOf (W := 0) (rm4_15 l Z a0 hw [] w_ACK w__VALUES w_GROUP w_OPENED w_PUT w_SETTLED w_CHECKED w_PARKED cl_w__VALUES T2.heap n0 (own_n0 O2) O2 HW) hZ (hw _ (List.mem_of_getElem? (i := 38) rfl)) (hw _ (List.mem_of_getElem? (i := 6) rfl)) (by decide) (by decide)) q3a q3c (g := (mkF m 27 #[.val (.int p1), .val (.int (4 : Int32)), .val (.ref w_PUT), .val (.ref w_PUT)] [(.ref w_PUT)])) rfl (by rw [hml]; rfl) (Steps.refl _) (argsL := []) (rest := []) (lenOf pd45 rfl) rfl (by show 2 * 0 + _ ≤ _; exact Nat.le_of_eq rfl) (hb hby at_27) (fun _ _ => ⟨rfl, rfl, (by decide : 1 + 0 ≤ _), (by decide : 7 + 0 ≤ _)⟩)
  dsimp only [Pt.U, Pt.locs, Pt.cells, Pt.slots] at X3 l3 y3 z3 st3 hQ3
  subst l3 y3 z3
  obtain ⟨rfl, N3q, e3⟩ := hQ3
  have N3 := Fr.app N2 N3q
  obtain ⟨fs, hr, hrun, hended, hW, hsame⟩ := X3.leave (v := some (.int (1 : Int32))) (fun h => by rw [Bd.returns] at h; cases h)
  refine ⟨_, _, pre0 _ ?_, hrun, hended, _, _, rfl, ?_, ⟨_, rfl⟩, hW, hsame.mono (by decide) (by decide)⟩
  · show Steps p.tables e below (s₁.setTop (mkF m 0 #[.val (.int p1), .unset, .unset, .unset] [])) _
    refine XS.iloadN X0.here hx rfl (hb hby at_0) rfl ?_
    show Steps p.tables e below (s₁.setTop (mkF m 1 #[.val (.int p1), .unset, .unset, .unset] [(.int p1)])) _
    refine X0.ldcInt hx hown (mvT hZ (hw _ (List.mem_of_getElem? (i := 0) rfl))) (g := (mkF m 1 #[.val (.int p1), .unset, .unset, .unset] [(.int p1)])) rfl (hb hby at_1) _ ?_
    show Steps p.tables e below (s₁.setTop (mkF m 3 #[.val (.int p1), .unset, .unset, .unset] [(.int (2147483647 : Int32)), (.int p1)])) _
    refine XS.iand X0.here hx rfl (hb hby at_3) rfl ?_
    show Steps p.tables e below (s₁.setTop (mkF m 4 #[.val (.int p1), .unset, .unset, .unset] [(.int (p1 &&& (2147483647 : Int32)))])) _
    refine XS.bipush X0.here hx rfl (hb hby at_4) ?_
    show Steps p.tables e below (s₁.setTop (mkF m 6 #[.val (.int p1), .unset, .unset, .unset] [(.int (7 : Int32)), (.int (p1 &&& (2147483647 : Int32)))])) _
    refine iremM X0 hx rfl (hb hby at_6) rfl (by decide) ?_
    rw [hk]
    show Steps p.tables e below (s₁.setTop (mkF m 7 #[.val (.int p1), .unset, .unset, .unset] [(.int (3 : Int32))])) _
    refine XS.iconst X0.here hx rfl (hb hby at_7) ?_
    show Steps p.tables e below (s₁.setTop (mkF m 8 #[.val (.int p1), .unset, .unset, .unset] [(.int (1 : Int32)), (.int (3 : Int32))])) _
    refine XS.iadd X0.here hx rfl (hb hby at_8) rfl ?_
    rw [show ((3 : Int32) + (1 : Int32)) = (4 : Int32) from by decide]
    show Steps p.tables e below (s₁.setTop (mkF m 9 #[.val (.int p1), .unset, .unset, .unset] [(.int (4 : Int32))])) _
    refine XS.istoreN X0.here hx rfl (hb hby at_9) rfl (l' := #[.val (.int p1), .val (.int (4 : Int32)), .unset, .unset]) rfl ?_
    show Steps p.tables e below (s₁.setTop (mkF m 10 #[.val (.int p1), .val (.int (4 : Int32)), .unset, .unset] [])) _
    refine XS.iloadN X0.here hx rfl (hb hby at_10) rfl ?_
    show Steps p.tables e below (s₁.setTop (mkF m 11 #[.val (.int p1), .val (.int (4 : Int32)), .unset, .unset] [(.int (4 : Int32))])) _
    refine st1 _ ?_
    show Steps p.tables e below (T1.setTop (mkF m 14 #[.val (.int p1), .val (.int (4 : Int32)), .unset, .unset] [(.ref w_PUT)])) _
    refine XS.astoreN X1.here hx rfl (hb hby at_14) rfl rfl (l' := #[.val (.int p1), .val (.int (4 : Int32)), .val (.ref w_PUT), .unset]) rfl ?_
    show Steps p.tables e below (T1.setTop (mkF m 15 #[.val (.int p1), .val (.int (4 : Int32)), .val (.ref w_PUT), .unset] [])) _
    refine XS.iloadN X1.here hx rfl (hb hby at_15) rfl ?_
    show Steps p.tables e below (T1.setTop (mkF m 16 #[.val (.int p1), .val (.int (4 : Int32)), .val (.ref w_PUT), .unset] [(.int (4 : Int32))])) _
    refine XS.i2b X1.here hx rfl (hb hby at_16) rfl ?_
    rw [show ((4 : Int32).toInt8.toInt32) = (4 : Int32) from by decide]
    show Steps p.tables e below (T1.setTop (mkF m 17 #[.val (.int p1), .val (.int (4 : Int32)), .val (.ref w_PUT), .unset] [(.int (4 : Int32))])) _
    refine st2 _ ?_
    show Steps p.tables e below (T2.setTop (mkF m 20 #[.val (.int p1), .val (.int (4 : Int32)), .val (.ref w_PUT), .unset] [(.ref w_PUT)])) _
    refine XS.astoreN X2.here hx rfl (hb hby at_20) rfl rfl (l' := #[.val (.int p1), .val (.int (4 : Int32)), .val (.ref w_PUT), .val (.ref w_PUT)]) rfl ?_
    show Steps p.tables e below (T2.setTop (mkF m 21 #[.val (.int p1), .val (.int (4 : Int32)), .val (.ref w_PUT), .val (.ref w_PUT)] [])) _
    refine XS.aloadN X2.here hx rfl (hb hby at_21) rfl rfl ?_
    show Steps p.tables e below (T2.setTop (mkF m 22 #[.val (.int p1), .val (.int (4 : Int32)), .val (.ref w_PUT), .val (.ref w_PUT)] [(.ref w_PUT)])) _
    refine XS.aloadN X2.here hx rfl (hb hby at_22) rfl rfl ?_
    show Steps p.tables e below (T2.setTop (mkF m 23 #[.val (.int p1), .val (.int (4 : Int32)), .val (.ref w_PUT), .val (.ref w_PUT)] [(.ref w_PUT), (.ref w_PUT)])) _
    refine Jvm.RoadKit.acmp (g := (mkF m 23 #[.val (.int p1), .val (.int (4 : Int32)), .val (.ref w_PUT), .val (.ref w_PUT)] [(.ref w_PUT), (.ref w_PUT)])) X2 hx rfl rfl rfl (pc0 := 23) (pc' := 26) (same := true) rfl (hb hby at_23) rfl (decide_eq_true rfl) (by decide) (by decide) ?_
    show Steps p.tables e below (T2.setTop (mkF m 26 #[.val (.int p1), .val (.int (4 : Int32)), .val (.ref w_PUT), .val (.ref w_PUT)] [])) _
    refine XS.aloadN X2.here hx rfl (hb hby at_26) rfl rfl ?_
    show Steps p.tables e below (T2.setTop (mkF m 27 #[.val (.int p1), .val (.int (4 : Int32)), .val (.ref w_PUT), .val (.ref w_PUT)] [(.ref w_PUT)])) _
    refine st3.trans ?_
    show Steps p.tables e below (T3.setTop (mkF m 30 #[.val (.int p1), .val (.int (4 : Int32)), .val (.ref w_PUT), .val (.ref w_PUT)] [(.int (4 : Int32))])) _
    refine XS.iloadN X3.here hx rfl (hb hby at_30) rfl ?_
    show Steps p.tables e below (T3.setTop (mkF m 31 #[.val (.int p1), .val (.int (4 : Int32)), .val (.ref w_PUT), .val (.ref w_PUT)] [(.int (4 : Int32)), (.int (4 : Int32))])) _
    refine XS.i2b X3.here hx rfl (hb hby at_31) rfl ?_
    rw [show ((4 : Int32).toInt8.toInt32) = (4 : Int32) from by decide]
    show Steps p.tables e below (T3.setTop (mkF m 32 #[.val (.int p1), .val (.int (4 : Int32)), .val (.ref w_PUT), .val (.ref w_PUT)] [(.int (4 : Int32)), (.int (4 : Int32))])) _
    refine XS.icmpNo X3.here hx rfl (hb hby at_32) rfl (teq (by decide : (4 : Int32) = (4 : Int32))).2 ?_
    show Steps p.tables e below (T3.setTop (mkF m 35 #[.val (.int p1), .val (.int (4 : Int32)), .val (.ref w_PUT), .val (.ref w_PUT)] [])) _
    refine XS.iconst X3.here hx rfl (hb hby at_35) ?_
    show Steps p.tables e below (T3.setTop (mkF m 36 #[.val (.int p1), .val (.int (4 : Int32)), .val (.ref w_PUT), .val (.ref w_PUT)] [(.int (1 : Int32))])) _
    refine XS.goto X3.here hx rfl (pc0 := 36) (pc' := 40) rfl (hb hby at_36) (by decide) (by decide) ?_
    show Steps p.tables e below (T3.setTop (mkF m 40 #[.val (.int p1), .val (.int (4 : Int32)), .val (.ref w_PUT), .val (.ref w_PUT)] [(.int (1 : Int32))])) _
    exact retN X3 hx (t := .boolean) Bd.returns (by simp) (hb hby at_40) hr
  · exact ⟨rfl, N3⟩
theorem d1_36 : decode method_2_code 36 = .ok (.iload_n 0, 1) := by decide +kernel
theorem d1_37 : decode method_2_code 37 = .ok (.iconst 5, 1) := by decide +kernel
theorem d1_38 : decode method_2_code 38 = .ok (.if_icmp .ne 7, 3) := by decide +kernel
theorem d1_41 : decode method_2_code 41 = .ok (.getstatic 22, 3) := by decide +kernel
theorem d1_44 : decode method_2_code 44 = .ok (.areturn, 1) := by decide +kernel
def Q1_17 (Z : State) (w_ACK : Addr) (w__VALUES : Addr) (w_GROUP : Addr) (w_OPENED : Addr) (w_PUT : Addr) (w_SETTLED : Addr) (w_CHECKED : Addr) (w_PARKED : Addr) (cl_w__VALUES : Cell) (h0 : Heap) (n0 : Nat) (v : Option Value) (h : Heap) (L : List Loc) : Prop := v = some (.ref w_SETTLED) ∧ Fr n0 L ∧ h = h0
set_option maxRecDepth 65536 in
set_option maxHeartbeats 40000000 in
theorem rm1_17 (l : Launch) (Z : State) (a0 : Array Value) (hw : ∀ d ∈ tables_1, d.before a0 Z = true) (ws : List Jvm.Cond) (w_ACK : Addr) (w__VALUES : Addr) (w_GROUP : Addr) (w_OPENED : Addr) (w_PUT : Addr) (w_SETTLED : Addr) (w_CHECKED : Addr) (w_PARKED : Addr) (cl_w__VALUES : Cell) (h0 : Heap) (n0 : Nat) (Z0 : n0 ≤ h0.size) (O0 : Old Z n0 h0) (HW : World Z w_ACK w__VALUES w_GROUP w_OPENED w_PUT w_SETTLED w_CHECKED w_PARKED cl_w__VALUES) :
    MetFree l (⟨"com/example/clinch/clinch/broker/NoteKindOfPinLaw", "expected", "(I)Lcom/example/clinch/clinch/broker/NoteKind;"⟩ : MethodName) (head1 (Jvm.Cond.code (⟨"com/example/clinch/clinch/broker/NoteKindOfPinLaw", "expected", "(I)Lcom/example/clinch/clinch/broker/NoteKind;"⟩ : MethodName) method_2_code 1 (some (.object "com/example/clinch/clinch/broker/NoteKind")) :: ws) ({ frames := 0, cells := 0, slots := 0, locals := 0 } : Room)) (fun a U => a = #[(.int (5 : Int32))] ∧ Z.Warmed39 U.vm ∧ U.heap = h0) (fun _ _ _ _ _ => True) (fun _ U o U' => ∃ v L, o = .returned v ∧ Q1_17 Z w_ACK w__VALUES w_GROUP w_OPENED w_PUT w_SETTLED w_CHECKED w_PARKED cl_w__VALUES h0 n0 v U'.heap L ∧ FrameEnd U o U' L ({ frames := 0, cells := 0, slots := 0, locals := 0 } : Room).cells ({ frames := 0, cells := 0, slots := 0, locals := 0 } : Room).slots) := by
  refine MetFree.of_bodySF (plainFor_of_name pn7) hisR ?_
  intro p e s m args below meth c s₁ Bd hml0 hP hK
  obtain ⟨rfl, hZ, hh⟩ := hP
  have hx := Bd.exec
  have hby := Bd.bytes
  have hml : c.maxLocals = 1 := hml0
  have hown : s.vm.findClass "com/example/clinch/clinch/broker/NoteKindOfPinLaw" = some m.cls := findClass_of_methodNamed Bd.named
  have hnm := (name_of_methodNamed Bd.named Bd.method).1
  have X0 : Stand p l e ({ frames := 0, cells := 0, slots := 0, locals := 0 } : Room) s m #[(.int (5 : Int32))] below meth c s₁ [] 0 0 := Stand.of_body Bd
  have e0 : s₁.heap = h0 := by rw [← hh, Bd.state]; rfl
  have N0 := Fr.nil n0
  have pre0 : ∀ t, Steps p.tables e below (s₁.setTop (mkF m 0 #[.val (.int (5 : Int32))] [])) t → Steps p.tables e below (s₁.setTop (entryFrame m #[(.int (5 : Int32))] 1)) t := fun t k => castTop (ef6 m (5 : Int32)) k
  obtain ⟨S_w_ACK, E_w_ACK, S_w__VALUES, E_w__VALUES, S_w_GROUP, E_w_GROUP, S_w_OPENED, E_w_OPENED, S_w_PUT, E_w_PUT, S_w_SETTLED, E_w_SETTLED, S_w_CHECKED, E_w_CHECKED, S_w_PARKED, E_w_PARKED, F_code_w_ACK, F_code_w_GROUP, F_code_w_OPENED, F_code_w_PUT, F_code_w_SETTLED, F_code_w_CHECKED, F_code_w_PARKED, Ar_w__VALUES, Sz_w__VALUES, At_w__VALUES_0, At_w__VALUES_1, At_w__VALUES_2, At_w__VALUES_3, At_w__VALUES_4, At_w__VALUES_5, At_w__VALUES_6, ne_w_ACK_w_GROUP, ne_w_ACK_w_OPENED, ne_w_ACK_w_PUT, ne_w_ACK_w_SETTLED, ne_w_ACK_w_CHECKED, ne_w_ACK_w_PARKED, ne_w_GROUP_w_OPENED, ne_w_GROUP_w_PUT, ne_w_GROUP_w_SETTLED, ne_w_GROUP_w_CHECKED, ne_w_GROUP_w_PARKED, ne_w_OPENED_w_PUT, ne_w_OPENED_w_SETTLED, ne_w_OPENED_w_CHECKED, ne_w_OPENED_w_PARKED, ne_w_PUT_w_SETTLED, ne_w_PUT_w_CHECKED, ne_w_PUT_w_PARKED, ne_w_SETTLED_w_CHECKED, ne_w_SETTLED_w_PARKED, ne_w_CHECKED_w_PARKED, V_w__VALUES, -⟩ := id HW
  obtain ⟨T1, X1, e1, st1⟩ := getS2 X0 hx hZ hown (host := "") (Or.inl (hw _ (List.mem_of_getElem? (i := 42) rfl))) Via.refl e0 (S_w_SETTLED.ext O0.2) (g := (mkF m 41 #[.val (.int (5 : Int32))] [])) rfl (hb hby d1_41)
  obtain ⟨fs, hr, hrun, hended, hW, hsame⟩ := X1.leave (v := some (.ref w_SETTLED)) (fun h => by rw [Bd.returns] at h; cases h)
  refine ⟨_, _, pre0 _ ?_, hrun, hended, _, _, rfl, ?_, ⟨_, rfl⟩, hW, hsame.mono (by decide) (by decide)⟩
  · show Steps p.tables e below (s₁.setTop (mkF m 0 #[.val (.int (5 : Int32))] [])) _
    refine XS.iloadN X0.here hx rfl (hb hby d1_0) rfl ?_
    show Steps p.tables e below (s₁.setTop (mkF m 1 #[.val (.int (5 : Int32))] [(.int (5 : Int32))])) _
    refine XS.iconst X0.here hx rfl (hb hby d1_1) ?_
    show Steps p.tables e below (s₁.setTop (mkF m 2 #[.val (.int (5 : Int32))] [(.int (1 : Int32)), (.int (5 : Int32))])) _
    refine XS.icmpYes X0.here hx rfl (pc0 := 2) (pc' := 9) rfl (hb hby d1_2) rfl (feq (by decide : ¬ ((5 : Int32) = (1 : Int32)))).2 (by decide) (by decide) ?_
    show Steps p.tables e below (s₁.setTop (mkF m 9 #[.val (.int (5 : Int32))] [])) _
    refine XS.iloadN X0.here hx rfl (hb hby d1_9) rfl ?_
    show Steps p.tables e below (s₁.setTop (mkF m 10 #[.val (.int (5 : Int32))] [(.int (5 : Int32))])) _
    refine XS.iconst X0.here hx rfl (hb hby d1_10) ?_
    show Steps p.tables e below (s₁.setTop (mkF m 11 #[.val (.int (5 : Int32))] [(.int (2 : Int32)), (.int (5 : Int32))])) _
    refine XS.icmpYes X0.here hx rfl (pc0 := 11) (pc' := 18) rfl (hb hby d1_11) rfl (feq (by decide : ¬ ((5 : Int32) = (2 : Int32)))).2 (by decide) (by decide) ?_
    show Steps p.tables e below (s₁.setTop (mkF m 18 #[.val (.int (5 : Int32))] [])) _
    refine XS.iloadN X0.here hx rfl (hb hby d1_18) rfl ?_
    show Steps p.tables e below (s₁.setTop (mkF m 19 #[.val (.int (5 : Int32))] [(.int (5 : Int32))])) _
    refine XS.iconst X0.here hx rfl (hb hby d1_19) ?_
    show Steps p.tables e below (s₁.setTop (mkF m 20 #[.val (.int (5 : Int32))] [(.int (3 : Int32)), (.int (5 : Int32))])) _
    refine XS.icmpYes X0.here hx rfl (pc0 := 20) (pc' := 27) rfl (hb hby d1_20) rfl (feq (by decide : ¬ ((5 : Int32) = (3 : Int32)))).2 (by decide) (by decide) ?_
    show Steps p.tables e below (s₁.setTop (mkF m 27 #[.val (.int (5 : Int32))] [])) _
    refine XS.iloadN X0.here hx rfl (hb hby d1_27) rfl ?_
    show Steps p.tables e below (s₁.setTop (mkF m 28 #[.val (.int (5 : Int32))] [(.int (5 : Int32))])) _
    refine XS.iconst X0.here hx rfl (hb hby d1_28) ?_
    show Steps p.tables e below (s₁.setTop (mkF m 29 #[.val (.int (5 : Int32))] [(.int (4 : Int32)), (.int (5 : Int32))])) _
    refine XS.icmpYes X0.here hx rfl (pc0 := 29) (pc' := 36) rfl (hb hby d1_29) rfl (feq (by decide : ¬ ((5 : Int32) = (4 : Int32)))).2 (by decide) (by decide) ?_
    show Steps p.tables e below (s₁.setTop (mkF m 36 #[.val (.int (5 : Int32))] [])) _
    refine XS.iloadN X0.here hx rfl (hb hby d1_36) rfl ?_
    show Steps p.tables e below (s₁.setTop (mkF m 37 #[.val (.int (5 : Int32))] [(.int (5 : Int32))])) _
    refine XS.iconst X0.here hx rfl (hb hby d1_37) ?_
    show Steps p.tables e below (s₁.setTop (mkF m 38 #[.val (.int (5 : Int32))] [(.int (5 : Int32)), (.int (5 : Int32))])) _
    refine XS.icmpNo X0.here hx rfl (hb hby d1_38) rfl (teq (by decide : (5 : Int32) = (5 : Int32))).2 ?_
    show Steps p.tables e below (s₁.setTop (mkF m 41 #[.val (.int (5 : Int32))] [])) _
    refine st1 _ ?_
    show Steps p.tables e below (T1.setTop (mkF m 44 #[.val (.int (5 : Int32))] [(.ref w_SETTLED)])) _
    jvm_step X1.here [X1.here.top, hx, (hb hby d1_44), X1.method', Bd.returns, Value.isRef, FieldType.isReference]
    first | (intro acts; rw [hr _ acts rfl rfl rfl]) | rw [hr _ _ rfl rfl rfl]
    exact Steps.refl _
  · exact ⟨rfl, N0, e1⟩
def Q2_18 (Z : State) (w_ACK : Addr) (w__VALUES : Addr) (w_GROUP : Addr) (w_OPENED : Addr) (w_PUT : Addr) (w_SETTLED : Addr) (w_CHECKED : Addr) (w_PARKED : Addr) (cl_w__VALUES : Cell) (h0 : Heap) (n0 : Nat) (v : Option Value) (h : Heap) (L : List Loc) : Prop := v = some (.ref w_SETTLED) ∧ Fr n0 L ∧ Keep h0 h [] ∧ Old Z n0 h ∧ True
set_option maxRecDepth 65536 in
set_option maxHeartbeats 40000000 in
theorem rm2_18 (l : Launch) (Z : State) (a0 : Array Value) (hw : ∀ d ∈ tables_1, d.before a0 Z = true) (ws : List Jvm.Cond) (w_ACK : Addr) (w__VALUES : Addr) (w_GROUP : Addr) (w_OPENED : Addr) (w_PUT : Addr) (w_SETTLED : Addr) (w_CHECKED : Addr) (w_PARKED : Addr) (cl_w__VALUES : Cell) (h0 : Heap) (n0 : Nat) (Z0 : n0 ≤ h0.size) (O0 : Old Z n0 h0) (HW : World Z w_ACK w__VALUES w_GROUP w_OPENED w_PUT w_SETTLED w_CHECKED w_PARKED cl_w__VALUES) :
    MetFree l (⟨"com/example/clinch/clinch/broker/NoteKind", "of", "(B)Lcom/example/clinch/clinch/broker/NoteKind;"⟩ : MethodName) (head1 (Jvm.Cond.code (⟨"com/example/clinch/clinch/broker/NoteKind", "of", "(B)Lcom/example/clinch/clinch/broker/NoteKind;"⟩ : MethodName) prog_7_method_5_code 5 (some (.object "com/example/clinch/clinch/broker/NoteKind")) :: ws) ({ frames := 2, cells := 1, slots := 7, locals := 25 } : Room)) (fun a U => a = #[(.int (5 : Int32))] ∧ Z.Warmed39 U.vm ∧ U.heap = h0) (fun _ _ _ _ _ => True) (fun _ U o U' => ∃ v L, o = .returned v ∧ Q2_18 Z w_ACK w__VALUES w_GROUP w_OPENED w_PUT w_SETTLED w_CHECKED w_PARKED cl_w__VALUES h0 n0 v U'.heap L ∧ FrameEnd U o U' L ({ frames := 2, cells := 1, slots := 7, locals := 25 } : Room).cells ({ frames := 2, cells := 1, slots := 7, locals := 25 } : Room).slots) := by
  refine MetFree.of_bodySF (plainFor_of_name pn15) hisR ?_
  intro p e s m args below meth c s₁ Bd hml0 hP hK
  obtain ⟨rfl, hZ, hh⟩ := hP
  have hx := Bd.exec
  have hby := Bd.bytes
  have hml : c.maxLocals = 5 := hml0
  have hown : s.vm.findClass "com/example/clinch/clinch/broker/NoteKind" = some m.cls := findClass_of_methodNamed Bd.named
  have hnm := (name_of_methodNamed Bd.named Bd.method).1
  have X0 : Stand p l e ({ frames := 2, cells := 1, slots := 7, locals := 25 } : Room) s m #[(.int (5 : Int32))] below meth c s₁ [] 0 0 := Stand.of_body Bd
  have e0 : s₁.heap = h0 := by rw [← hh, Bd.state]; rfl
  have N0 := Fr.nil n0
  have pre0 : ∀ t, Steps p.tables e below (s₁.setTop (mkF m 0 #[.val (.int (5 : Int32)), .unset, .unset, .unset, .unset] [])) t → Steps p.tables e below (s₁.setTop (entryFrame m #[(.int (5 : Int32))] 5)) t := fun t k => castTop (ef38 m (5 : Int32)) k
  obtain ⟨S_w_ACK, E_w_ACK, S_w__VALUES, E_w__VALUES, S_w_GROUP, E_w_GROUP, S_w_OPENED, E_w_OPENED, S_w_PUT, E_w_PUT, S_w_SETTLED, E_w_SETTLED, S_w_CHECKED, E_w_CHECKED, S_w_PARKED, E_w_PARKED, F_code_w_ACK, F_code_w_GROUP, F_code_w_OPENED, F_code_w_PUT, F_code_w_SETTLED, F_code_w_CHECKED, F_code_w_PARKED, Ar_w__VALUES, Sz_w__VALUES, At_w__VALUES_0, At_w__VALUES_1, At_w__VALUES_2, At_w__VALUES_3, At_w__VALUES_4, At_w__VALUES_5, At_w__VALUES_6, ne_w_ACK_w_GROUP, ne_w_ACK_w_OPENED, ne_w_ACK_w_PUT, ne_w_ACK_w_SETTLED, ne_w_ACK_w_CHECKED, ne_w_ACK_w_PARKED, ne_w_GROUP_w_OPENED, ne_w_GROUP_w_PUT, ne_w_GROUP_w_SETTLED, ne_w_GROUP_w_CHECKED, ne_w_GROUP_w_PARKED, ne_w_OPENED_w_PUT, ne_w_OPENED_w_SETTLED, ne_w_OPENED_w_CHECKED, ne_w_OPENED_w_PARKED, ne_w_PUT_w_SETTLED, ne_w_PUT_w_CHECKED, ne_w_PUT_w_PARKED, ne_w_SETTLED_w_CHECKED, ne_w_SETTLED_w_PARKED, ne_w_CHECKED_w_PARKED, V_w__VALUES, -⟩ := id HW
  obtain ⟨_, _, ⟨T1, L1, k1, n1⟩, -, X1, ⟨Lc1, hQ1, l1, y1, z1⟩, st1⟩ := Jvm.LawKit.callS X0 hx (y := (⟨"com/example/clinch/clinch/broker/NoteKind", "values", "()[Lcom/example/clinch/clinch/broker/NoteKind;"⟩ : MethodName)) hown (mvT hZ (hw _ (List.mem_of_getElem? (i := 11) rfl))) (mvT hZ (hw _ (List.mem_of_getElem? (i := 12) rfl))) (mvT hZ (hw _ (List.mem_of_getElem? (i := 6) rfl))) (mvT hZ (hw _ (List.mem_of_getElem? (i := 13) rfl))) (by decide) (backOf (W := 0) (rm3_1 l Z a0 hw [] w_ACK w__VALUES w_GROUP w_OPENED w_PUT w_SETTLED w_CHECKED w_PARKED cl_w__VALUES h0 n0 (own_n0 O0) O0 HW) hZ (hw _ (List.mem_of_getElem? (i := 13) rfl)) (hw _ (List.mem_of_getElem? (i := 6) rfl)) (by decide) (by decide)) (g := (mkF m 0 #[.val (.int (5 : Int32)), .unset, .unset, .unset, .unset] [])) rfl (by rw [hml]; rfl) (argsL := []) (rest := []) (lenOf pd16 rfl) rfl (by show 2 * 0 + _ ≤ _; exact Nat.le_of_eq rfl) (hb hby d2_0) (fun _ _ => ⟨rfl, e0, (by decide : 0 + 1 ≤ _), (by decide : 0 + 7 ≤ _)⟩)
  dsimp only [Pt.U, Pt.locs, Pt.cells, Pt.slots] at X1 l1 y1 z1 st1 hQ1
  subst l1 y1 z1
  obtain ⟨b1_0, fk1_0, rfl, N1q, K1, O1, pz_b1_0, pf1_0, pf1_1, -⟩ := hQ1
  have bo_b1_0 : h0.size ≤ b1_0 := pz_b1_0
  have g_b1_0 : n0 ≤ b1_0 := Nat.le_trans (own_n0 O0) bo_b1_0
  have sz_b1_0 : h0.size ≤ b1_0 := Nat.le_trans (Keep.refl h0 []).1 bo_b1_0
  have KK1 : Keep h0 T1.heap [] := (Keep.refl h0 []).trans K1 all0
  have N1 := Fr.app N0 N1q
  obtain ⟨ac2, aA2, aq2, aS2, aN2, aH2, aG2⟩ := id pf1_1
  obtain ⟨ac3, aA3, aq3, aS3, aN3, aH3, aG3⟩ := id pf1_1
  obtain ⟨T4, X4, e4, st4⟩ := getF X1 hx hZ hown (host := "") (Or.inl (hw _ (List.mem_of_getElem? (i := 32) rfl))) Via.refl rfl (F_code_w_ACK.ext O1.2) (g := (mkF m 21 #[.val (.int (5 : Int32)), .val (.ref b1_0), .val (.int (7 : Int32)), .val (.int (0 : Int32)), .val (.ref w_ACK)] [(.ref w_ACK)])) rfl rfl (hb hby d2_21)
  obtain ⟨ac5, aA5, aq5, aS5, aN5, aH5, aG5⟩ := id pf1_1
  obtain ⟨T6, X6, e6, st6⟩ := getF X4 hx hZ hown (host := "") (Or.inl (hw _ (List.mem_of_getElem? (i := 32) rfl))) Via.refl e4 (F_code_w_GROUP.ext O1.2) (g := (mkF m 21 #[.val (.int (5 : Int32)), .val (.ref b1_0), .val (.int (7 : Int32)), .val (.int (1 : Int32)), .val (.ref w_GROUP)] [(.ref w_GROUP)])) rfl rfl (hb hby d2_21)
  obtain ⟨ac7, aA7, aq7, aS7, aN7, aH7, aG7⟩ := id pf1_1
  obtain ⟨T8, X8, e8, st8⟩ := getF X6 hx hZ hown (host := "") (Or.inl (hw _ (List.mem_of_getElem? (i := 32) rfl))) Via.refl e6 (F_code_w_OPENED.ext O1.2) (g := (mkF m 21 #[.val (.int (5 : Int32)), .val (.ref b1_0), .val (.int (7 : Int32)), .val (.int (2 : Int32)), .val (.ref w_OPENED)] [(.ref w_OPENED)])) rfl rfl (hb hby d2_21)
  obtain ⟨ac9, aA9, aq9, aS9, aN9, aH9, aG9⟩ := id pf1_1
  obtain ⟨T10, X10, e10, st10⟩ := getF X8 hx hZ hown (host := "") (Or.inl (hw _ (List.mem_of_getElem? (i := 32) rfl))) Via.refl e8 (F_code_w_PUT.ext O1.2) (g := (mkF m 21 #[.val (.int (5 : Int32)), .val (.ref b1_0), .val (.int (7 : Int32)), .val (.int (3 : Int32)), .val (.ref w_PUT)] [(.ref w_PUT)])) rfl rfl (hb hby d2_21)
  obtain ⟨ac11, aA11, aq11, aS11, aN11, aH11, aG11⟩ := id pf1_1
  obtain ⟨T12, X12, e12, st12⟩ := getF X10 hx hZ hown (host := "") (Or.inl (hw _ (List.mem_of_getElem? (i := 32) rfl))) Via.refl e10 (F_code_w_SETTLED.ext O1.2) (g := (mkF m 21 #[.val (.int (5 : Int32)), .val (.ref b1_0), .val (.int (7 : Int32)), .val (.int (4 : Int32)), .val (.ref w_SETTLED)] [(.ref w_SETTLED)])) rfl rfl (hb hby d2_21)
  obtain ⟨fs, hr, hrun, hended, hW, hsame⟩ := X12.leave (v := some (.ref w_SETTLED)) (fun h => by rw [Bd.returns] at h; cases h)
  refine ⟨_, _, pre0 _ ?_, hrun, hended, _, _, rfl, ?_, ⟨_, rfl⟩, hW, hsame.mono (by decide) (by decide)⟩
  · show Steps p.tables e below (s₁.setTop (mkF m 0 #[.val (.int (5 : Int32)), .unset, .unset, .unset, .unset] [])) _
    refine st1 _ ?_
    show Steps p.tables e below (T1.setTop (mkF m 3 #[.val (.int (5 : Int32)), .unset, .unset, .unset, .unset] [(.ref b1_0)])) _
    refine XS.astoreN X1.here hx rfl (hb hby d2_3) rfl rfl (l' := #[.val (.int (5 : Int32)), .val (.ref b1_0), .unset, .unset, .unset]) rfl ?_
    show Steps p.tables e below (T1.setTop (mkF m 4 #[.val (.int (5 : Int32)), .val (.ref b1_0), .unset, .unset, .unset] [])) _
    refine XS.aloadN X1.here hx rfl (hb hby d2_4) rfl rfl ?_
    show Steps p.tables e below (T1.setTop (mkF m 5 #[.val (.int (5 : Int32)), .val (.ref b1_0), .unset, .unset, .unset] [(.ref b1_0)])) _
    refine X1.arraylength hx aA2.1 (State.isArrayOf_alike hZ.alike aA2.2.1) (g := (mkF m 5 #[.val (.int (5 : Int32)), .val (.ref b1_0), .unset, .unset, .unset] [(.ref b1_0)])) rfl rfl (hb hby d2_5) _ ?_
    rw [len_of aS2 aN2]
    show Steps p.tables e below (T1.setTop (mkF m 6 #[.val (.int (5 : Int32)), .val (.ref b1_0), .unset, .unset, .unset] [(.int (7 : Int32))])) _
    refine XS.istoreN X1.here hx rfl (hb hby d2_6) rfl (l' := #[.val (.int (5 : Int32)), .val (.ref b1_0), .val (.int (7 : Int32)), .unset, .unset]) rfl ?_
    show Steps p.tables e below (T1.setTop (mkF m 7 #[.val (.int (5 : Int32)), .val (.ref b1_0), .val (.int (7 : Int32)), .unset, .unset] [])) _
    refine XS.iconst X1.here hx rfl (hb hby d2_7) ?_
    show Steps p.tables e below (T1.setTop (mkF m 8 #[.val (.int (5 : Int32)), .val (.ref b1_0), .val (.int (7 : Int32)), .unset, .unset] [(.int (0 : Int32))])) _
    refine XS.istoreN X1.here hx rfl (hb hby d2_8) rfl (l' := #[.val (.int (5 : Int32)), .val (.ref b1_0), .val (.int (7 : Int32)), .val (.int (0 : Int32)), .unset]) rfl ?_
    show Steps p.tables e below (T1.setTop (mkF m 9 #[.val (.int (5 : Int32)), .val (.ref b1_0), .val (.int (7 : Int32)), .val (.int (0 : Int32)), .unset] [])) _
    refine XS.iloadN X1.here hx rfl (hb hby d2_9) rfl ?_
    show Steps p.tables e below (T1.setTop (mkF m 10 #[.val (.int (5 : Int32)), .val (.ref b1_0), .val (.int (7 : Int32)), .val (.int (0 : Int32)), .unset] [(.int (0 : Int32))])) _
    refine XS.iloadN X1.here hx rfl (hb hby d2_10) rfl ?_
    show Steps p.tables e below (T1.setTop (mkF m 11 #[.val (.int (5 : Int32)), .val (.ref b1_0), .val (.int (7 : Int32)), .val (.int (0 : Int32)), .unset] [(.int (7 : Int32)), (.int (0 : Int32))])) _
    refine XS.icmpNo X1.here hx rfl (hb hby d2_11) rfl (tlt (by decide : (0 : Int32) < (7 : Int32))).2.1 ?_
    show Steps p.tables e below (T1.setTop (mkF m 14 #[.val (.int (5 : Int32)), .val (.ref b1_0), .val (.int (7 : Int32)), .val (.int (0 : Int32)), .unset] [])) _
    refine XS.aloadN X1.here hx rfl (hb hby d2_14) rfl rfl ?_
    show Steps p.tables e below (T1.setTop (mkF m 15 #[.val (.int (5 : Int32)), .val (.ref b1_0), .val (.int (7 : Int32)), .val (.int (0 : Int32)), .unset] [(.ref b1_0)])) _
    refine XS.iloadN X1.here hx rfl (hb hby d2_15) rfl ?_
    show Steps p.tables e below (T1.setTop (mkF m 16 #[.val (.int (5 : Int32)), .val (.ref b1_0), .val (.int (7 : Int32)), .val (.int (0 : Int32)), .unset] [(.int (0 : Int32)), (.ref b1_0)])) _
    refine X1.aaload hx (j := (0 : Int32)) (v := (.ref w_ACK)) aA3.1 (State.isArrayOf_alike hZ.alike aA3.2.1) rfl aA3.2.2 (inb_of aS3 ⟨by decide, by decide⟩) (aH3.at (inb_of aS3 ⟨by decide, by decide⟩) rfl) (g := (mkF m 16 #[.val (.int (5 : Int32)), .val (.ref b1_0), .val (.int (7 : Int32)), .val (.int (0 : Int32)), .unset] [(.int (0 : Int32)), (.ref b1_0)])) rfl rfl (hb hby d2_16) _ ?_
    show Steps p.tables e below (T1.setTop (mkF m 17 #[.val (.int (5 : Int32)), .val (.ref b1_0), .val (.int (7 : Int32)), .val (.int (0 : Int32)), .unset] [(.ref w_ACK)])) _
    refine XS.astore X1.here hx rfl (hb hby d2_17) rfl rfl (l' := #[.val (.int (5 : Int32)), .val (.ref b1_0), .val (.int (7 : Int32)), .val (.int (0 : Int32)), .val (.ref w_ACK)]) rfl ?_
    show Steps p.tables e below (T1.setTop (mkF m 19 #[.val (.int (5 : Int32)), .val (.ref b1_0), .val (.int (7 : Int32)), .val (.int (0 : Int32)), .val (.ref w_ACK)] [])) _
    refine XS.aload X1.here hx rfl (hb hby d2_19) rfl rfl ?_
    show Steps p.tables e below (T1.setTop (mkF m 21 #[.val (.int (5 : Int32)), .val (.ref b1_0), .val (.int (7 : Int32)), .val (.int (0 : Int32)), .val (.ref w_ACK)] [(.ref w_ACK)])) _
    refine st4 _ ?_
    show Steps p.tables e below (T4.setTop (mkF m 24 #[.val (.int (5 : Int32)), .val (.ref b1_0), .val (.int (7 : Int32)), .val (.int (0 : Int32)), .val (.ref w_ACK)] [(.int (1 : Int32))])) _
    refine XS.iloadN X4.here hx rfl (hb hby d2_24) rfl ?_
    show Steps p.tables e below (T4.setTop (mkF m 25 #[.val (.int (5 : Int32)), .val (.ref b1_0), .val (.int (7 : Int32)), .val (.int (0 : Int32)), .val (.ref w_ACK)] [(.int (5 : Int32)), (.int (1 : Int32))])) _
    refine XS.icmpYes X4.here hx rfl (pc0 := 25) (pc' := 31) rfl (hb hby d2_25) rfl (feq (by decide : ¬ ((1 : Int32) = (5 : Int32)))).2 (by decide) (by decide) ?_
    show Steps p.tables e below (T4.setTop (mkF m 31 #[.val (.int (5 : Int32)), .val (.ref b1_0), .val (.int (7 : Int32)), .val (.int (0 : Int32)), .val (.ref w_ACK)] [])) _
    refine XS.iinc X4.here hx rfl (hb hby d2_31) rfl (l' := #[.val (.int (5 : Int32)), .val (.ref b1_0), .val (.int (7 : Int32)), .val (.int ((0 : Int32) + (1 : Int32))), .val (.ref w_ACK)]) rfl ?_
    rw [show ((0 : Int32) + (1 : Int32)) = (1 : Int32) from by decide]
    show Steps p.tables e below (T4.setTop (mkF m 34 #[.val (.int (5 : Int32)), .val (.ref b1_0), .val (.int (7 : Int32)), .val (.int (1 : Int32)), .val (.ref w_ACK)] [])) _
    refine XS.goto X4.here hx rfl (pc0 := 34) (pc' := 9) rfl (hb hby d2_34) (by decide) (by decide) ?_
    show Steps p.tables e below (T4.setTop (mkF m 9 #[.val (.int (5 : Int32)), .val (.ref b1_0), .val (.int (7 : Int32)), .val (.int (1 : Int32)), .val (.ref w_ACK)] [])) _
    refine XS.iloadN X4.here hx rfl (hb hby d2_9) rfl ?_
    show Steps p.tables e below (T4.setTop (mkF m 10 #[.val (.int (5 : Int32)), .val (.ref b1_0), .val (.int (7 : Int32)), .val (.int (1 : Int32)), .val (.ref w_ACK)] [(.int (1 : Int32))])) _
    refine XS.iloadN X4.here hx rfl (hb hby d2_10) rfl ?_
    show Steps p.tables e below (T4.setTop (mkF m 11 #[.val (.int (5 : Int32)), .val (.ref b1_0), .val (.int (7 : Int32)), .val (.int (1 : Int32)), .val (.ref w_ACK)] [(.int (7 : Int32)), (.int (1 : Int32))])) _
    refine XS.icmpNo X4.here hx rfl (hb hby d2_11) rfl (tlt (by decide : (1 : Int32) < (7 : Int32))).2.1 ?_
    show Steps p.tables e below (T4.setTop (mkF m 14 #[.val (.int (5 : Int32)), .val (.ref b1_0), .val (.int (7 : Int32)), .val (.int (1 : Int32)), .val (.ref w_ACK)] [])) _
    refine XS.aloadN X4.here hx rfl (hb hby d2_14) rfl rfl ?_
    show Steps p.tables e below (T4.setTop (mkF m 15 #[.val (.int (5 : Int32)), .val (.ref b1_0), .val (.int (7 : Int32)), .val (.int (1 : Int32)), .val (.ref w_ACK)] [(.ref b1_0)])) _
    refine XS.iloadN X4.here hx rfl (hb hby d2_15) rfl ?_
    show Steps p.tables e below (T4.setTop (mkF m 16 #[.val (.int (5 : Int32)), .val (.ref b1_0), .val (.int (7 : Int32)), .val (.int (1 : Int32)), .val (.ref w_ACK)] [(.int (1 : Int32)), (.ref b1_0)])) _
    refine X4.aaload hx (j := (1 : Int32)) (v := (.ref w_GROUP)) (by rw [e4]; exact aA5.1) (State.isArrayOf_alike hZ.alike aA5.2.1) rfl aA5.2.2 (inb_of aS5 ⟨by decide, by decide⟩) (aH5.at (inb_of aS5 ⟨by decide, by decide⟩) rfl) (g := (mkF m 16 #[.val (.int (5 : Int32)), .val (.ref b1_0), .val (.int (7 : Int32)), .val (.int (1 : Int32)), .val (.ref w_ACK)] [(.int (1 : Int32)), (.ref b1_0)])) rfl rfl (hb hby d2_16) _ ?_
    show Steps p.tables e below (T4.setTop (mkF m 17 #[.val (.int (5 : Int32)), .val (.ref b1_0), .val (.int (7 : Int32)), .val (.int (1 : Int32)), .val (.ref w_ACK)] [(.ref w_GROUP)])) _
    refine XS.astore X4.here hx rfl (hb hby d2_17) rfl rfl (l' := #[.val (.int (5 : Int32)), .val (.ref b1_0), .val (.int (7 : Int32)), .val (.int (1 : Int32)), .val (.ref w_GROUP)]) rfl ?_
    show Steps p.tables e below (T4.setTop (mkF m 19 #[.val (.int (5 : Int32)), .val (.ref b1_0), .val (.int (7 : Int32)), .val (.int (1 : Int32)), .val (.ref w_GROUP)] [])) _
    refine XS.aload X4.here hx rfl (hb hby d2_19) rfl rfl ?_
    show Steps p.tables e below (T4.setTop (mkF m 21 #[.val (.int (5 : Int32)), .val (.ref b1_0), .val (.int (7 : Int32)), .val (.int (1 : Int32)), .val (.ref w_GROUP)] [(.ref w_GROUP)])) _
    refine st6 _ ?_
    show Steps p.tables e below (T6.setTop (mkF m 24 #[.val (.int (5 : Int32)), .val (.ref b1_0), .val (.int (7 : Int32)), .val (.int (1 : Int32)), .val (.ref w_GROUP)] [(.int (2 : Int32))])) _
    refine XS.iloadN X6.here hx rfl (hb hby d2_24) rfl ?_
    show Steps p.tables e below (T6.setTop (mkF m 25 #[.val (.int (5 : Int32)), .val (.ref b1_0), .val (.int (7 : Int32)), .val (.int (1 : Int32)), .val (.ref w_GROUP)] [(.int (5 : Int32)), (.int (2 : Int32))])) _
    refine XS.icmpYes X6.here hx rfl (pc0 := 25) (pc' := 31) rfl (hb hby d2_25) rfl (feq (by decide : ¬ ((2 : Int32) = (5 : Int32)))).2 (by decide) (by decide) ?_
    show Steps p.tables e below (T6.setTop (mkF m 31 #[.val (.int (5 : Int32)), .val (.ref b1_0), .val (.int (7 : Int32)), .val (.int (1 : Int32)), .val (.ref w_GROUP)] [])) _
    refine XS.iinc X6.here hx rfl (hb hby d2_31) rfl (l' := #[.val (.int (5 : Int32)), .val (.ref b1_0), .val (.int (7 : Int32)), .val (.int ((1 : Int32) + (1 : Int32))), .val (.ref w_GROUP)]) rfl ?_
    rw [show ((1 : Int32) + (1 : Int32)) = (2 : Int32) from by decide]
    show Steps p.tables e below (T6.setTop (mkF m 34 #[.val (.int (5 : Int32)), .val (.ref b1_0), .val (.int (7 : Int32)), .val (.int (2 : Int32)), .val (.ref w_GROUP)] [])) _
    refine XS.goto X6.here hx rfl (pc0 := 34) (pc' := 9) rfl (hb hby d2_34) (by decide) (by decide) ?_
    show Steps p.tables e below (T6.setTop (mkF m 9 #[.val (.int (5 : Int32)), .val (.ref b1_0), .val (.int (7 : Int32)), .val (.int (2 : Int32)), .val (.ref w_GROUP)] [])) _
    refine XS.iloadN X6.here hx rfl (hb hby d2_9) rfl ?_
    show Steps p.tables e below (T6.setTop (mkF m 10 #[.val (.int (5 : Int32)), .val (.ref b1_0), .val (.int (7 : Int32)), .val (.int (2 : Int32)), .val (.ref w_GROUP)] [(.int (2 : Int32))])) _
    refine XS.iloadN X6.here hx rfl (hb hby d2_10) rfl ?_
    show Steps p.tables e below (T6.setTop (mkF m 11 #[.val (.int (5 : Int32)), .val (.ref b1_0), .val (.int (7 : Int32)), .val (.int (2 : Int32)), .val (.ref w_GROUP)] [(.int (7 : Int32)), (.int (2 : Int32))])) _
    refine XS.icmpNo X6.here hx rfl (hb hby d2_11) rfl (tlt (by decide : (2 : Int32) < (7 : Int32))).2.1 ?_
    show Steps p.tables e below (T6.setTop (mkF m 14 #[.val (.int (5 : Int32)), .val (.ref b1_0), .val (.int (7 : Int32)), .val (.int (2 : Int32)), .val (.ref w_GROUP)] [])) _
    refine XS.aloadN X6.here hx rfl (hb hby d2_14) rfl rfl ?_
    show Steps p.tables e below (T6.setTop (mkF m 15 #[.val (.int (5 : Int32)), .val (.ref b1_0), .val (.int (7 : Int32)), .val (.int (2 : Int32)), .val (.ref w_GROUP)] [(.ref b1_0)])) _
    refine XS.iloadN X6.here hx rfl (hb hby d2_15) rfl ?_
    show Steps p.tables e below (T6.setTop (mkF m 16 #[.val (.int (5 : Int32)), .val (.ref b1_0), .val (.int (7 : Int32)), .val (.int (2 : Int32)), .val (.ref w_GROUP)] [(.int (2 : Int32)), (.ref b1_0)])) _
    refine X6.aaload hx (j := (2 : Int32)) (v := (.ref w_OPENED)) (by rw [e6]; exact aA7.1) (State.isArrayOf_alike hZ.alike aA7.2.1) rfl aA7.2.2 (inb_of aS7 ⟨by decide, by decide⟩) (aH7.at (inb_of aS7 ⟨by decide, by decide⟩) rfl) (g := (mkF m 16 #[.val (.int (5 : Int32)), .val (.ref b1_0), .val (.int (7 : Int32)), .val (.int (2 : Int32)), .val (.ref w_GROUP)] [(.int (2 : Int32)), (.ref b1_0)])) rfl rfl (hb hby d2_16) _ ?_
    show Steps p.tables e below (T6.setTop (mkF m 17 #[.val (.int (5 : Int32)), .val (.ref b1_0), .val (.int (7 : Int32)), .val (.int (2 : Int32)), .val (.ref w_GROUP)] [(.ref w_OPENED)])) _
    refine XS.astore X6.here hx rfl (hb hby d2_17) rfl rfl (l' := #[.val (.int (5 : Int32)), .val (.ref b1_0), .val (.int (7 : Int32)), .val (.int (2 : Int32)), .val (.ref w_OPENED)]) rfl ?_
    show Steps p.tables e below (T6.setTop (mkF m 19 #[.val (.int (5 : Int32)), .val (.ref b1_0), .val (.int (7 : Int32)), .val (.int (2 : Int32)), .val (.ref w_OPENED)] [])) _
    refine XS.aload X6.here hx rfl (hb hby d2_19) rfl rfl ?_
    show Steps p.tables e below (T6.setTop (mkF m 21 #[.val (.int (5 : Int32)), .val (.ref b1_0), .val (.int (7 : Int32)), .val (.int (2 : Int32)), .val (.ref w_OPENED)] [(.ref w_OPENED)])) _
    refine st8 _ ?_
    show Steps p.tables e below (T8.setTop (mkF m 24 #[.val (.int (5 : Int32)), .val (.ref b1_0), .val (.int (7 : Int32)), .val (.int (2 : Int32)), .val (.ref w_OPENED)] [(.int (3 : Int32))])) _
    refine XS.iloadN X8.here hx rfl (hb hby d2_24) rfl ?_
    show Steps p.tables e below (T8.setTop (mkF m 25 #[.val (.int (5 : Int32)), .val (.ref b1_0), .val (.int (7 : Int32)), .val (.int (2 : Int32)), .val (.ref w_OPENED)] [(.int (5 : Int32)), (.int (3 : Int32))])) _
    refine XS.icmpYes X8.here hx rfl (pc0 := 25) (pc' := 31) rfl (hb hby d2_25) rfl (feq (by decide : ¬ ((3 : Int32) = (5 : Int32)))).2 (by decide) (by decide) ?_
    show Steps p.tables e below (T8.setTop (mkF m 31 #[.val (.int (5 : Int32)), .val (.ref b1_0), .val (.int (7 : Int32)), .val (.int (2 : Int32)), .val (.ref w_OPENED)] [])) _
    refine XS.iinc X8.here hx rfl (hb hby d2_31) rfl (l' := #[.val (.int (5 : Int32)), .val (.ref b1_0), .val (.int (7 : Int32)), .val (.int ((2 : Int32) + (1 : Int32))), .val (.ref w_OPENED)]) rfl ?_
    rw [show ((2 : Int32) + (1 : Int32)) = (3 : Int32) from by decide]
    show Steps p.tables e below (T8.setTop (mkF m 34 #[.val (.int (5 : Int32)), .val (.ref b1_0), .val (.int (7 : Int32)), .val (.int (3 : Int32)), .val (.ref w_OPENED)] [])) _
    refine XS.goto X8.here hx rfl (pc0 := 34) (pc' := 9) rfl (hb hby d2_34) (by decide) (by decide) ?_
    show Steps p.tables e below (T8.setTop (mkF m 9 #[.val (.int (5 : Int32)), .val (.ref b1_0), .val (.int (7 : Int32)), .val (.int (3 : Int32)), .val (.ref w_OPENED)] [])) _
    refine XS.iloadN X8.here hx rfl (hb hby d2_9) rfl ?_
    show Steps p.tables e below (T8.setTop (mkF m 10 #[.val (.int (5 : Int32)), .val (.ref b1_0), .val (.int (7 : Int32)), .val (.int (3 : Int32)), .val (.ref w_OPENED)] [(.int (3 : Int32))])) _
    refine XS.iloadN X8.here hx rfl (hb hby d2_10) rfl ?_
    show Steps p.tables e below (T8.setTop (mkF m 11 #[.val (.int (5 : Int32)), .val (.ref b1_0), .val (.int (7 : Int32)), .val (.int (3 : Int32)), .val (.ref w_OPENED)] [(.int (7 : Int32)), (.int (3 : Int32))])) _
    refine XS.icmpNo X8.here hx rfl (hb hby d2_11) rfl (tlt (by decide : (3 : Int32) < (7 : Int32))).2.1 ?_
    show Steps p.tables e below (T8.setTop (mkF m 14 #[.val (.int (5 : Int32)), .val (.ref b1_0), .val (.int (7 : Int32)), .val (.int (3 : Int32)), .val (.ref w_OPENED)] [])) _
    refine XS.aloadN X8.here hx rfl (hb hby d2_14) rfl rfl ?_
    show Steps p.tables e below (T8.setTop (mkF m 15 #[.val (.int (5 : Int32)), .val (.ref b1_0), .val (.int (7 : Int32)), .val (.int (3 : Int32)), .val (.ref w_OPENED)] [(.ref b1_0)])) _
    refine XS.iloadN X8.here hx rfl (hb hby d2_15) rfl ?_
    show Steps p.tables e below (T8.setTop (mkF m 16 #[.val (.int (5 : Int32)), .val (.ref b1_0), .val (.int (7 : Int32)), .val (.int (3 : Int32)), .val (.ref w_OPENED)] [(.int (3 : Int32)), (.ref b1_0)])) _
    refine X8.aaload hx (j := (3 : Int32)) (v := (.ref w_PUT)) (by rw [e8]; exact aA9.1) (State.isArrayOf_alike hZ.alike aA9.2.1) rfl aA9.2.2 (inb_of aS9 ⟨by decide, by decide⟩) (aH9.at (inb_of aS9 ⟨by decide, by decide⟩) rfl) (g := (mkF m 16 #[.val (.int (5 : Int32)), .val (.ref b1_0), .val (.int (7 : Int32)), .val (.int (3 : Int32)), .val (.ref w_OPENED)] [(.int (3 : Int32)), (.ref b1_0)])) rfl rfl (hb hby d2_16) _ ?_
    show Steps p.tables e below (T8.setTop (mkF m 17 #[.val (.int (5 : Int32)), .val (.ref b1_0), .val (.int (7 : Int32)), .val (.int (3 : Int32)), .val (.ref w_OPENED)] [(.ref w_PUT)])) _
    refine XS.astore X8.here hx rfl (hb hby d2_17) rfl rfl (l' := #[.val (.int (5 : Int32)), .val (.ref b1_0), .val (.int (7 : Int32)), .val (.int (3 : Int32)), .val (.ref w_PUT)]) rfl ?_
    show Steps p.tables e below (T8.setTop (mkF m 19 #[.val (.int (5 : Int32)), .val (.ref b1_0), .val (.int (7 : Int32)), .val (.int (3 : Int32)), .val (.ref w_PUT)] [])) _
    refine XS.aload X8.here hx rfl (hb hby d2_19) rfl rfl ?_
    show Steps p.tables e below (T8.setTop (mkF m 21 #[.val (.int (5 : Int32)), .val (.ref b1_0), .val (.int (7 : Int32)), .val (.int (3 : Int32)), .val (.ref w_PUT)] [(.ref w_PUT)])) _
    refine st10 _ ?_
    show Steps p.tables e below (T10.setTop (mkF m 24 #[.val (.int (5 : Int32)), .val (.ref b1_0), .val (.int (7 : Int32)), .val (.int (3 : Int32)), .val (.ref w_PUT)] [(.int (4 : Int32))])) _
    refine XS.iloadN X10.here hx rfl (hb hby d2_24) rfl ?_
    show Steps p.tables e below (T10.setTop (mkF m 25 #[.val (.int (5 : Int32)), .val (.ref b1_0), .val (.int (7 : Int32)), .val (.int (3 : Int32)), .val (.ref w_PUT)] [(.int (5 : Int32)), (.int (4 : Int32))])) _
    refine XS.icmpYes X10.here hx rfl (pc0 := 25) (pc' := 31) rfl (hb hby d2_25) rfl (feq (by decide : ¬ ((4 : Int32) = (5 : Int32)))).2 (by decide) (by decide) ?_
    show Steps p.tables e below (T10.setTop (mkF m 31 #[.val (.int (5 : Int32)), .val (.ref b1_0), .val (.int (7 : Int32)), .val (.int (3 : Int32)), .val (.ref w_PUT)] [])) _
    refine XS.iinc X10.here hx rfl (hb hby d2_31) rfl (l' := #[.val (.int (5 : Int32)), .val (.ref b1_0), .val (.int (7 : Int32)), .val (.int ((3 : Int32) + (1 : Int32))), .val (.ref w_PUT)]) rfl ?_
    rw [show ((3 : Int32) + (1 : Int32)) = (4 : Int32) from by decide]
    show Steps p.tables e below (T10.setTop (mkF m 34 #[.val (.int (5 : Int32)), .val (.ref b1_0), .val (.int (7 : Int32)), .val (.int (4 : Int32)), .val (.ref w_PUT)] [])) _
    refine XS.goto X10.here hx rfl (pc0 := 34) (pc' := 9) rfl (hb hby d2_34) (by decide) (by decide) ?_
    show Steps p.tables e below (T10.setTop (mkF m 9 #[.val (.int (5 : Int32)), .val (.ref b1_0), .val (.int (7 : Int32)), .val (.int (4 : Int32)), .val (.ref w_PUT)] [])) _
    refine XS.iloadN X10.here hx rfl (hb hby d2_9) rfl ?_
    show Steps p.tables e below (T10.setTop (mkF m 10 #[.val (.int (5 : Int32)), .val (.ref b1_0), .val (.int (7 : Int32)), .val (.int (4 : Int32)), .val (.ref w_PUT)] [(.int (4 : Int32))])) _
    refine XS.iloadN X10.here hx rfl (hb hby d2_10) rfl ?_
    show Steps p.tables e below (T10.setTop (mkF m 11 #[.val (.int (5 : Int32)), .val (.ref b1_0), .val (.int (7 : Int32)), .val (.int (4 : Int32)), .val (.ref w_PUT)] [(.int (7 : Int32)), (.int (4 : Int32))])) _
    refine XS.icmpNo X10.here hx rfl (hb hby d2_11) rfl (tlt (by decide : (4 : Int32) < (7 : Int32))).2.1 ?_
    show Steps p.tables e below (T10.setTop (mkF m 14 #[.val (.int (5 : Int32)), .val (.ref b1_0), .val (.int (7 : Int32)), .val (.int (4 : Int32)), .val (.ref w_PUT)] [])) _
    refine XS.aloadN X10.here hx rfl (hb hby d2_14) rfl rfl ?_
    show Steps p.tables e below (T10.setTop (mkF m 15 #[.val (.int (5 : Int32)), .val (.ref b1_0), .val (.int (7 : Int32)), .val (.int (4 : Int32)), .val (.ref w_PUT)] [(.ref b1_0)])) _
    refine XS.iloadN X10.here hx rfl (hb hby d2_15) rfl ?_
    show Steps p.tables e below (T10.setTop (mkF m 16 #[.val (.int (5 : Int32)), .val (.ref b1_0), .val (.int (7 : Int32)), .val (.int (4 : Int32)), .val (.ref w_PUT)] [(.int (4 : Int32)), (.ref b1_0)])) _
    refine X10.aaload hx (j := (4 : Int32)) (v := (.ref w_SETTLED)) (by rw [e10]; exact aA11.1) (State.isArrayOf_alike hZ.alike aA11.2.1) rfl aA11.2.2 (inb_of aS11 ⟨by decide, by decide⟩) (aH11.at (inb_of aS11 ⟨by decide, by decide⟩) rfl) (g := (mkF m 16 #[.val (.int (5 : Int32)), .val (.ref b1_0), .val (.int (7 : Int32)), .val (.int (4 : Int32)), .val (.ref w_PUT)] [(.int (4 : Int32)), (.ref b1_0)])) rfl rfl (hb hby d2_16) _ ?_
    show Steps p.tables e below (T10.setTop (mkF m 17 #[.val (.int (5 : Int32)), .val (.ref b1_0), .val (.int (7 : Int32)), .val (.int (4 : Int32)), .val (.ref w_PUT)] [(.ref w_SETTLED)])) _
    refine XS.astore X10.here hx rfl (hb hby d2_17) rfl rfl (l' := #[.val (.int (5 : Int32)), .val (.ref b1_0), .val (.int (7 : Int32)), .val (.int (4 : Int32)), .val (.ref w_SETTLED)]) rfl ?_
    show Steps p.tables e below (T10.setTop (mkF m 19 #[.val (.int (5 : Int32)), .val (.ref b1_0), .val (.int (7 : Int32)), .val (.int (4 : Int32)), .val (.ref w_SETTLED)] [])) _
    refine XS.aload X10.here hx rfl (hb hby d2_19) rfl rfl ?_
    show Steps p.tables e below (T10.setTop (mkF m 21 #[.val (.int (5 : Int32)), .val (.ref b1_0), .val (.int (7 : Int32)), .val (.int (4 : Int32)), .val (.ref w_SETTLED)] [(.ref w_SETTLED)])) _
    refine st12 _ ?_
    show Steps p.tables e below (T12.setTop (mkF m 24 #[.val (.int (5 : Int32)), .val (.ref b1_0), .val (.int (7 : Int32)), .val (.int (4 : Int32)), .val (.ref w_SETTLED)] [(.int (5 : Int32))])) _
    refine XS.iloadN X12.here hx rfl (hb hby d2_24) rfl ?_
    show Steps p.tables e below (T12.setTop (mkF m 25 #[.val (.int (5 : Int32)), .val (.ref b1_0), .val (.int (7 : Int32)), .val (.int (4 : Int32)), .val (.ref w_SETTLED)] [(.int (5 : Int32)), (.int (5 : Int32))])) _
    refine XS.icmpNo X12.here hx rfl (hb hby d2_25) rfl (teq (by decide : (5 : Int32) = (5 : Int32))).2 ?_
    show Steps p.tables e below (T12.setTop (mkF m 28 #[.val (.int (5 : Int32)), .val (.ref b1_0), .val (.int (7 : Int32)), .val (.int (4 : Int32)), .val (.ref w_SETTLED)] [])) _
    refine XS.aload X12.here hx rfl (hb hby d2_28) rfl rfl ?_
    show Steps p.tables e below (T12.setTop (mkF m 30 #[.val (.int (5 : Int32)), .val (.ref b1_0), .val (.int (7 : Int32)), .val (.int (4 : Int32)), .val (.ref w_SETTLED)] [(.ref w_SETTLED)])) _
    jvm_step X12.here [X12.here.top, hx, (hb hby d2_30), X12.method', Bd.returns, Value.isRef, FieldType.isReference]
    first | (intro acts; rw [hr _ acts rfl rfl rfl]) | rw [hr _ _ rfl rfl rfl]
    exact Steps.refl _
  · have eH : (T12.setFrames fs).heap = T1.heap := e12; rw [eH]; exact ⟨rfl, N1, KK1, O1, trivial⟩
def Q4_19 (Z : State) (w_ACK : Addr) (w__VALUES : Addr) (w_GROUP : Addr) (w_OPENED : Addr) (w_PUT : Addr) (w_SETTLED : Addr) (w_CHECKED : Addr) (w_PARKED : Addr) (cl_w__VALUES : Cell) (h0 : Heap) (n0 : Nat) (v : Option Value) (h : Heap) (L : List Loc) : Prop := v = some (.int (5 : Int32)) ∧ Fr n0 L ∧ h = h0
set_option maxRecDepth 65536 in
set_option maxHeartbeats 40000000 in
theorem rm4_19 (l : Launch) (Z : State) (a0 : Array Value) (hw : ∀ d ∈ tables_1, d.before a0 Z = true) (ws : List Jvm.Cond) (w_ACK : Addr) (w__VALUES : Addr) (w_GROUP : Addr) (w_OPENED : Addr) (w_PUT : Addr) (w_SETTLED : Addr) (w_CHECKED : Addr) (w_PARKED : Addr) (cl_w__VALUES : Cell) (h0 : Heap) (n0 : Nat) (Z0 : n0 ≤ h0.size) (O0 : Old Z n0 h0) (HW : World Z w_ACK w__VALUES w_GROUP w_OPENED w_PUT w_SETTLED w_CHECKED w_PARKED cl_w__VALUES) :
    MetFree l (⟨"com/example/clinch/clinch/broker/NoteKind", "code", "()B"⟩ : MethodName) (head1 (Jvm.Cond.code (⟨"com/example/clinch/clinch/broker/NoteKind", "code", "()B"⟩ : MethodName) prog_7_method_4_code 1 (some .byte) :: ws) ({ frames := 0, cells := 0, slots := 0, locals := 0 } : Room)) (fun a U => a = #[(.ref w_SETTLED)] ∧ Z.Warmed39 U.vm ∧ U.heap = h0) (fun _ _ _ _ _ => True) (fun _ U o U' => ∃ v L, o = .returned v ∧ Q4_19 Z w_ACK w__VALUES w_GROUP w_OPENED w_PUT w_SETTLED w_CHECKED w_PARKED cl_w__VALUES h0 n0 v U'.heap L ∧ FrameEnd U o U' L ({ frames := 0, cells := 0, slots := 0, locals := 0 } : Room).cells ({ frames := 0, cells := 0, slots := 0, locals := 0 } : Room).slots) := by
  refine MetFree.of_bodySF (plainFor_of_name pn15) hisR ?_
  intro p e s m args below meth c s₁ Bd hml0 hP hK
  obtain ⟨rfl, hZ, hh⟩ := hP
  have hx := Bd.exec
  have hby := Bd.bytes
  have hml : c.maxLocals = 1 := hml0
  have hown : s.vm.findClass "com/example/clinch/clinch/broker/NoteKind" = some m.cls := findClass_of_methodNamed Bd.named
  have hnm := (name_of_methodNamed Bd.named Bd.method).1
  have X0 : Stand p l e ({ frames := 0, cells := 0, slots := 0, locals := 0 } : Room) s m #[(.ref w_SETTLED)] below meth c s₁ [] 0 0 := Stand.of_body Bd
  have e0 : s₁.heap = h0 := by rw [← hh, Bd.state]; rfl
  have N0 := Fr.nil n0
  have pre0 : ∀ t, Steps p.tables e below (s₁.setTop (mkF m 0 #[.val (.ref w_SETTLED)] [])) t → Steps p.tables e below (s₁.setTop (entryFrame m #[(.ref w_SETTLED)] 1)) t := fun t k => castTop (ef44 m w_SETTLED) k
  obtain ⟨S_w_ACK, E_w_ACK, S_w__VALUES, E_w__VALUES, S_w_GROUP, E_w_GROUP, S_w_OPENED, E_w_OPENED, S_w_PUT, E_w_PUT, S_w_SETTLED, E_w_SETTLED, S_w_CHECKED, E_w_CHECKED, S_w_PARKED, E_w_PARKED, F_code_w_ACK, F_code_w_GROUP, F_code_w_OPENED, F_code_w_PUT, F_code_w_SETTLED, F_code_w_CHECKED, F_code_w_PARKED, Ar_w__VALUES, Sz_w__VALUES, At_w__VALUES_0, At_w__VALUES_1, At_w__VALUES_2, At_w__VALUES_3, At_w__VALUES_4, At_w__VALUES_5, At_w__VALUES_6, ne_w_ACK_w_GROUP, ne_w_ACK_w_OPENED, ne_w_ACK_w_PUT, ne_w_ACK_w_SETTLED, ne_w_ACK_w_CHECKED, ne_w_ACK_w_PARKED, ne_w_GROUP_w_OPENED, ne_w_GROUP_w_PUT, ne_w_GROUP_w_SETTLED, ne_w_GROUP_w_CHECKED, ne_w_GROUP_w_PARKED, ne_w_OPENED_w_PUT, ne_w_OPENED_w_SETTLED, ne_w_OPENED_w_CHECKED, ne_w_OPENED_w_PARKED, ne_w_PUT_w_SETTLED, ne_w_PUT_w_CHECKED, ne_w_PUT_w_PARKED, ne_w_SETTLED_w_CHECKED, ne_w_SETTLED_w_PARKED, ne_w_CHECKED_w_PARKED, V_w__VALUES, -⟩ := id HW
  obtain ⟨T1, X1, e1, st1⟩ := getF X0 hx hZ hown (host := "") (Or.inl (hw _ (List.mem_of_getElem? (i := 32) rfl))) Via.refl e0 (F_code_w_SETTLED.ext O0.2) (g := (mkF m 1 #[.val (.ref w_SETTLED)] [(.ref w_SETTLED)])) rfl rfl (hb hby d4_1)
  obtain ⟨fs, hr, hrun, hended, hW, hsame⟩ := X1.leave (v := some (.int (5 : Int32))) (fun h => by rw [Bd.returns] at h; cases h)
  refine ⟨_, _, pre0 _ ?_, hrun, hended, _, _, rfl, ?_, ⟨_, rfl⟩, hW, hsame.mono (by decide) (by decide)⟩
  · show Steps p.tables e below (s₁.setTop (mkF m 0 #[.val (.ref w_SETTLED)] [])) _
    refine XS.aloadN X0.here hx rfl (hb hby d4_0) rfl rfl ?_
    show Steps p.tables e below (s₁.setTop (mkF m 1 #[.val (.ref w_SETTLED)] [(.ref w_SETTLED)])) _
    refine st1 _ ?_
    show Steps p.tables e below (T1.setTop (mkF m 4 #[.val (.ref w_SETTLED)] [(.int (5 : Int32))])) _
    exact retN X1 hx (t := .byte) Bd.returns (by simp) (hb hby d4_4) hr
  · exact ⟨rfl, N0, e1⟩
set_option maxRecDepth 65536 in
set_option maxHeartbeats 40000000 in
theorem rm0_c4 (l : Launch) (Z : State) (a0 : Array Value) (hw : ∀ d ∈ tables_1, d.before a0 Z = true) (ws : List Jvm.Cond) (w_ACK : Addr) (w__VALUES : Addr) (w_GROUP : Addr) (w_OPENED : Addr) (w_PUT : Addr) (w_SETTLED : Addr) (w_CHECKED : Addr) (w_PARKED : Addr) (cl_w__VALUES : Cell) (p1 : Int32) (h0 : Heap) (n0 : Nat) (Z0 : n0 ≤ h0.size) (O0 : Old Z n0 h0) (HW : World Z w_ACK w__VALUES w_GROUP w_OPENED w_PUT w_SETTLED w_CHECKED w_PARKED cl_w__VALUES) (hk : ((p1 &&& (2147483647 : Int32)) % (7 : Int32)) = (4 : Int32)) :
    MetFree l x (head1 (Jvm.Cond.code x code maxLocals ret :: ws) room_1) (fun a U => a = #[(.int p1)] ∧ Z.Warmed39 U.vm ∧ U.heap = h0) (fun _ _ _ _ _ => True) (fun _ U o U' => ∃ v L, o = .returned v ∧ Q0 h0 n0 v U'.heap L ∧ FrameEnd U o U' L room_1.cells room_1.slots) := by
  refine MetFree.of_bodySF (plainFor_of_name pn7) hisR ?_
  intro p e s m args below meth c s₁ Bd hml0 hP hK
  obtain ⟨rfl, hZ, hh⟩ := hP
  have hx := Bd.exec
  have hby := Bd.bytes
  have hml : c.maxLocals = 4 := hml0
  have hown : s.vm.findClass "com/example/clinch/clinch/broker/NoteKindOfPinLaw" = some m.cls := findClass_of_methodNamed Bd.named
  have hnm := (name_of_methodNamed Bd.named Bd.method).1
  have X0 : Stand p l e room_1 s m #[(.int p1)] below meth c s₁ [] 0 0 := Stand.of_body Bd
  have e0 : s₁.heap = h0 := by rw [← hh, Bd.state]; rfl
  have N0 := Fr.nil n0
  have pre0 : ∀ t, Steps p.tables e below (s₁.setTop (mkF m 0 #[.val (.int p1), .unset, .unset, .unset] [])) t → Steps p.tables e below (s₁.setTop (entryFrame m #[(.int p1)] maxLocals)) t := fun t k => castTop (ef47 m p1) k
  obtain ⟨S_w_ACK, E_w_ACK, S_w__VALUES, E_w__VALUES, S_w_GROUP, E_w_GROUP, S_w_OPENED, E_w_OPENED, S_w_PUT, E_w_PUT, S_w_SETTLED, E_w_SETTLED, S_w_CHECKED, E_w_CHECKED, S_w_PARKED, E_w_PARKED, F_code_w_ACK, F_code_w_GROUP, F_code_w_OPENED, F_code_w_PUT, F_code_w_SETTLED, F_code_w_CHECKED, F_code_w_PARKED, Ar_w__VALUES, Sz_w__VALUES, At_w__VALUES_0, At_w__VALUES_1, At_w__VALUES_2, At_w__VALUES_3, At_w__VALUES_4, At_w__VALUES_5, At_w__VALUES_6, ne_w_ACK_w_GROUP, ne_w_ACK_w_OPENED, ne_w_ACK_w_PUT, ne_w_ACK_w_SETTLED, ne_w_ACK_w_CHECKED, ne_w_ACK_w_PARKED, ne_w_GROUP_w_OPENED, ne_w_GROUP_w_PUT, ne_w_GROUP_w_SETTLED, ne_w_GROUP_w_CHECKED, ne_w_GROUP_w_PARKED, ne_w_OPENED_w_PUT, ne_w_OPENED_w_SETTLED, ne_w_OPENED_w_CHECKED, ne_w_OPENED_w_PARKED, ne_w_PUT_w_SETTLED, ne_w_PUT_w_CHECKED, ne_w_PUT_w_PARKED, ne_w_SETTLED_w_CHECKED, ne_w_SETTLED_w_PARKED, ne_w_CHECKED_w_PARKED, V_w__VALUES, -⟩ := id HW
  obtain ⟨_, _, ⟨T1, L1, k1, n1⟩, -, X1, ⟨Lc1, hQ1, l1, y1, z1⟩, st1⟩ := Jvm.LawKit.callS X0 hx (y := (⟨"com/example/clinch/clinch/broker/NoteKindOfPinLaw", "expected", "(I)Lcom/example/clinch/clinch/broker/NoteKind;"⟩ : MethodName)) hown (mvT hZ (hw _ (List.mem_of_getElem? (i := 1) rfl))) (mvT hZ (hw _ (List.mem_of_getElem? (i := 2) rfl))) (mvT hZ (hw _ (List.mem_of_getElem? (i := 3) rfl))) (mvT hZ (hw _ (List.mem_of_getElem? (i := 4) rfl))) (by decide) (backOf (W := 0) (rm1_17 l Z a0 hw [] w_ACK w__VALUES w_GROUP w_OPENED w_PUT w_SETTLED w_CHECKED w_PARKED cl_w__VALUES h0 n0 (own_n0 O0) O0 HW) hZ (hw _ (List.mem_of_getElem? (i := 4) rfl)) (hw _ (List.mem_of_getElem? (i := 3) rfl)) (by decide) (by decide)) (g := (mkF m 11 #[.val (.int p1), .val (.int (5 : Int32)), .unset, .unset] [(.int (5 : Int32))])) rfl (by rw [hml]; rfl) (argsL := [(.int (5 : Int32))]) (rest := []) (lenOf pd8 rfl) rfl (by show 2 * 0 + _ ≤ _; exact Nat.le_of_eq rfl) (hb hby at_11) (fun _ _ => ⟨rfl, e0, (by decide : 0 + 0 ≤ _), (by decide : 0 + 0 ≤ _)⟩)
  dsimp only [Pt.U, Pt.locs, Pt.cells, Pt.slots] at X1 l1 y1 z1 st1 hQ1
  subst l1 y1 z1
  obtain ⟨rfl, N1q, e1⟩ := hQ1
  have N1 := Fr.app N0 N1q
  obtain ⟨_, _, ⟨T2, L2, k2, n2⟩, -, X2, ⟨Lc2, hQ2, l2, y2, z2⟩, st2⟩ := Jvm.LawKit.callS X1 hx (y := (⟨"com/example/clinch/clinch/broker/NoteKind", "of", "(B)Lcom/example/clinch/clinch/broker/NoteKind;"⟩ : MethodName)) hown (mvT hZ (hw _ (List.mem_of_getElem? (i := 8) rfl))) (mvT hZ (hw _ (List.mem_of_getElem? (i := 9) rfl))) (mvT hZ (hw _ (List.mem_of_getElem? (i := 6) rfl))) (mvT hZ (hw _ (List.mem_of_getElem? (i := 10) rfl))) (by decide) (backOf (W := 0) (rm2_18 l Z a0 hw [] w_ACK w__VALUES w_GROUP w_OPENED w_PUT w_SETTLED w_CHECKED w_PARKED cl_w__VALUES h0 n0 (own_n0 O0) O0 HW) hZ (hw _ (List.mem_of_getElem? (i := 10) rfl)) (hw _ (List.mem_of_getElem? (i := 6) rfl)) (by decide) (by decide)) (g := (mkF m 17 #[.val (.int p1), .val (.int (5 : Int32)), .val (.ref w_SETTLED), .unset] [(.int (5 : Int32))])) rfl (by rw [hml]; rfl) (argsL := [(.int (5 : Int32))]) (rest := []) (lenOf pd39 rfl) rfl (by show 2 * 0 + _ ≤ _; exact Nat.le_of_eq rfl) (hb hby at_17) (fun _ _ => ⟨rfl, e1, (by decide : 0 + 1 ≤ _), (by decide : 0 + 7 ≤ _)⟩)
  dsimp only [Pt.U, Pt.locs, Pt.cells, Pt.slots] at X2 l2 y2 z2 st2 hQ2
  subst l2 y2 z2
  obtain ⟨rfl, N2q, K2, O2, -⟩ := hQ2
  have N2 := Fr.app N1 N2q
  obtain ⟨cq3, kq3, q3a, q3b, q3c⟩ := isOf hZ rfl (E_w_SETTLED.ext O2.2)
  obtain ⟨_, _, ⟨T3, L3, k3, n3⟩, -, X3, ⟨Lc3, hQ3, l3, y3, z3⟩, st3⟩ := X2.virtualBack hx (y := (⟨"com/example/clinch/clinch/broker/NoteKind", "code", "()B"⟩ : MethodName)) (z := (⟨"com/example/clinch/clinch/broker/NoteKind", "code", "()B"⟩ : MethodName)) hown (mvT hZ (hw _ (List.mem_of_getElem? (i := 34) rfl))) (mvT hZ (hw _ (List.mem_of_getElem? (i := 35) rfl))) (notFace_of_selects (args := #[]) (mvT hZ (hw _ (List.mem_of_getElem? (i := 37) rfl)))) (mvT hZ (hw _ (List.mem_of_getElem? (i := 37) rfl))) (mvT hZ (hw _ (List.mem_of_getElem? (i := 36) rfl))) (by decide) (backOf (W := 0) (rm4_19 l Z a0 hw [] w_ACK w__VALUES w_GROUP w_OPENED w_PUT w_SETTLED w_CHECKED w_PARKED cl_w__VALUES T2.heap n0 (own_n0 O2) O2 HW) hZ (hw _ (List.mem_of_getElem? (i := 38) rfl)) (hw _ (List.mem_of_getElem? (i := 6) rfl)) (by decide) (by decide)) q3a q3c (g := (mkF m 27 #[.val (.int p1), .val (.int (5 : Int32)), .val (.ref w_SETTLED), .val (.ref w_SETTLED)] [(.ref w_SETTLED)])) rfl (by rw [hml]; rfl) (Steps.refl _) (argsL := []) (rest := []) (lenOf pd45 rfl) rfl (by show 2 * 0 + _ ≤ _; exact Nat.le_of_eq rfl) (hb hby at_27) (fun _ _ => ⟨rfl, rfl, (by decide : 1 + 0 ≤ _), (by decide : 7 + 0 ≤ _)⟩)
  dsimp only [Pt.U, Pt.locs, Pt.cells, Pt.slots] at X3 l3 y3 z3 st3 hQ3
  subst l3 y3 z3
  obtain ⟨rfl, N3q, e3⟩ := hQ3
  have N3 := Fr.app N2 N3q
  obtain ⟨fs, hr, hrun, hended, hW, hsame⟩ := X3.leave (v := some (.int (1 : Int32))) (fun h => by rw [Bd.returns] at h; cases h)
  refine ⟨_, _, pre0 _ ?_, hrun, hended, _, _, rfl, ?_, ⟨_, rfl⟩, hW, hsame.mono (by decide) (by decide)⟩
  · show Steps p.tables e below (s₁.setTop (mkF m 0 #[.val (.int p1), .unset, .unset, .unset] [])) _
    refine XS.iloadN X0.here hx rfl (hb hby at_0) rfl ?_
    show Steps p.tables e below (s₁.setTop (mkF m 1 #[.val (.int p1), .unset, .unset, .unset] [(.int p1)])) _
    refine X0.ldcInt hx hown (mvT hZ (hw _ (List.mem_of_getElem? (i := 0) rfl))) (g := (mkF m 1 #[.val (.int p1), .unset, .unset, .unset] [(.int p1)])) rfl (hb hby at_1) _ ?_
    show Steps p.tables e below (s₁.setTop (mkF m 3 #[.val (.int p1), .unset, .unset, .unset] [(.int (2147483647 : Int32)), (.int p1)])) _
    refine XS.iand X0.here hx rfl (hb hby at_3) rfl ?_
    show Steps p.tables e below (s₁.setTop (mkF m 4 #[.val (.int p1), .unset, .unset, .unset] [(.int (p1 &&& (2147483647 : Int32)))])) _
    refine XS.bipush X0.here hx rfl (hb hby at_4) ?_
    show Steps p.tables e below (s₁.setTop (mkF m 6 #[.val (.int p1), .unset, .unset, .unset] [(.int (7 : Int32)), (.int (p1 &&& (2147483647 : Int32)))])) _
    refine iremM X0 hx rfl (hb hby at_6) rfl (by decide) ?_
    rw [hk]
    show Steps p.tables e below (s₁.setTop (mkF m 7 #[.val (.int p1), .unset, .unset, .unset] [(.int (4 : Int32))])) _
    refine XS.iconst X0.here hx rfl (hb hby at_7) ?_
    show Steps p.tables e below (s₁.setTop (mkF m 8 #[.val (.int p1), .unset, .unset, .unset] [(.int (1 : Int32)), (.int (4 : Int32))])) _
    refine XS.iadd X0.here hx rfl (hb hby at_8) rfl ?_
    rw [show ((4 : Int32) + (1 : Int32)) = (5 : Int32) from by decide]
    show Steps p.tables e below (s₁.setTop (mkF m 9 #[.val (.int p1), .unset, .unset, .unset] [(.int (5 : Int32))])) _
    refine XS.istoreN X0.here hx rfl (hb hby at_9) rfl (l' := #[.val (.int p1), .val (.int (5 : Int32)), .unset, .unset]) rfl ?_
    show Steps p.tables e below (s₁.setTop (mkF m 10 #[.val (.int p1), .val (.int (5 : Int32)), .unset, .unset] [])) _
    refine XS.iloadN X0.here hx rfl (hb hby at_10) rfl ?_
    show Steps p.tables e below (s₁.setTop (mkF m 11 #[.val (.int p1), .val (.int (5 : Int32)), .unset, .unset] [(.int (5 : Int32))])) _
    refine st1 _ ?_
    show Steps p.tables e below (T1.setTop (mkF m 14 #[.val (.int p1), .val (.int (5 : Int32)), .unset, .unset] [(.ref w_SETTLED)])) _
    refine XS.astoreN X1.here hx rfl (hb hby at_14) rfl rfl (l' := #[.val (.int p1), .val (.int (5 : Int32)), .val (.ref w_SETTLED), .unset]) rfl ?_
    show Steps p.tables e below (T1.setTop (mkF m 15 #[.val (.int p1), .val (.int (5 : Int32)), .val (.ref w_SETTLED), .unset] [])) _
    refine XS.iloadN X1.here hx rfl (hb hby at_15) rfl ?_
    show Steps p.tables e below (T1.setTop (mkF m 16 #[.val (.int p1), .val (.int (5 : Int32)), .val (.ref w_SETTLED), .unset] [(.int (5 : Int32))])) _
    refine XS.i2b X1.here hx rfl (hb hby at_16) rfl ?_
    rw [show ((5 : Int32).toInt8.toInt32) = (5 : Int32) from by decide]
    show Steps p.tables e below (T1.setTop (mkF m 17 #[.val (.int p1), .val (.int (5 : Int32)), .val (.ref w_SETTLED), .unset] [(.int (5 : Int32))])) _
    refine st2 _ ?_
    show Steps p.tables e below (T2.setTop (mkF m 20 #[.val (.int p1), .val (.int (5 : Int32)), .val (.ref w_SETTLED), .unset] [(.ref w_SETTLED)])) _
    refine XS.astoreN X2.here hx rfl (hb hby at_20) rfl rfl (l' := #[.val (.int p1), .val (.int (5 : Int32)), .val (.ref w_SETTLED), .val (.ref w_SETTLED)]) rfl ?_
    show Steps p.tables e below (T2.setTop (mkF m 21 #[.val (.int p1), .val (.int (5 : Int32)), .val (.ref w_SETTLED), .val (.ref w_SETTLED)] [])) _
    refine XS.aloadN X2.here hx rfl (hb hby at_21) rfl rfl ?_
    show Steps p.tables e below (T2.setTop (mkF m 22 #[.val (.int p1), .val (.int (5 : Int32)), .val (.ref w_SETTLED), .val (.ref w_SETTLED)] [(.ref w_SETTLED)])) _
    refine XS.aloadN X2.here hx rfl (hb hby at_22) rfl rfl ?_
    show Steps p.tables e below (T2.setTop (mkF m 23 #[.val (.int p1), .val (.int (5 : Int32)), .val (.ref w_SETTLED), .val (.ref w_SETTLED)] [(.ref w_SETTLED), (.ref w_SETTLED)])) _
    refine Jvm.RoadKit.acmp (g := (mkF m 23 #[.val (.int p1), .val (.int (5 : Int32)), .val (.ref w_SETTLED), .val (.ref w_SETTLED)] [(.ref w_SETTLED), (.ref w_SETTLED)])) X2 hx rfl rfl rfl (pc0 := 23) (pc' := 26) (same := true) rfl (hb hby at_23) rfl (decide_eq_true rfl) (by decide) (by decide) ?_
    show Steps p.tables e below (T2.setTop (mkF m 26 #[.val (.int p1), .val (.int (5 : Int32)), .val (.ref w_SETTLED), .val (.ref w_SETTLED)] [])) _
    refine XS.aloadN X2.here hx rfl (hb hby at_26) rfl rfl ?_
    show Steps p.tables e below (T2.setTop (mkF m 27 #[.val (.int p1), .val (.int (5 : Int32)), .val (.ref w_SETTLED), .val (.ref w_SETTLED)] [(.ref w_SETTLED)])) _
    refine st3.trans ?_
    show Steps p.tables e below (T3.setTop (mkF m 30 #[.val (.int p1), .val (.int (5 : Int32)), .val (.ref w_SETTLED), .val (.ref w_SETTLED)] [(.int (5 : Int32))])) _
    refine XS.iloadN X3.here hx rfl (hb hby at_30) rfl ?_
    show Steps p.tables e below (T3.setTop (mkF m 31 #[.val (.int p1), .val (.int (5 : Int32)), .val (.ref w_SETTLED), .val (.ref w_SETTLED)] [(.int (5 : Int32)), (.int (5 : Int32))])) _
    refine XS.i2b X3.here hx rfl (hb hby at_31) rfl ?_
    rw [show ((5 : Int32).toInt8.toInt32) = (5 : Int32) from by decide]
    show Steps p.tables e below (T3.setTop (mkF m 32 #[.val (.int p1), .val (.int (5 : Int32)), .val (.ref w_SETTLED), .val (.ref w_SETTLED)] [(.int (5 : Int32)), (.int (5 : Int32))])) _
    refine XS.icmpNo X3.here hx rfl (hb hby at_32) rfl (teq (by decide : (5 : Int32) = (5 : Int32))).2 ?_
    show Steps p.tables e below (T3.setTop (mkF m 35 #[.val (.int p1), .val (.int (5 : Int32)), .val (.ref w_SETTLED), .val (.ref w_SETTLED)] [])) _
    refine XS.iconst X3.here hx rfl (hb hby at_35) ?_
    show Steps p.tables e below (T3.setTop (mkF m 36 #[.val (.int p1), .val (.int (5 : Int32)), .val (.ref w_SETTLED), .val (.ref w_SETTLED)] [(.int (1 : Int32))])) _
    refine XS.goto X3.here hx rfl (pc0 := 36) (pc' := 40) rfl (hb hby at_36) (by decide) (by decide) ?_
    show Steps p.tables e below (T3.setTop (mkF m 40 #[.val (.int p1), .val (.int (5 : Int32)), .val (.ref w_SETTLED), .val (.ref w_SETTLED)] [(.int (1 : Int32))])) _
    exact retN X3 hx (t := .boolean) Bd.returns (by simp) (hb hby at_40) hr
  · exact ⟨rfl, N3⟩
theorem d1_45 : decode method_2_code 45 = .ok (.iload_n 0, 1) := by decide +kernel
theorem d1_46 : decode method_2_code 46 = .ok (.bipush 6, 2) := by decide +kernel
theorem d1_48 : decode method_2_code 48 = .ok (.if_icmp .ne 7, 3) := by decide +kernel
theorem d1_51 : decode method_2_code 51 = .ok (.getstatic 25, 3) := by decide +kernel
theorem d1_54 : decode method_2_code 54 = .ok (.areturn, 1) := by decide +kernel
def Q1_21 (Z : State) (w_ACK : Addr) (w__VALUES : Addr) (w_GROUP : Addr) (w_OPENED : Addr) (w_PUT : Addr) (w_SETTLED : Addr) (w_CHECKED : Addr) (w_PARKED : Addr) (cl_w__VALUES : Cell) (h0 : Heap) (n0 : Nat) (v : Option Value) (h : Heap) (L : List Loc) : Prop := v = some (.ref w_CHECKED) ∧ Fr n0 L ∧ h = h0
set_option maxRecDepth 65536 in
set_option maxHeartbeats 40000000 in
theorem rm1_21 (l : Launch) (Z : State) (a0 : Array Value) (hw : ∀ d ∈ tables_1, d.before a0 Z = true) (ws : List Jvm.Cond) (w_ACK : Addr) (w__VALUES : Addr) (w_GROUP : Addr) (w_OPENED : Addr) (w_PUT : Addr) (w_SETTLED : Addr) (w_CHECKED : Addr) (w_PARKED : Addr) (cl_w__VALUES : Cell) (h0 : Heap) (n0 : Nat) (Z0 : n0 ≤ h0.size) (O0 : Old Z n0 h0) (HW : World Z w_ACK w__VALUES w_GROUP w_OPENED w_PUT w_SETTLED w_CHECKED w_PARKED cl_w__VALUES) :
    MetFree l (⟨"com/example/clinch/clinch/broker/NoteKindOfPinLaw", "expected", "(I)Lcom/example/clinch/clinch/broker/NoteKind;"⟩ : MethodName) (head1 (Jvm.Cond.code (⟨"com/example/clinch/clinch/broker/NoteKindOfPinLaw", "expected", "(I)Lcom/example/clinch/clinch/broker/NoteKind;"⟩ : MethodName) method_2_code 1 (some (.object "com/example/clinch/clinch/broker/NoteKind")) :: ws) ({ frames := 0, cells := 0, slots := 0, locals := 0 } : Room)) (fun a U => a = #[(.int (6 : Int32))] ∧ Z.Warmed39 U.vm ∧ U.heap = h0) (fun _ _ _ _ _ => True) (fun _ U o U' => ∃ v L, o = .returned v ∧ Q1_21 Z w_ACK w__VALUES w_GROUP w_OPENED w_PUT w_SETTLED w_CHECKED w_PARKED cl_w__VALUES h0 n0 v U'.heap L ∧ FrameEnd U o U' L ({ frames := 0, cells := 0, slots := 0, locals := 0 } : Room).cells ({ frames := 0, cells := 0, slots := 0, locals := 0 } : Room).slots) := by
  refine MetFree.of_bodySF (plainFor_of_name pn7) hisR ?_
  intro p e s m args below meth c s₁ Bd hml0 hP hK
  obtain ⟨rfl, hZ, hh⟩ := hP
  have hx := Bd.exec
  have hby := Bd.bytes
  have hml : c.maxLocals = 1 := hml0
  have hown : s.vm.findClass "com/example/clinch/clinch/broker/NoteKindOfPinLaw" = some m.cls := findClass_of_methodNamed Bd.named
  have hnm := (name_of_methodNamed Bd.named Bd.method).1
  have X0 : Stand p l e ({ frames := 0, cells := 0, slots := 0, locals := 0 } : Room) s m #[(.int (6 : Int32))] below meth c s₁ [] 0 0 := Stand.of_body Bd
  have e0 : s₁.heap = h0 := by rw [← hh, Bd.state]; rfl
  have N0 := Fr.nil n0
  have pre0 : ∀ t, Steps p.tables e below (s₁.setTop (mkF m 0 #[.val (.int (6 : Int32))] [])) t → Steps p.tables e below (s₁.setTop (entryFrame m #[(.int (6 : Int32))] 1)) t := fun t k => castTop (ef6 m (6 : Int32)) k
  obtain ⟨S_w_ACK, E_w_ACK, S_w__VALUES, E_w__VALUES, S_w_GROUP, E_w_GROUP, S_w_OPENED, E_w_OPENED, S_w_PUT, E_w_PUT, S_w_SETTLED, E_w_SETTLED, S_w_CHECKED, E_w_CHECKED, S_w_PARKED, E_w_PARKED, F_code_w_ACK, F_code_w_GROUP, F_code_w_OPENED, F_code_w_PUT, F_code_w_SETTLED, F_code_w_CHECKED, F_code_w_PARKED, Ar_w__VALUES, Sz_w__VALUES, At_w__VALUES_0, At_w__VALUES_1, At_w__VALUES_2, At_w__VALUES_3, At_w__VALUES_4, At_w__VALUES_5, At_w__VALUES_6, ne_w_ACK_w_GROUP, ne_w_ACK_w_OPENED, ne_w_ACK_w_PUT, ne_w_ACK_w_SETTLED, ne_w_ACK_w_CHECKED, ne_w_ACK_w_PARKED, ne_w_GROUP_w_OPENED, ne_w_GROUP_w_PUT, ne_w_GROUP_w_SETTLED, ne_w_GROUP_w_CHECKED, ne_w_GROUP_w_PARKED, ne_w_OPENED_w_PUT, ne_w_OPENED_w_SETTLED, ne_w_OPENED_w_CHECKED, ne_w_OPENED_w_PARKED, ne_w_PUT_w_SETTLED, ne_w_PUT_w_CHECKED, ne_w_PUT_w_PARKED, ne_w_SETTLED_w_CHECKED, ne_w_SETTLED_w_PARKED, ne_w_CHECKED_w_PARKED, V_w__VALUES, -⟩ := id HW
  obtain ⟨T1, X1, e1, st1⟩ := getS2 X0 hx hZ hown (host := "") (Or.inl (hw _ (List.mem_of_getElem? (i := 40) rfl))) Via.refl e0 (S_w_CHECKED.ext O0.2) (g := (mkF m 51 #[.val (.int (6 : Int32))] [])) rfl (hb hby d1_51)
  obtain ⟨fs, hr, hrun, hended, hW, hsame⟩ := X1.leave (v := some (.ref w_CHECKED)) (fun h => by rw [Bd.returns] at h; cases h)
  refine ⟨_, _, pre0 _ ?_, hrun, hended, _, _, rfl, ?_, ⟨_, rfl⟩, hW, hsame.mono (by decide) (by decide)⟩
  · show Steps p.tables e below (s₁.setTop (mkF m 0 #[.val (.int (6 : Int32))] [])) _
    refine XS.iloadN X0.here hx rfl (hb hby d1_0) rfl ?_
    show Steps p.tables e below (s₁.setTop (mkF m 1 #[.val (.int (6 : Int32))] [(.int (6 : Int32))])) _
    refine XS.iconst X0.here hx rfl (hb hby d1_1) ?_
    show Steps p.tables e below (s₁.setTop (mkF m 2 #[.val (.int (6 : Int32))] [(.int (1 : Int32)), (.int (6 : Int32))])) _
    refine XS.icmpYes X0.here hx rfl (pc0 := 2) (pc' := 9) rfl (hb hby d1_2) rfl (feq (by decide : ¬ ((6 : Int32) = (1 : Int32)))).2 (by decide) (by decide) ?_
    show Steps p.tables e below (s₁.setTop (mkF m 9 #[.val (.int (6 : Int32))] [])) _
    refine XS.iloadN X0.here hx rfl (hb hby d1_9) rfl ?_
    show Steps p.tables e below (s₁.setTop (mkF m 10 #[.val (.int (6 : Int32))] [(.int (6 : Int32))])) _
    refine XS.iconst X0.here hx rfl (hb hby d1_10) ?_
    show Steps p.tables e below (s₁.setTop (mkF m 11 #[.val (.int (6 : Int32))] [(.int (2 : Int32)), (.int (6 : Int32))])) _
    refine XS.icmpYes X0.here hx rfl (pc0 := 11) (pc' := 18) rfl (hb hby d1_11) rfl (feq (by decide : ¬ ((6 : Int32) = (2 : Int32)))).2 (by decide) (by decide) ?_
    show Steps p.tables e below (s₁.setTop (mkF m 18 #[.val (.int (6 : Int32))] [])) _
    refine XS.iloadN X0.here hx rfl (hb hby d1_18) rfl ?_
    show Steps p.tables e below (s₁.setTop (mkF m 19 #[.val (.int (6 : Int32))] [(.int (6 : Int32))])) _
    refine XS.iconst X0.here hx rfl (hb hby d1_19) ?_
    show Steps p.tables e below (s₁.setTop (mkF m 20 #[.val (.int (6 : Int32))] [(.int (3 : Int32)), (.int (6 : Int32))])) _
    refine XS.icmpYes X0.here hx rfl (pc0 := 20) (pc' := 27) rfl (hb hby d1_20) rfl (feq (by decide : ¬ ((6 : Int32) = (3 : Int32)))).2 (by decide) (by decide) ?_
    show Steps p.tables e below (s₁.setTop (mkF m 27 #[.val (.int (6 : Int32))] [])) _
    refine XS.iloadN X0.here hx rfl (hb hby d1_27) rfl ?_
    show Steps p.tables e below (s₁.setTop (mkF m 28 #[.val (.int (6 : Int32))] [(.int (6 : Int32))])) _
    refine XS.iconst X0.here hx rfl (hb hby d1_28) ?_
    show Steps p.tables e below (s₁.setTop (mkF m 29 #[.val (.int (6 : Int32))] [(.int (4 : Int32)), (.int (6 : Int32))])) _
    refine XS.icmpYes X0.here hx rfl (pc0 := 29) (pc' := 36) rfl (hb hby d1_29) rfl (feq (by decide : ¬ ((6 : Int32) = (4 : Int32)))).2 (by decide) (by decide) ?_
    show Steps p.tables e below (s₁.setTop (mkF m 36 #[.val (.int (6 : Int32))] [])) _
    refine XS.iloadN X0.here hx rfl (hb hby d1_36) rfl ?_
    show Steps p.tables e below (s₁.setTop (mkF m 37 #[.val (.int (6 : Int32))] [(.int (6 : Int32))])) _
    refine XS.iconst X0.here hx rfl (hb hby d1_37) ?_
    show Steps p.tables e below (s₁.setTop (mkF m 38 #[.val (.int (6 : Int32))] [(.int (5 : Int32)), (.int (6 : Int32))])) _
    refine XS.icmpYes X0.here hx rfl (pc0 := 38) (pc' := 45) rfl (hb hby d1_38) rfl (feq (by decide : ¬ ((6 : Int32) = (5 : Int32)))).2 (by decide) (by decide) ?_
    show Steps p.tables e below (s₁.setTop (mkF m 45 #[.val (.int (6 : Int32))] [])) _
    refine XS.iloadN X0.here hx rfl (hb hby d1_45) rfl ?_
    show Steps p.tables e below (s₁.setTop (mkF m 46 #[.val (.int (6 : Int32))] [(.int (6 : Int32))])) _
    refine XS.bipush X0.here hx rfl (hb hby d1_46) ?_
    show Steps p.tables e below (s₁.setTop (mkF m 48 #[.val (.int (6 : Int32))] [(.int (6 : Int32)), (.int (6 : Int32))])) _
    refine XS.icmpNo X0.here hx rfl (hb hby d1_48) rfl (teq (by decide : (6 : Int32) = (6 : Int32))).2 ?_
    show Steps p.tables e below (s₁.setTop (mkF m 51 #[.val (.int (6 : Int32))] [])) _
    refine st1 _ ?_
    show Steps p.tables e below (T1.setTop (mkF m 54 #[.val (.int (6 : Int32))] [(.ref w_CHECKED)])) _
    jvm_step X1.here [X1.here.top, hx, (hb hby d1_54), X1.method', Bd.returns, Value.isRef, FieldType.isReference]
    first | (intro acts; rw [hr _ acts rfl rfl rfl]) | rw [hr _ _ rfl rfl rfl]
    exact Steps.refl _
  · exact ⟨rfl, N0, e1⟩
def Q2_22 (Z : State) (w_ACK : Addr) (w__VALUES : Addr) (w_GROUP : Addr) (w_OPENED : Addr) (w_PUT : Addr) (w_SETTLED : Addr) (w_CHECKED : Addr) (w_PARKED : Addr) (cl_w__VALUES : Cell) (h0 : Heap) (n0 : Nat) (v : Option Value) (h : Heap) (L : List Loc) : Prop := v = some (.ref w_CHECKED) ∧ Fr n0 L ∧ Keep h0 h [] ∧ Old Z n0 h ∧ True
set_option maxRecDepth 65536 in
set_option maxHeartbeats 40000000 in
theorem rm2_22 (l : Launch) (Z : State) (a0 : Array Value) (hw : ∀ d ∈ tables_1, d.before a0 Z = true) (ws : List Jvm.Cond) (w_ACK : Addr) (w__VALUES : Addr) (w_GROUP : Addr) (w_OPENED : Addr) (w_PUT : Addr) (w_SETTLED : Addr) (w_CHECKED : Addr) (w_PARKED : Addr) (cl_w__VALUES : Cell) (h0 : Heap) (n0 : Nat) (Z0 : n0 ≤ h0.size) (O0 : Old Z n0 h0) (HW : World Z w_ACK w__VALUES w_GROUP w_OPENED w_PUT w_SETTLED w_CHECKED w_PARKED cl_w__VALUES) :
    MetFree l (⟨"com/example/clinch/clinch/broker/NoteKind", "of", "(B)Lcom/example/clinch/clinch/broker/NoteKind;"⟩ : MethodName) (head1 (Jvm.Cond.code (⟨"com/example/clinch/clinch/broker/NoteKind", "of", "(B)Lcom/example/clinch/clinch/broker/NoteKind;"⟩ : MethodName) prog_7_method_5_code 5 (some (.object "com/example/clinch/clinch/broker/NoteKind")) :: ws) ({ frames := 2, cells := 1, slots := 7, locals := 25 } : Room)) (fun a U => a = #[(.int (6 : Int32))] ∧ Z.Warmed39 U.vm ∧ U.heap = h0) (fun _ _ _ _ _ => True) (fun _ U o U' => ∃ v L, o = .returned v ∧ Q2_22 Z w_ACK w__VALUES w_GROUP w_OPENED w_PUT w_SETTLED w_CHECKED w_PARKED cl_w__VALUES h0 n0 v U'.heap L ∧ FrameEnd U o U' L ({ frames := 2, cells := 1, slots := 7, locals := 25 } : Room).cells ({ frames := 2, cells := 1, slots := 7, locals := 25 } : Room).slots) := by
  refine MetFree.of_bodySF (plainFor_of_name pn15) hisR ?_
  intro p e s m args below meth c s₁ Bd hml0 hP hK
  obtain ⟨rfl, hZ, hh⟩ := hP
  have hx := Bd.exec
  have hby := Bd.bytes
  have hml : c.maxLocals = 5 := hml0
  have hown : s.vm.findClass "com/example/clinch/clinch/broker/NoteKind" = some m.cls := findClass_of_methodNamed Bd.named
  have hnm := (name_of_methodNamed Bd.named Bd.method).1
  have X0 : Stand p l e ({ frames := 2, cells := 1, slots := 7, locals := 25 } : Room) s m #[(.int (6 : Int32))] below meth c s₁ [] 0 0 := Stand.of_body Bd
  have e0 : s₁.heap = h0 := by rw [← hh, Bd.state]; rfl
  have N0 := Fr.nil n0
  have pre0 : ∀ t, Steps p.tables e below (s₁.setTop (mkF m 0 #[.val (.int (6 : Int32)), .unset, .unset, .unset, .unset] [])) t → Steps p.tables e below (s₁.setTop (entryFrame m #[(.int (6 : Int32))] 5)) t := fun t k => castTop (ef38 m (6 : Int32)) k
  obtain ⟨S_w_ACK, E_w_ACK, S_w__VALUES, E_w__VALUES, S_w_GROUP, E_w_GROUP, S_w_OPENED, E_w_OPENED, S_w_PUT, E_w_PUT, S_w_SETTLED, E_w_SETTLED, S_w_CHECKED, E_w_CHECKED, S_w_PARKED, E_w_PARKED, F_code_w_ACK, F_code_w_GROUP, F_code_w_OPENED, F_code_w_PUT, F_code_w_SETTLED, F_code_w_CHECKED, F_code_w_PARKED, Ar_w__VALUES, Sz_w__VALUES, At_w__VALUES_0, At_w__VALUES_1, At_w__VALUES_2, At_w__VALUES_3, At_w__VALUES_4, At_w__VALUES_5, At_w__VALUES_6, ne_w_ACK_w_GROUP, ne_w_ACK_w_OPENED, ne_w_ACK_w_PUT, ne_w_ACK_w_SETTLED, ne_w_ACK_w_CHECKED, ne_w_ACK_w_PARKED, ne_w_GROUP_w_OPENED, ne_w_GROUP_w_PUT, ne_w_GROUP_w_SETTLED, ne_w_GROUP_w_CHECKED, ne_w_GROUP_w_PARKED, ne_w_OPENED_w_PUT, ne_w_OPENED_w_SETTLED, ne_w_OPENED_w_CHECKED, ne_w_OPENED_w_PARKED, ne_w_PUT_w_SETTLED, ne_w_PUT_w_CHECKED, ne_w_PUT_w_PARKED, ne_w_SETTLED_w_CHECKED, ne_w_SETTLED_w_PARKED, ne_w_CHECKED_w_PARKED, V_w__VALUES, -⟩ := id HW
  obtain ⟨_, _, ⟨T1, L1, k1, n1⟩, -, X1, ⟨Lc1, hQ1, l1, y1, z1⟩, st1⟩ := Jvm.LawKit.callS X0 hx (y := (⟨"com/example/clinch/clinch/broker/NoteKind", "values", "()[Lcom/example/clinch/clinch/broker/NoteKind;"⟩ : MethodName)) hown (mvT hZ (hw _ (List.mem_of_getElem? (i := 11) rfl))) (mvT hZ (hw _ (List.mem_of_getElem? (i := 12) rfl))) (mvT hZ (hw _ (List.mem_of_getElem? (i := 6) rfl))) (mvT hZ (hw _ (List.mem_of_getElem? (i := 13) rfl))) (by decide) (backOf (W := 0) (rm3_1 l Z a0 hw [] w_ACK w__VALUES w_GROUP w_OPENED w_PUT w_SETTLED w_CHECKED w_PARKED cl_w__VALUES h0 n0 (own_n0 O0) O0 HW) hZ (hw _ (List.mem_of_getElem? (i := 13) rfl)) (hw _ (List.mem_of_getElem? (i := 6) rfl)) (by decide) (by decide)) (g := (mkF m 0 #[.val (.int (6 : Int32)), .unset, .unset, .unset, .unset] [])) rfl (by rw [hml]; rfl) (argsL := []) (rest := []) (lenOf pd16 rfl) rfl (by show 2 * 0 + _ ≤ _; exact Nat.le_of_eq rfl) (hb hby d2_0) (fun _ _ => ⟨rfl, e0, (by decide : 0 + 1 ≤ _), (by decide : 0 + 7 ≤ _)⟩)
  dsimp only [Pt.U, Pt.locs, Pt.cells, Pt.slots] at X1 l1 y1 z1 st1 hQ1
  subst l1 y1 z1
  obtain ⟨b1_0, fk1_0, rfl, N1q, K1, O1, pz_b1_0, pf1_0, pf1_1, -⟩ := hQ1
  have bo_b1_0 : h0.size ≤ b1_0 := pz_b1_0
  have g_b1_0 : n0 ≤ b1_0 := Nat.le_trans (own_n0 O0) bo_b1_0
  have sz_b1_0 : h0.size ≤ b1_0 := Nat.le_trans (Keep.refl h0 []).1 bo_b1_0
  have KK1 : Keep h0 T1.heap [] := (Keep.refl h0 []).trans K1 all0
  have N1 := Fr.app N0 N1q
  obtain ⟨ac2, aA2, aq2, aS2, aN2, aH2, aG2⟩ := id pf1_1
  obtain ⟨ac3, aA3, aq3, aS3, aN3, aH3, aG3⟩ := id pf1_1
  obtain ⟨T4, X4, e4, st4⟩ := getF X1 hx hZ hown (host := "") (Or.inl (hw _ (List.mem_of_getElem? (i := 32) rfl))) Via.refl rfl (F_code_w_ACK.ext O1.2) (g := (mkF m 21 #[.val (.int (6 : Int32)), .val (.ref b1_0), .val (.int (7 : Int32)), .val (.int (0 : Int32)), .val (.ref w_ACK)] [(.ref w_ACK)])) rfl rfl (hb hby d2_21)
  obtain ⟨ac5, aA5, aq5, aS5, aN5, aH5, aG5⟩ := id pf1_1
  obtain ⟨T6, X6, e6, st6⟩ := getF X4 hx hZ hown (host := "") (Or.inl (hw _ (List.mem_of_getElem? (i := 32) rfl))) Via.refl e4 (F_code_w_GROUP.ext O1.2) (g := (mkF m 21 #[.val (.int (6 : Int32)), .val (.ref b1_0), .val (.int (7 : Int32)), .val (.int (1 : Int32)), .val (.ref w_GROUP)] [(.ref w_GROUP)])) rfl rfl (hb hby d2_21)
  obtain ⟨ac7, aA7, aq7, aS7, aN7, aH7, aG7⟩ := id pf1_1
  obtain ⟨T8, X8, e8, st8⟩ := getF X6 hx hZ hown (host := "") (Or.inl (hw _ (List.mem_of_getElem? (i := 32) rfl))) Via.refl e6 (F_code_w_OPENED.ext O1.2) (g := (mkF m 21 #[.val (.int (6 : Int32)), .val (.ref b1_0), .val (.int (7 : Int32)), .val (.int (2 : Int32)), .val (.ref w_OPENED)] [(.ref w_OPENED)])) rfl rfl (hb hby d2_21)
  obtain ⟨ac9, aA9, aq9, aS9, aN9, aH9, aG9⟩ := id pf1_1
  obtain ⟨T10, X10, e10, st10⟩ := getF X8 hx hZ hown (host := "") (Or.inl (hw _ (List.mem_of_getElem? (i := 32) rfl))) Via.refl e8 (F_code_w_PUT.ext O1.2) (g := (mkF m 21 #[.val (.int (6 : Int32)), .val (.ref b1_0), .val (.int (7 : Int32)), .val (.int (3 : Int32)), .val (.ref w_PUT)] [(.ref w_PUT)])) rfl rfl (hb hby d2_21)
  obtain ⟨ac11, aA11, aq11, aS11, aN11, aH11, aG11⟩ := id pf1_1
  obtain ⟨T12, X12, e12, st12⟩ := getF X10 hx hZ hown (host := "") (Or.inl (hw _ (List.mem_of_getElem? (i := 32) rfl))) Via.refl e10 (F_code_w_SETTLED.ext O1.2) (g := (mkF m 21 #[.val (.int (6 : Int32)), .val (.ref b1_0), .val (.int (7 : Int32)), .val (.int (4 : Int32)), .val (.ref w_SETTLED)] [(.ref w_SETTLED)])) rfl rfl (hb hby d2_21)
  obtain ⟨ac13, aA13, aq13, aS13, aN13, aH13, aG13⟩ := id pf1_1
  obtain ⟨T14, X14, e14, st14⟩ := getF X12 hx hZ hown (host := "") (Or.inl (hw _ (List.mem_of_getElem? (i := 32) rfl))) Via.refl e12 (F_code_w_CHECKED.ext O1.2) (g := (mkF m 21 #[.val (.int (6 : Int32)), .val (.ref b1_0), .val (.int (7 : Int32)), .val (.int (5 : Int32)), .val (.ref w_CHECKED)] [(.ref w_CHECKED)])) rfl rfl (hb hby d2_21)
  obtain ⟨fs, hr, hrun, hended, hW, hsame⟩ := X14.leave (v := some (.ref w_CHECKED)) (fun h => by rw [Bd.returns] at h; cases h)
  refine ⟨_, _, pre0 _ ?_, hrun, hended, _, _, rfl, ?_, ⟨_, rfl⟩, hW, hsame.mono (by decide) (by decide)⟩
  · show Steps p.tables e below (s₁.setTop (mkF m 0 #[.val (.int (6 : Int32)), .unset, .unset, .unset, .unset] [])) _
    refine st1 _ ?_
    show Steps p.tables e below (T1.setTop (mkF m 3 #[.val (.int (6 : Int32)), .unset, .unset, .unset, .unset] [(.ref b1_0)])) _
    refine XS.astoreN X1.here hx rfl (hb hby d2_3) rfl rfl (l' := #[.val (.int (6 : Int32)), .val (.ref b1_0), .unset, .unset, .unset]) rfl ?_
    show Steps p.tables e below (T1.setTop (mkF m 4 #[.val (.int (6 : Int32)), .val (.ref b1_0), .unset, .unset, .unset] [])) _
    refine XS.aloadN X1.here hx rfl (hb hby d2_4) rfl rfl ?_
    show Steps p.tables e below (T1.setTop (mkF m 5 #[.val (.int (6 : Int32)), .val (.ref b1_0), .unset, .unset, .unset] [(.ref b1_0)])) _
    refine X1.arraylength hx aA2.1 (State.isArrayOf_alike hZ.alike aA2.2.1) (g := (mkF m 5 #[.val (.int (6 : Int32)), .val (.ref b1_0), .unset, .unset, .unset] [(.ref b1_0)])) rfl rfl (hb hby d2_5) _ ?_
    rw [len_of aS2 aN2]
    show Steps p.tables e below (T1.setTop (mkF m 6 #[.val (.int (6 : Int32)), .val (.ref b1_0), .unset, .unset, .unset] [(.int (7 : Int32))])) _
    refine XS.istoreN X1.here hx rfl (hb hby d2_6) rfl (l' := #[.val (.int (6 : Int32)), .val (.ref b1_0), .val (.int (7 : Int32)), .unset, .unset]) rfl ?_
    show Steps p.tables e below (T1.setTop (mkF m 7 #[.val (.int (6 : Int32)), .val (.ref b1_0), .val (.int (7 : Int32)), .unset, .unset] [])) _
    refine XS.iconst X1.here hx rfl (hb hby d2_7) ?_
    show Steps p.tables e below (T1.setTop (mkF m 8 #[.val (.int (6 : Int32)), .val (.ref b1_0), .val (.int (7 : Int32)), .unset, .unset] [(.int (0 : Int32))])) _
    refine XS.istoreN X1.here hx rfl (hb hby d2_8) rfl (l' := #[.val (.int (6 : Int32)), .val (.ref b1_0), .val (.int (7 : Int32)), .val (.int (0 : Int32)), .unset]) rfl ?_
    show Steps p.tables e below (T1.setTop (mkF m 9 #[.val (.int (6 : Int32)), .val (.ref b1_0), .val (.int (7 : Int32)), .val (.int (0 : Int32)), .unset] [])) _
    refine XS.iloadN X1.here hx rfl (hb hby d2_9) rfl ?_
    show Steps p.tables e below (T1.setTop (mkF m 10 #[.val (.int (6 : Int32)), .val (.ref b1_0), .val (.int (7 : Int32)), .val (.int (0 : Int32)), .unset] [(.int (0 : Int32))])) _
    refine XS.iloadN X1.here hx rfl (hb hby d2_10) rfl ?_
    show Steps p.tables e below (T1.setTop (mkF m 11 #[.val (.int (6 : Int32)), .val (.ref b1_0), .val (.int (7 : Int32)), .val (.int (0 : Int32)), .unset] [(.int (7 : Int32)), (.int (0 : Int32))])) _
    refine XS.icmpNo X1.here hx rfl (hb hby d2_11) rfl (tlt (by decide : (0 : Int32) < (7 : Int32))).2.1 ?_
    show Steps p.tables e below (T1.setTop (mkF m 14 #[.val (.int (6 : Int32)), .val (.ref b1_0), .val (.int (7 : Int32)), .val (.int (0 : Int32)), .unset] [])) _
    refine XS.aloadN X1.here hx rfl (hb hby d2_14) rfl rfl ?_
    show Steps p.tables e below (T1.setTop (mkF m 15 #[.val (.int (6 : Int32)), .val (.ref b1_0), .val (.int (7 : Int32)), .val (.int (0 : Int32)), .unset] [(.ref b1_0)])) _
    refine XS.iloadN X1.here hx rfl (hb hby d2_15) rfl ?_
    show Steps p.tables e below (T1.setTop (mkF m 16 #[.val (.int (6 : Int32)), .val (.ref b1_0), .val (.int (7 : Int32)), .val (.int (0 : Int32)), .unset] [(.int (0 : Int32)), (.ref b1_0)])) _
    refine X1.aaload hx (j := (0 : Int32)) (v := (.ref w_ACK)) aA3.1 (State.isArrayOf_alike hZ.alike aA3.2.1) rfl aA3.2.2 (inb_of aS3 ⟨by decide, by decide⟩) (aH3.at (inb_of aS3 ⟨by decide, by decide⟩) rfl) (g := (mkF m 16 #[.val (.int (6 : Int32)), .val (.ref b1_0), .val (.int (7 : Int32)), .val (.int (0 : Int32)), .unset] [(.int (0 : Int32)), (.ref b1_0)])) rfl rfl (hb hby d2_16) _ ?_
    show Steps p.tables e below (T1.setTop (mkF m 17 #[.val (.int (6 : Int32)), .val (.ref b1_0), .val (.int (7 : Int32)), .val (.int (0 : Int32)), .unset] [(.ref w_ACK)])) _
    refine XS.astore X1.here hx rfl (hb hby d2_17) rfl rfl (l' := #[.val (.int (6 : Int32)), .val (.ref b1_0), .val (.int (7 : Int32)), .val (.int (0 : Int32)), .val (.ref w_ACK)]) rfl ?_
    show Steps p.tables e below (T1.setTop (mkF m 19 #[.val (.int (6 : Int32)), .val (.ref b1_0), .val (.int (7 : Int32)), .val (.int (0 : Int32)), .val (.ref w_ACK)] [])) _
    refine XS.aload X1.here hx rfl (hb hby d2_19) rfl rfl ?_
    show Steps p.tables e below (T1.setTop (mkF m 21 #[.val (.int (6 : Int32)), .val (.ref b1_0), .val (.int (7 : Int32)), .val (.int (0 : Int32)), .val (.ref w_ACK)] [(.ref w_ACK)])) _
    refine st4 _ ?_
    show Steps p.tables e below (T4.setTop (mkF m 24 #[.val (.int (6 : Int32)), .val (.ref b1_0), .val (.int (7 : Int32)), .val (.int (0 : Int32)), .val (.ref w_ACK)] [(.int (1 : Int32))])) _
    refine XS.iloadN X4.here hx rfl (hb hby d2_24) rfl ?_
    show Steps p.tables e below (T4.setTop (mkF m 25 #[.val (.int (6 : Int32)), .val (.ref b1_0), .val (.int (7 : Int32)), .val (.int (0 : Int32)), .val (.ref w_ACK)] [(.int (6 : Int32)), (.int (1 : Int32))])) _
    refine XS.icmpYes X4.here hx rfl (pc0 := 25) (pc' := 31) rfl (hb hby d2_25) rfl (feq (by decide : ¬ ((1 : Int32) = (6 : Int32)))).2 (by decide) (by decide) ?_
    show Steps p.tables e below (T4.setTop (mkF m 31 #[.val (.int (6 : Int32)), .val (.ref b1_0), .val (.int (7 : Int32)), .val (.int (0 : Int32)), .val (.ref w_ACK)] [])) _
    refine XS.iinc X4.here hx rfl (hb hby d2_31) rfl (l' := #[.val (.int (6 : Int32)), .val (.ref b1_0), .val (.int (7 : Int32)), .val (.int ((0 : Int32) + (1 : Int32))), .val (.ref w_ACK)]) rfl ?_
    rw [show ((0 : Int32) + (1 : Int32)) = (1 : Int32) from by decide]
    show Steps p.tables e below (T4.setTop (mkF m 34 #[.val (.int (6 : Int32)), .val (.ref b1_0), .val (.int (7 : Int32)), .val (.int (1 : Int32)), .val (.ref w_ACK)] [])) _
    refine XS.goto X4.here hx rfl (pc0 := 34) (pc' := 9) rfl (hb hby d2_34) (by decide) (by decide) ?_
    show Steps p.tables e below (T4.setTop (mkF m 9 #[.val (.int (6 : Int32)), .val (.ref b1_0), .val (.int (7 : Int32)), .val (.int (1 : Int32)), .val (.ref w_ACK)] [])) _
    refine XS.iloadN X4.here hx rfl (hb hby d2_9) rfl ?_
    show Steps p.tables e below (T4.setTop (mkF m 10 #[.val (.int (6 : Int32)), .val (.ref b1_0), .val (.int (7 : Int32)), .val (.int (1 : Int32)), .val (.ref w_ACK)] [(.int (1 : Int32))])) _
    refine XS.iloadN X4.here hx rfl (hb hby d2_10) rfl ?_
    show Steps p.tables e below (T4.setTop (mkF m 11 #[.val (.int (6 : Int32)), .val (.ref b1_0), .val (.int (7 : Int32)), .val (.int (1 : Int32)), .val (.ref w_ACK)] [(.int (7 : Int32)), (.int (1 : Int32))])) _
    refine XS.icmpNo X4.here hx rfl (hb hby d2_11) rfl (tlt (by decide : (1 : Int32) < (7 : Int32))).2.1 ?_
    show Steps p.tables e below (T4.setTop (mkF m 14 #[.val (.int (6 : Int32)), .val (.ref b1_0), .val (.int (7 : Int32)), .val (.int (1 : Int32)), .val (.ref w_ACK)] [])) _
    refine XS.aloadN X4.here hx rfl (hb hby d2_14) rfl rfl ?_
    show Steps p.tables e below (T4.setTop (mkF m 15 #[.val (.int (6 : Int32)), .val (.ref b1_0), .val (.int (7 : Int32)), .val (.int (1 : Int32)), .val (.ref w_ACK)] [(.ref b1_0)])) _
    refine XS.iloadN X4.here hx rfl (hb hby d2_15) rfl ?_
    show Steps p.tables e below (T4.setTop (mkF m 16 #[.val (.int (6 : Int32)), .val (.ref b1_0), .val (.int (7 : Int32)), .val (.int (1 : Int32)), .val (.ref w_ACK)] [(.int (1 : Int32)), (.ref b1_0)])) _
    refine X4.aaload hx (j := (1 : Int32)) (v := (.ref w_GROUP)) (by rw [e4]; exact aA5.1) (State.isArrayOf_alike hZ.alike aA5.2.1) rfl aA5.2.2 (inb_of aS5 ⟨by decide, by decide⟩) (aH5.at (inb_of aS5 ⟨by decide, by decide⟩) rfl) (g := (mkF m 16 #[.val (.int (6 : Int32)), .val (.ref b1_0), .val (.int (7 : Int32)), .val (.int (1 : Int32)), .val (.ref w_ACK)] [(.int (1 : Int32)), (.ref b1_0)])) rfl rfl (hb hby d2_16) _ ?_
    show Steps p.tables e below (T4.setTop (mkF m 17 #[.val (.int (6 : Int32)), .val (.ref b1_0), .val (.int (7 : Int32)), .val (.int (1 : Int32)), .val (.ref w_ACK)] [(.ref w_GROUP)])) _
    refine XS.astore X4.here hx rfl (hb hby d2_17) rfl rfl (l' := #[.val (.int (6 : Int32)), .val (.ref b1_0), .val (.int (7 : Int32)), .val (.int (1 : Int32)), .val (.ref w_GROUP)]) rfl ?_
    show Steps p.tables e below (T4.setTop (mkF m 19 #[.val (.int (6 : Int32)), .val (.ref b1_0), .val (.int (7 : Int32)), .val (.int (1 : Int32)), .val (.ref w_GROUP)] [])) _
    refine XS.aload X4.here hx rfl (hb hby d2_19) rfl rfl ?_
    show Steps p.tables e below (T4.setTop (mkF m 21 #[.val (.int (6 : Int32)), .val (.ref b1_0), .val (.int (7 : Int32)), .val (.int (1 : Int32)), .val (.ref w_GROUP)] [(.ref w_GROUP)])) _
    refine st6 _ ?_
    show Steps p.tables e below (T6.setTop (mkF m 24 #[.val (.int (6 : Int32)), .val (.ref b1_0), .val (.int (7 : Int32)), .val (.int (1 : Int32)), .val (.ref w_GROUP)] [(.int (2 : Int32))])) _
    refine XS.iloadN X6.here hx rfl (hb hby d2_24) rfl ?_
    show Steps p.tables e below (T6.setTop (mkF m 25 #[.val (.int (6 : Int32)), .val (.ref b1_0), .val (.int (7 : Int32)), .val (.int (1 : Int32)), .val (.ref w_GROUP)] [(.int (6 : Int32)), (.int (2 : Int32))])) _
    refine XS.icmpYes X6.here hx rfl (pc0 := 25) (pc' := 31) rfl (hb hby d2_25) rfl (feq (by decide : ¬ ((2 : Int32) = (6 : Int32)))).2 (by decide) (by decide) ?_
    show Steps p.tables e below (T6.setTop (mkF m 31 #[.val (.int (6 : Int32)), .val (.ref b1_0), .val (.int (7 : Int32)), .val (.int (1 : Int32)), .val (.ref w_GROUP)] [])) _
    refine XS.iinc X6.here hx rfl (hb hby d2_31) rfl (l' := #[.val (.int (6 : Int32)), .val (.ref b1_0), .val (.int (7 : Int32)), .val (.int ((1 : Int32) + (1 : Int32))), .val (.ref w_GROUP)]) rfl ?_
    rw [show ((1 : Int32) + (1 : Int32)) = (2 : Int32) from by decide]
    show Steps p.tables e below (T6.setTop (mkF m 34 #[.val (.int (6 : Int32)), .val (.ref b1_0), .val (.int (7 : Int32)), .val (.int (2 : Int32)), .val (.ref w_GROUP)] [])) _
    refine XS.goto X6.here hx rfl (pc0 := 34) (pc' := 9) rfl (hb hby d2_34) (by decide) (by decide) ?_
    show Steps p.tables e below (T6.setTop (mkF m 9 #[.val (.int (6 : Int32)), .val (.ref b1_0), .val (.int (7 : Int32)), .val (.int (2 : Int32)), .val (.ref w_GROUP)] [])) _
    refine XS.iloadN X6.here hx rfl (hb hby d2_9) rfl ?_
    show Steps p.tables e below (T6.setTop (mkF m 10 #[.val (.int (6 : Int32)), .val (.ref b1_0), .val (.int (7 : Int32)), .val (.int (2 : Int32)), .val (.ref w_GROUP)] [(.int (2 : Int32))])) _
    refine XS.iloadN X6.here hx rfl (hb hby d2_10) rfl ?_
    show Steps p.tables e below (T6.setTop (mkF m 11 #[.val (.int (6 : Int32)), .val (.ref b1_0), .val (.int (7 : Int32)), .val (.int (2 : Int32)), .val (.ref w_GROUP)] [(.int (7 : Int32)), (.int (2 : Int32))])) _
    refine XS.icmpNo X6.here hx rfl (hb hby d2_11) rfl (tlt (by decide : (2 : Int32) < (7 : Int32))).2.1 ?_
    show Steps p.tables e below (T6.setTop (mkF m 14 #[.val (.int (6 : Int32)), .val (.ref b1_0), .val (.int (7 : Int32)), .val (.int (2 : Int32)), .val (.ref w_GROUP)] [])) _
    refine XS.aloadN X6.here hx rfl (hb hby d2_14) rfl rfl ?_
    show Steps p.tables e below (T6.setTop (mkF m 15 #[.val (.int (6 : Int32)), .val (.ref b1_0), .val (.int (7 : Int32)), .val (.int (2 : Int32)), .val (.ref w_GROUP)] [(.ref b1_0)])) _
    refine XS.iloadN X6.here hx rfl (hb hby d2_15) rfl ?_
    show Steps p.tables e below (T6.setTop (mkF m 16 #[.val (.int (6 : Int32)), .val (.ref b1_0), .val (.int (7 : Int32)), .val (.int (2 : Int32)), .val (.ref w_GROUP)] [(.int (2 : Int32)), (.ref b1_0)])) _
    refine X6.aaload hx (j := (2 : Int32)) (v := (.ref w_OPENED)) (by rw [e6]; exact aA7.1) (State.isArrayOf_alike hZ.alike aA7.2.1) rfl aA7.2.2 (inb_of aS7 ⟨by decide, by decide⟩) (aH7.at (inb_of aS7 ⟨by decide, by decide⟩) rfl) (g := (mkF m 16 #[.val (.int (6 : Int32)), .val (.ref b1_0), .val (.int (7 : Int32)), .val (.int (2 : Int32)), .val (.ref w_GROUP)] [(.int (2 : Int32)), (.ref b1_0)])) rfl rfl (hb hby d2_16) _ ?_
    show Steps p.tables e below (T6.setTop (mkF m 17 #[.val (.int (6 : Int32)), .val (.ref b1_0), .val (.int (7 : Int32)), .val (.int (2 : Int32)), .val (.ref w_GROUP)] [(.ref w_OPENED)])) _
    refine XS.astore X6.here hx rfl (hb hby d2_17) rfl rfl (l' := #[.val (.int (6 : Int32)), .val (.ref b1_0), .val (.int (7 : Int32)), .val (.int (2 : Int32)), .val (.ref w_OPENED)]) rfl ?_
    show Steps p.tables e below (T6.setTop (mkF m 19 #[.val (.int (6 : Int32)), .val (.ref b1_0), .val (.int (7 : Int32)), .val (.int (2 : Int32)), .val (.ref w_OPENED)] [])) _
    refine XS.aload X6.here hx rfl (hb hby d2_19) rfl rfl ?_
    show Steps p.tables e below (T6.setTop (mkF m 21 #[.val (.int (6 : Int32)), .val (.ref b1_0), .val (.int (7 : Int32)), .val (.int (2 : Int32)), .val (.ref w_OPENED)] [(.ref w_OPENED)])) _
    refine st8 _ ?_
    show Steps p.tables e below (T8.setTop (mkF m 24 #[.val (.int (6 : Int32)), .val (.ref b1_0), .val (.int (7 : Int32)), .val (.int (2 : Int32)), .val (.ref w_OPENED)] [(.int (3 : Int32))])) _
    refine XS.iloadN X8.here hx rfl (hb hby d2_24) rfl ?_
    show Steps p.tables e below (T8.setTop (mkF m 25 #[.val (.int (6 : Int32)), .val (.ref b1_0), .val (.int (7 : Int32)), .val (.int (2 : Int32)), .val (.ref w_OPENED)] [(.int (6 : Int32)), (.int (3 : Int32))])) _
    refine XS.icmpYes X8.here hx rfl (pc0 := 25) (pc' := 31) rfl (hb hby d2_25) rfl (feq (by decide : ¬ ((3 : Int32) = (6 : Int32)))).2 (by decide) (by decide) ?_
    show Steps p.tables e below (T8.setTop (mkF m 31 #[.val (.int (6 : Int32)), .val (.ref b1_0), .val (.int (7 : Int32)), .val (.int (2 : Int32)), .val (.ref w_OPENED)] [])) _
    refine XS.iinc X8.here hx rfl (hb hby d2_31) rfl (l' := #[.val (.int (6 : Int32)), .val (.ref b1_0), .val (.int (7 : Int32)), .val (.int ((2 : Int32) + (1 : Int32))), .val (.ref w_OPENED)]) rfl ?_
    rw [show ((2 : Int32) + (1 : Int32)) = (3 : Int32) from by decide]
    show Steps p.tables e below (T8.setTop (mkF m 34 #[.val (.int (6 : Int32)), .val (.ref b1_0), .val (.int (7 : Int32)), .val (.int (3 : Int32)), .val (.ref w_OPENED)] [])) _
    refine XS.goto X8.here hx rfl (pc0 := 34) (pc' := 9) rfl (hb hby d2_34) (by decide) (by decide) ?_
    show Steps p.tables e below (T8.setTop (mkF m 9 #[.val (.int (6 : Int32)), .val (.ref b1_0), .val (.int (7 : Int32)), .val (.int (3 : Int32)), .val (.ref w_OPENED)] [])) _
    refine XS.iloadN X8.here hx rfl (hb hby d2_9) rfl ?_
    show Steps p.tables e below (T8.setTop (mkF m 10 #[.val (.int (6 : Int32)), .val (.ref b1_0), .val (.int (7 : Int32)), .val (.int (3 : Int32)), .val (.ref w_OPENED)] [(.int (3 : Int32))])) _
    refine XS.iloadN X8.here hx rfl (hb hby d2_10) rfl ?_
    show Steps p.tables e below (T8.setTop (mkF m 11 #[.val (.int (6 : Int32)), .val (.ref b1_0), .val (.int (7 : Int32)), .val (.int (3 : Int32)), .val (.ref w_OPENED)] [(.int (7 : Int32)), (.int (3 : Int32))])) _
    refine XS.icmpNo X8.here hx rfl (hb hby d2_11) rfl (tlt (by decide : (3 : Int32) < (7 : Int32))).2.1 ?_
    show Steps p.tables e below (T8.setTop (mkF m 14 #[.val (.int (6 : Int32)), .val (.ref b1_0), .val (.int (7 : Int32)), .val (.int (3 : Int32)), .val (.ref w_OPENED)] [])) _
    refine XS.aloadN X8.here hx rfl (hb hby d2_14) rfl rfl ?_
    show Steps p.tables e below (T8.setTop (mkF m 15 #[.val (.int (6 : Int32)), .val (.ref b1_0), .val (.int (7 : Int32)), .val (.int (3 : Int32)), .val (.ref w_OPENED)] [(.ref b1_0)])) _
    refine XS.iloadN X8.here hx rfl (hb hby d2_15) rfl ?_
    show Steps p.tables e below (T8.setTop (mkF m 16 #[.val (.int (6 : Int32)), .val (.ref b1_0), .val (.int (7 : Int32)), .val (.int (3 : Int32)), .val (.ref w_OPENED)] [(.int (3 : Int32)), (.ref b1_0)])) _
    refine X8.aaload hx (j := (3 : Int32)) (v := (.ref w_PUT)) (by rw [e8]; exact aA9.1) (State.isArrayOf_alike hZ.alike aA9.2.1) rfl aA9.2.2 (inb_of aS9 ⟨by decide, by decide⟩) (aH9.at (inb_of aS9 ⟨by decide, by decide⟩) rfl) (g := (mkF m 16 #[.val (.int (6 : Int32)), .val (.ref b1_0), .val (.int (7 : Int32)), .val (.int (3 : Int32)), .val (.ref w_OPENED)] [(.int (3 : Int32)), (.ref b1_0)])) rfl rfl (hb hby d2_16) _ ?_
    show Steps p.tables e below (T8.setTop (mkF m 17 #[.val (.int (6 : Int32)), .val (.ref b1_0), .val (.int (7 : Int32)), .val (.int (3 : Int32)), .val (.ref w_OPENED)] [(.ref w_PUT)])) _
    refine XS.astore X8.here hx rfl (hb hby d2_17) rfl rfl (l' := #[.val (.int (6 : Int32)), .val (.ref b1_0), .val (.int (7 : Int32)), .val (.int (3 : Int32)), .val (.ref w_PUT)]) rfl ?_
    show Steps p.tables e below (T8.setTop (mkF m 19 #[.val (.int (6 : Int32)), .val (.ref b1_0), .val (.int (7 : Int32)), .val (.int (3 : Int32)), .val (.ref w_PUT)] [])) _
    refine XS.aload X8.here hx rfl (hb hby d2_19) rfl rfl ?_
    show Steps p.tables e below (T8.setTop (mkF m 21 #[.val (.int (6 : Int32)), .val (.ref b1_0), .val (.int (7 : Int32)), .val (.int (3 : Int32)), .val (.ref w_PUT)] [(.ref w_PUT)])) _
    refine st10 _ ?_
    show Steps p.tables e below (T10.setTop (mkF m 24 #[.val (.int (6 : Int32)), .val (.ref b1_0), .val (.int (7 : Int32)), .val (.int (3 : Int32)), .val (.ref w_PUT)] [(.int (4 : Int32))])) _
    refine XS.iloadN X10.here hx rfl (hb hby d2_24) rfl ?_
    show Steps p.tables e below (T10.setTop (mkF m 25 #[.val (.int (6 : Int32)), .val (.ref b1_0), .val (.int (7 : Int32)), .val (.int (3 : Int32)), .val (.ref w_PUT)] [(.int (6 : Int32)), (.int (4 : Int32))])) _
    refine XS.icmpYes X10.here hx rfl (pc0 := 25) (pc' := 31) rfl (hb hby d2_25) rfl (feq (by decide : ¬ ((4 : Int32) = (6 : Int32)))).2 (by decide) (by decide) ?_
    show Steps p.tables e below (T10.setTop (mkF m 31 #[.val (.int (6 : Int32)), .val (.ref b1_0), .val (.int (7 : Int32)), .val (.int (3 : Int32)), .val (.ref w_PUT)] [])) _
    refine XS.iinc X10.here hx rfl (hb hby d2_31) rfl (l' := #[.val (.int (6 : Int32)), .val (.ref b1_0), .val (.int (7 : Int32)), .val (.int ((3 : Int32) + (1 : Int32))), .val (.ref w_PUT)]) rfl ?_
    rw [show ((3 : Int32) + (1 : Int32)) = (4 : Int32) from by decide]
    show Steps p.tables e below (T10.setTop (mkF m 34 #[.val (.int (6 : Int32)), .val (.ref b1_0), .val (.int (7 : Int32)), .val (.int (4 : Int32)), .val (.ref w_PUT)] [])) _
    refine XS.goto X10.here hx rfl (pc0 := 34) (pc' := 9) rfl (hb hby d2_34) (by decide) (by decide) ?_
    show Steps p.tables e below (T10.setTop (mkF m 9 #[.val (.int (6 : Int32)), .val (.ref b1_0), .val (.int (7 : Int32)), .val (.int (4 : Int32)), .val (.ref w_PUT)] [])) _
    refine XS.iloadN X10.here hx rfl (hb hby d2_9) rfl ?_
    show Steps p.tables e below (T10.setTop (mkF m 10 #[.val (.int (6 : Int32)), .val (.ref b1_0), .val (.int (7 : Int32)), .val (.int (4 : Int32)), .val (.ref w_PUT)] [(.int (4 : Int32))])) _
    refine XS.iloadN X10.here hx rfl (hb hby d2_10) rfl ?_
    show Steps p.tables e below (T10.setTop (mkF m 11 #[.val (.int (6 : Int32)), .val (.ref b1_0), .val (.int (7 : Int32)), .val (.int (4 : Int32)), .val (.ref w_PUT)] [(.int (7 : Int32)), (.int (4 : Int32))])) _
    refine XS.icmpNo X10.here hx rfl (hb hby d2_11) rfl (tlt (by decide : (4 : Int32) < (7 : Int32))).2.1 ?_
    show Steps p.tables e below (T10.setTop (mkF m 14 #[.val (.int (6 : Int32)), .val (.ref b1_0), .val (.int (7 : Int32)), .val (.int (4 : Int32)), .val (.ref w_PUT)] [])) _
    refine XS.aloadN X10.here hx rfl (hb hby d2_14) rfl rfl ?_
    show Steps p.tables e below (T10.setTop (mkF m 15 #[.val (.int (6 : Int32)), .val (.ref b1_0), .val (.int (7 : Int32)), .val (.int (4 : Int32)), .val (.ref w_PUT)] [(.ref b1_0)])) _
    refine XS.iloadN X10.here hx rfl (hb hby d2_15) rfl ?_
    show Steps p.tables e below (T10.setTop (mkF m 16 #[.val (.int (6 : Int32)), .val (.ref b1_0), .val (.int (7 : Int32)), .val (.int (4 : Int32)), .val (.ref w_PUT)] [(.int (4 : Int32)), (.ref b1_0)])) _
    refine X10.aaload hx (j := (4 : Int32)) (v := (.ref w_SETTLED)) (by rw [e10]; exact aA11.1) (State.isArrayOf_alike hZ.alike aA11.2.1) rfl aA11.2.2 (inb_of aS11 ⟨by decide, by decide⟩) (aH11.at (inb_of aS11 ⟨by decide, by decide⟩) rfl) (g := (mkF m 16 #[.val (.int (6 : Int32)), .val (.ref b1_0), .val (.int (7 : Int32)), .val (.int (4 : Int32)), .val (.ref w_PUT)] [(.int (4 : Int32)), (.ref b1_0)])) rfl rfl (hb hby d2_16) _ ?_
    show Steps p.tables e below (T10.setTop (mkF m 17 #[.val (.int (6 : Int32)), .val (.ref b1_0), .val (.int (7 : Int32)), .val (.int (4 : Int32)), .val (.ref w_PUT)] [(.ref w_SETTLED)])) _
    refine XS.astore X10.here hx rfl (hb hby d2_17) rfl rfl (l' := #[.val (.int (6 : Int32)), .val (.ref b1_0), .val (.int (7 : Int32)), .val (.int (4 : Int32)), .val (.ref w_SETTLED)]) rfl ?_
    show Steps p.tables e below (T10.setTop (mkF m 19 #[.val (.int (6 : Int32)), .val (.ref b1_0), .val (.int (7 : Int32)), .val (.int (4 : Int32)), .val (.ref w_SETTLED)] [])) _
    refine XS.aload X10.here hx rfl (hb hby d2_19) rfl rfl ?_
    show Steps p.tables e below (T10.setTop (mkF m 21 #[.val (.int (6 : Int32)), .val (.ref b1_0), .val (.int (7 : Int32)), .val (.int (4 : Int32)), .val (.ref w_SETTLED)] [(.ref w_SETTLED)])) _
    refine st12 _ ?_
    show Steps p.tables e below (T12.setTop (mkF m 24 #[.val (.int (6 : Int32)), .val (.ref b1_0), .val (.int (7 : Int32)), .val (.int (4 : Int32)), .val (.ref w_SETTLED)] [(.int (5 : Int32))])) _
    refine XS.iloadN X12.here hx rfl (hb hby d2_24) rfl ?_
    show Steps p.tables e below (T12.setTop (mkF m 25 #[.val (.int (6 : Int32)), .val (.ref b1_0), .val (.int (7 : Int32)), .val (.int (4 : Int32)), .val (.ref w_SETTLED)] [(.int (6 : Int32)), (.int (5 : Int32))])) _
    refine XS.icmpYes X12.here hx rfl (pc0 := 25) (pc' := 31) rfl (hb hby d2_25) rfl (feq (by decide : ¬ ((5 : Int32) = (6 : Int32)))).2 (by decide) (by decide) ?_
    show Steps p.tables e below (T12.setTop (mkF m 31 #[.val (.int (6 : Int32)), .val (.ref b1_0), .val (.int (7 : Int32)), .val (.int (4 : Int32)), .val (.ref w_SETTLED)] [])) _
    refine XS.iinc X12.here hx rfl (hb hby d2_31) rfl (l' := #[.val (.int (6 : Int32)), .val (.ref b1_0), .val (.int (7 : Int32)), .val (.int ((4 : Int32) + (1 : Int32))), .val (.ref w_SETTLED)]) rfl ?_
    rw [show ((4 : Int32) + (1 : Int32)) = (5 : Int32) from by decide]
    show Steps p.tables e below (T12.setTop (mkF m 34 #[.val (.int (6 : Int32)), .val (.ref b1_0), .val (.int (7 : Int32)), .val (.int (5 : Int32)), .val (.ref w_SETTLED)] [])) _
    refine XS.goto X12.here hx rfl (pc0 := 34) (pc' := 9) rfl (hb hby d2_34) (by decide) (by decide) ?_
    show Steps p.tables e below (T12.setTop (mkF m 9 #[.val (.int (6 : Int32)), .val (.ref b1_0), .val (.int (7 : Int32)), .val (.int (5 : Int32)), .val (.ref w_SETTLED)] [])) _
    refine XS.iloadN X12.here hx rfl (hb hby d2_9) rfl ?_
    show Steps p.tables e below (T12.setTop (mkF m 10 #[.val (.int (6 : Int32)), .val (.ref b1_0), .val (.int (7 : Int32)), .val (.int (5 : Int32)), .val (.ref w_SETTLED)] [(.int (5 : Int32))])) _
    refine XS.iloadN X12.here hx rfl (hb hby d2_10) rfl ?_
    show Steps p.tables e below (T12.setTop (mkF m 11 #[.val (.int (6 : Int32)), .val (.ref b1_0), .val (.int (7 : Int32)), .val (.int (5 : Int32)), .val (.ref w_SETTLED)] [(.int (7 : Int32)), (.int (5 : Int32))])) _
    refine XS.icmpNo X12.here hx rfl (hb hby d2_11) rfl (tlt (by decide : (5 : Int32) < (7 : Int32))).2.1 ?_
    show Steps p.tables e below (T12.setTop (mkF m 14 #[.val (.int (6 : Int32)), .val (.ref b1_0), .val (.int (7 : Int32)), .val (.int (5 : Int32)), .val (.ref w_SETTLED)] [])) _
    refine XS.aloadN X12.here hx rfl (hb hby d2_14) rfl rfl ?_
    show Steps p.tables e below (T12.setTop (mkF m 15 #[.val (.int (6 : Int32)), .val (.ref b1_0), .val (.int (7 : Int32)), .val (.int (5 : Int32)), .val (.ref w_SETTLED)] [(.ref b1_0)])) _
    refine XS.iloadN X12.here hx rfl (hb hby d2_15) rfl ?_
    show Steps p.tables e below (T12.setTop (mkF m 16 #[.val (.int (6 : Int32)), .val (.ref b1_0), .val (.int (7 : Int32)), .val (.int (5 : Int32)), .val (.ref w_SETTLED)] [(.int (5 : Int32)), (.ref b1_0)])) _
    refine X12.aaload hx (j := (5 : Int32)) (v := (.ref w_CHECKED)) (by rw [e12]; exact aA13.1) (State.isArrayOf_alike hZ.alike aA13.2.1) rfl aA13.2.2 (inb_of aS13 ⟨by decide, by decide⟩) (aH13.at (inb_of aS13 ⟨by decide, by decide⟩) rfl) (g := (mkF m 16 #[.val (.int (6 : Int32)), .val (.ref b1_0), .val (.int (7 : Int32)), .val (.int (5 : Int32)), .val (.ref w_SETTLED)] [(.int (5 : Int32)), (.ref b1_0)])) rfl rfl (hb hby d2_16) _ ?_
    show Steps p.tables e below (T12.setTop (mkF m 17 #[.val (.int (6 : Int32)), .val (.ref b1_0), .val (.int (7 : Int32)), .val (.int (5 : Int32)), .val (.ref w_SETTLED)] [(.ref w_CHECKED)])) _
    refine XS.astore X12.here hx rfl (hb hby d2_17) rfl rfl (l' := #[.val (.int (6 : Int32)), .val (.ref b1_0), .val (.int (7 : Int32)), .val (.int (5 : Int32)), .val (.ref w_CHECKED)]) rfl ?_
    show Steps p.tables e below (T12.setTop (mkF m 19 #[.val (.int (6 : Int32)), .val (.ref b1_0), .val (.int (7 : Int32)), .val (.int (5 : Int32)), .val (.ref w_CHECKED)] [])) _
    refine XS.aload X12.here hx rfl (hb hby d2_19) rfl rfl ?_
    show Steps p.tables e below (T12.setTop (mkF m 21 #[.val (.int (6 : Int32)), .val (.ref b1_0), .val (.int (7 : Int32)), .val (.int (5 : Int32)), .val (.ref w_CHECKED)] [(.ref w_CHECKED)])) _
    refine st14 _ ?_
    show Steps p.tables e below (T14.setTop (mkF m 24 #[.val (.int (6 : Int32)), .val (.ref b1_0), .val (.int (7 : Int32)), .val (.int (5 : Int32)), .val (.ref w_CHECKED)] [(.int (6 : Int32))])) _
    refine XS.iloadN X14.here hx rfl (hb hby d2_24) rfl ?_
    show Steps p.tables e below (T14.setTop (mkF m 25 #[.val (.int (6 : Int32)), .val (.ref b1_0), .val (.int (7 : Int32)), .val (.int (5 : Int32)), .val (.ref w_CHECKED)] [(.int (6 : Int32)), (.int (6 : Int32))])) _
    refine XS.icmpNo X14.here hx rfl (hb hby d2_25) rfl (teq (by decide : (6 : Int32) = (6 : Int32))).2 ?_
    show Steps p.tables e below (T14.setTop (mkF m 28 #[.val (.int (6 : Int32)), .val (.ref b1_0), .val (.int (7 : Int32)), .val (.int (5 : Int32)), .val (.ref w_CHECKED)] [])) _
    refine XS.aload X14.here hx rfl (hb hby d2_28) rfl rfl ?_
    show Steps p.tables e below (T14.setTop (mkF m 30 #[.val (.int (6 : Int32)), .val (.ref b1_0), .val (.int (7 : Int32)), .val (.int (5 : Int32)), .val (.ref w_CHECKED)] [(.ref w_CHECKED)])) _
    jvm_step X14.here [X14.here.top, hx, (hb hby d2_30), X14.method', Bd.returns, Value.isRef, FieldType.isReference]
    first | (intro acts; rw [hr _ acts rfl rfl rfl]) | rw [hr _ _ rfl rfl rfl]
    exact Steps.refl _
  · have eH : (T14.setFrames fs).heap = T1.heap := e14; rw [eH]; exact ⟨rfl, N1, KK1, O1, trivial⟩
def Q4_23 (Z : State) (w_ACK : Addr) (w__VALUES : Addr) (w_GROUP : Addr) (w_OPENED : Addr) (w_PUT : Addr) (w_SETTLED : Addr) (w_CHECKED : Addr) (w_PARKED : Addr) (cl_w__VALUES : Cell) (h0 : Heap) (n0 : Nat) (v : Option Value) (h : Heap) (L : List Loc) : Prop := v = some (.int (6 : Int32)) ∧ Fr n0 L ∧ h = h0
set_option maxRecDepth 65536 in
set_option maxHeartbeats 40000000 in
theorem rm4_23 (l : Launch) (Z : State) (a0 : Array Value) (hw : ∀ d ∈ tables_1, d.before a0 Z = true) (ws : List Jvm.Cond) (w_ACK : Addr) (w__VALUES : Addr) (w_GROUP : Addr) (w_OPENED : Addr) (w_PUT : Addr) (w_SETTLED : Addr) (w_CHECKED : Addr) (w_PARKED : Addr) (cl_w__VALUES : Cell) (h0 : Heap) (n0 : Nat) (Z0 : n0 ≤ h0.size) (O0 : Old Z n0 h0) (HW : World Z w_ACK w__VALUES w_GROUP w_OPENED w_PUT w_SETTLED w_CHECKED w_PARKED cl_w__VALUES) :
    MetFree l (⟨"com/example/clinch/clinch/broker/NoteKind", "code", "()B"⟩ : MethodName) (head1 (Jvm.Cond.code (⟨"com/example/clinch/clinch/broker/NoteKind", "code", "()B"⟩ : MethodName) prog_7_method_4_code 1 (some .byte) :: ws) ({ frames := 0, cells := 0, slots := 0, locals := 0 } : Room)) (fun a U => a = #[(.ref w_CHECKED)] ∧ Z.Warmed39 U.vm ∧ U.heap = h0) (fun _ _ _ _ _ => True) (fun _ U o U' => ∃ v L, o = .returned v ∧ Q4_23 Z w_ACK w__VALUES w_GROUP w_OPENED w_PUT w_SETTLED w_CHECKED w_PARKED cl_w__VALUES h0 n0 v U'.heap L ∧ FrameEnd U o U' L ({ frames := 0, cells := 0, slots := 0, locals := 0 } : Room).cells ({ frames := 0, cells := 0, slots := 0, locals := 0 } : Room).slots) := by
  refine MetFree.of_bodySF (plainFor_of_name pn15) hisR ?_
  intro p e s m args below meth c s₁ Bd hml0 hP hK
  obtain ⟨rfl, hZ, hh⟩ := hP
  have hx := Bd.exec
  have hby := Bd.bytes
  have hml : c.maxLocals = 1 := hml0
  have hown : s.vm.findClass "com/example/clinch/clinch/broker/NoteKind" = some m.cls := findClass_of_methodNamed Bd.named
  have hnm := (name_of_methodNamed Bd.named Bd.method).1
  have X0 : Stand p l e ({ frames := 0, cells := 0, slots := 0, locals := 0 } : Room) s m #[(.ref w_CHECKED)] below meth c s₁ [] 0 0 := Stand.of_body Bd
  have e0 : s₁.heap = h0 := by rw [← hh, Bd.state]; rfl
  have N0 := Fr.nil n0
  have pre0 : ∀ t, Steps p.tables e below (s₁.setTop (mkF m 0 #[.val (.ref w_CHECKED)] [])) t → Steps p.tables e below (s₁.setTop (entryFrame m #[(.ref w_CHECKED)] 1)) t := fun t k => castTop (ef44 m w_CHECKED) k
  obtain ⟨S_w_ACK, E_w_ACK, S_w__VALUES, E_w__VALUES, S_w_GROUP, E_w_GROUP, S_w_OPENED, E_w_OPENED, S_w_PUT, E_w_PUT, S_w_SETTLED, E_w_SETTLED, S_w_CHECKED, E_w_CHECKED, S_w_PARKED, E_w_PARKED, F_code_w_ACK, F_code_w_GROUP, F_code_w_OPENED, F_code_w_PUT, F_code_w_SETTLED, F_code_w_CHECKED, F_code_w_PARKED, Ar_w__VALUES, Sz_w__VALUES, At_w__VALUES_0, At_w__VALUES_1, At_w__VALUES_2, At_w__VALUES_3, At_w__VALUES_4, At_w__VALUES_5, At_w__VALUES_6, ne_w_ACK_w_GROUP, ne_w_ACK_w_OPENED, ne_w_ACK_w_PUT, ne_w_ACK_w_SETTLED, ne_w_ACK_w_CHECKED, ne_w_ACK_w_PARKED, ne_w_GROUP_w_OPENED, ne_w_GROUP_w_PUT, ne_w_GROUP_w_SETTLED, ne_w_GROUP_w_CHECKED, ne_w_GROUP_w_PARKED, ne_w_OPENED_w_PUT, ne_w_OPENED_w_SETTLED, ne_w_OPENED_w_CHECKED, ne_w_OPENED_w_PARKED, ne_w_PUT_w_SETTLED, ne_w_PUT_w_CHECKED, ne_w_PUT_w_PARKED, ne_w_SETTLED_w_CHECKED, ne_w_SETTLED_w_PARKED, ne_w_CHECKED_w_PARKED, V_w__VALUES, -⟩ := id HW
  obtain ⟨T1, X1, e1, st1⟩ := getF X0 hx hZ hown (host := "") (Or.inl (hw _ (List.mem_of_getElem? (i := 32) rfl))) Via.refl e0 (F_code_w_CHECKED.ext O0.2) (g := (mkF m 1 #[.val (.ref w_CHECKED)] [(.ref w_CHECKED)])) rfl rfl (hb hby d4_1)
  obtain ⟨fs, hr, hrun, hended, hW, hsame⟩ := X1.leave (v := some (.int (6 : Int32))) (fun h => by rw [Bd.returns] at h; cases h)
  refine ⟨_, _, pre0 _ ?_, hrun, hended, _, _, rfl, ?_, ⟨_, rfl⟩, hW, hsame.mono (by decide) (by decide)⟩
  · show Steps p.tables e below (s₁.setTop (mkF m 0 #[.val (.ref w_CHECKED)] [])) _
    refine XS.aloadN X0.here hx rfl (hb hby d4_0) rfl rfl ?_
    show Steps p.tables e below (s₁.setTop (mkF m 1 #[.val (.ref w_CHECKED)] [(.ref w_CHECKED)])) _
    refine st1 _ ?_
    show Steps p.tables e below (T1.setTop (mkF m 4 #[.val (.ref w_CHECKED)] [(.int (6 : Int32))])) _
    exact retN X1 hx (t := .byte) Bd.returns (by simp) (hb hby d4_4) hr
  · exact ⟨rfl, N0, e1⟩
set_option maxRecDepth 65536 in
set_option maxHeartbeats 40000000 in
theorem rm0_c5 (l : Launch) (Z : State) (a0 : Array Value) (hw : ∀ d ∈ tables_1, d.before a0 Z = true) (ws : List Jvm.Cond) (w_ACK : Addr) (w__VALUES : Addr) (w_GROUP : Addr) (w_OPENED : Addr) (w_PUT : Addr) (w_SETTLED : Addr) (w_CHECKED : Addr) (w_PARKED : Addr) (cl_w__VALUES : Cell) (p1 : Int32) (h0 : Heap) (n0 : Nat) (Z0 : n0 ≤ h0.size) (O0 : Old Z n0 h0) (HW : World Z w_ACK w__VALUES w_GROUP w_OPENED w_PUT w_SETTLED w_CHECKED w_PARKED cl_w__VALUES) (hk : ((p1 &&& (2147483647 : Int32)) % (7 : Int32)) = (5 : Int32)) :
    MetFree l x (head1 (Jvm.Cond.code x code maxLocals ret :: ws) room_1) (fun a U => a = #[(.int p1)] ∧ Z.Warmed39 U.vm ∧ U.heap = h0) (fun _ _ _ _ _ => True) (fun _ U o U' => ∃ v L, o = .returned v ∧ Q0 h0 n0 v U'.heap L ∧ FrameEnd U o U' L room_1.cells room_1.slots) := by
  refine MetFree.of_bodySF (plainFor_of_name pn7) hisR ?_
  intro p e s m args below meth c s₁ Bd hml0 hP hK
  obtain ⟨rfl, hZ, hh⟩ := hP
  have hx := Bd.exec
  have hby := Bd.bytes
  have hml : c.maxLocals = 4 := hml0
  have hown : s.vm.findClass "com/example/clinch/clinch/broker/NoteKindOfPinLaw" = some m.cls := findClass_of_methodNamed Bd.named
  have hnm := (name_of_methodNamed Bd.named Bd.method).1
  have X0 : Stand p l e room_1 s m #[(.int p1)] below meth c s₁ [] 0 0 := Stand.of_body Bd
  have e0 : s₁.heap = h0 := by rw [← hh, Bd.state]; rfl
  have N0 := Fr.nil n0
  have pre0 : ∀ t, Steps p.tables e below (s₁.setTop (mkF m 0 #[.val (.int p1), .unset, .unset, .unset] [])) t → Steps p.tables e below (s₁.setTop (entryFrame m #[(.int p1)] maxLocals)) t := fun t k => castTop (ef47 m p1) k
  obtain ⟨S_w_ACK, E_w_ACK, S_w__VALUES, E_w__VALUES, S_w_GROUP, E_w_GROUP, S_w_OPENED, E_w_OPENED, S_w_PUT, E_w_PUT, S_w_SETTLED, E_w_SETTLED, S_w_CHECKED, E_w_CHECKED, S_w_PARKED, E_w_PARKED, F_code_w_ACK, F_code_w_GROUP, F_code_w_OPENED, F_code_w_PUT, F_code_w_SETTLED, F_code_w_CHECKED, F_code_w_PARKED, Ar_w__VALUES, Sz_w__VALUES, At_w__VALUES_0, At_w__VALUES_1, At_w__VALUES_2, At_w__VALUES_3, At_w__VALUES_4, At_w__VALUES_5, At_w__VALUES_6, ne_w_ACK_w_GROUP, ne_w_ACK_w_OPENED, ne_w_ACK_w_PUT, ne_w_ACK_w_SETTLED, ne_w_ACK_w_CHECKED, ne_w_ACK_w_PARKED, ne_w_GROUP_w_OPENED, ne_w_GROUP_w_PUT, ne_w_GROUP_w_SETTLED, ne_w_GROUP_w_CHECKED, ne_w_GROUP_w_PARKED, ne_w_OPENED_w_PUT, ne_w_OPENED_w_SETTLED, ne_w_OPENED_w_CHECKED, ne_w_OPENED_w_PARKED, ne_w_PUT_w_SETTLED, ne_w_PUT_w_CHECKED, ne_w_PUT_w_PARKED, ne_w_SETTLED_w_CHECKED, ne_w_SETTLED_w_PARKED, ne_w_CHECKED_w_PARKED, V_w__VALUES, -⟩ := id HW
  obtain ⟨_, _, ⟨T1, L1, k1, n1⟩, -, X1, ⟨Lc1, hQ1, l1, y1, z1⟩, st1⟩ := Jvm.LawKit.callS X0 hx (y := (⟨"com/example/clinch/clinch/broker/NoteKindOfPinLaw", "expected", "(I)Lcom/example/clinch/clinch/broker/NoteKind;"⟩ : MethodName)) hown (mvT hZ (hw _ (List.mem_of_getElem? (i := 1) rfl))) (mvT hZ (hw _ (List.mem_of_getElem? (i := 2) rfl))) (mvT hZ (hw _ (List.mem_of_getElem? (i := 3) rfl))) (mvT hZ (hw _ (List.mem_of_getElem? (i := 4) rfl))) (by decide) (backOf (W := 0) (rm1_21 l Z a0 hw [] w_ACK w__VALUES w_GROUP w_OPENED w_PUT w_SETTLED w_CHECKED w_PARKED cl_w__VALUES h0 n0 (own_n0 O0) O0 HW) hZ (hw _ (List.mem_of_getElem? (i := 4) rfl)) (hw _ (List.mem_of_getElem? (i := 3) rfl)) (by decide) (by decide)) (g := (mkF m 11 #[.val (.int p1), .val (.int (6 : Int32)), .unset, .unset] [(.int (6 : Int32))])) rfl (by rw [hml]; rfl) (argsL := [(.int (6 : Int32))]) (rest := []) (lenOf pd8 rfl) rfl (by show 2 * 0 + _ ≤ _; exact Nat.le_of_eq rfl) (hb hby at_11) (fun _ _ => ⟨rfl, e0, (by decide : 0 + 0 ≤ _), (by decide : 0 + 0 ≤ _)⟩)
  dsimp only [Pt.U, Pt.locs, Pt.cells, Pt.slots] at X1 l1 y1 z1 st1 hQ1
  subst l1 y1 z1
  obtain ⟨rfl, N1q, e1⟩ := hQ1
  have N1 := Fr.app N0 N1q
  obtain ⟨_, _, ⟨T2, L2, k2, n2⟩, -, X2, ⟨Lc2, hQ2, l2, y2, z2⟩, st2⟩ := Jvm.LawKit.callS X1 hx (y := (⟨"com/example/clinch/clinch/broker/NoteKind", "of", "(B)Lcom/example/clinch/clinch/broker/NoteKind;"⟩ : MethodName)) hown (mvT hZ (hw _ (List.mem_of_getElem? (i := 8) rfl))) (mvT hZ (hw _ (List.mem_of_getElem? (i := 9) rfl))) (mvT hZ (hw _ (List.mem_of_getElem? (i := 6) rfl))) (mvT hZ (hw _ (List.mem_of_getElem? (i := 10) rfl))) (by decide) (backOf (W := 0) (rm2_22 l Z a0 hw [] w_ACK w__VALUES w_GROUP w_OPENED w_PUT w_SETTLED w_CHECKED w_PARKED cl_w__VALUES h0 n0 (own_n0 O0) O0 HW) hZ (hw _ (List.mem_of_getElem? (i := 10) rfl)) (hw _ (List.mem_of_getElem? (i := 6) rfl)) (by decide) (by decide)) (g := (mkF m 17 #[.val (.int p1), .val (.int (6 : Int32)), .val (.ref w_CHECKED), .unset] [(.int (6 : Int32))])) rfl (by rw [hml]; rfl) (argsL := [(.int (6 : Int32))]) (rest := []) (lenOf pd39 rfl) rfl (by show 2 * 0 + _ ≤ _; exact Nat.le_of_eq rfl) (hb hby at_17) (fun _ _ => ⟨rfl, e1, (by decide : 0 + 1 ≤ _), (by decide : 0 + 7 ≤ _)⟩)
  dsimp only [Pt.U, Pt.locs, Pt.cells, Pt.slots] at X2 l2 y2 z2 st2 hQ2
  subst l2 y2 z2
  obtain ⟨rfl, N2q, K2, O2, -⟩ := hQ2
  have N2 := Fr.app N1 N2q
  obtain ⟨cq3, kq3, q3a, q3b, q3c⟩ := isOf hZ rfl (E_w_CHECKED.ext O2.2)
  obtain ⟨_, _, ⟨T3, L3, k3, n3⟩, -, X3, ⟨Lc3, hQ3, l3, y3, z3⟩, st3⟩ := X2.virtualBack hx (y := (⟨"com/example/clinch/clinch/broker/NoteKind", "code", "()B"⟩ : MethodName)) (z := (⟨"com/example/clinch/clinch/broker/NoteKind", "code", "()B"⟩ : MethodName)) hown (mvT hZ (hw _ (List.mem_of_getElem? (i := 34) rfl))) (mvT hZ (hw _ (List.mem_of_getElem? (i := 35) rfl))) (notFace_of_selects (args := #[]) (mvT hZ (hw _ (List.mem_of_getElem? (i := 37) rfl)))) (mvT hZ (hw _ (List.mem_of_getElem? (i := 37) rfl))) (mvT hZ (hw _ (List.mem_of_getElem? (i := 36) rfl))) (by decide) (backOf (W := 0) (rm4_23 l Z a0 hw [] w_ACK w__VALUES w_GROUP w_OPENED w_PUT w_SETTLED w_CHECKED w_PARKED cl_w__VALUES T2.heap n0 (own_n0 O2) O2 HW) hZ (hw _ (List.mem_of_getElem? (i := 38) rfl)) (hw _ (List.mem_of_getElem? (i := 6) rfl)) (by decide) (by decide)) q3a q3c (g := (mkF m 27 #[.val (.int p1), .val (.int (6 : Int32)), .val (.ref w_CHECKED), .val (.ref w_CHECKED)] [(.ref w_CHECKED)])) rfl (by rw [hml]; rfl) (Steps.refl _) (argsL := []) (rest := []) (lenOf pd45 rfl) rfl (by show 2 * 0 + _ ≤ _; exact Nat.le_of_eq rfl) (hb hby at_27) (fun _ _ => ⟨rfl, rfl, (by decide : 1 + 0 ≤ _), (by decide : 7 + 0 ≤ _)⟩)
  dsimp only [Pt.U, Pt.locs, Pt.cells, Pt.slots] at X3 l3 y3 z3 st3 hQ3
  subst l3 y3 z3
  obtain ⟨rfl, N3q, e3⟩ := hQ3
  have N3 := Fr.app N2 N3q
  obtain ⟨fs, hr, hrun, hended, hW, hsame⟩ := X3.leave (v := some (.int (1 : Int32))) (fun h => by rw [Bd.returns] at h; cases h)
  refine ⟨_, _, pre0 _ ?_, hrun, hended, _, _, rfl, ?_, ⟨_, rfl⟩, hW, hsame.mono (by decide) (by decide)⟩
  · show Steps p.tables e below (s₁.setTop (mkF m 0 #[.val (.int p1), .unset, .unset, .unset] [])) _
    refine XS.iloadN X0.here hx rfl (hb hby at_0) rfl ?_
    show Steps p.tables e below (s₁.setTop (mkF m 1 #[.val (.int p1), .unset, .unset, .unset] [(.int p1)])) _
    refine X0.ldcInt hx hown (mvT hZ (hw _ (List.mem_of_getElem? (i := 0) rfl))) (g := (mkF m 1 #[.val (.int p1), .unset, .unset, .unset] [(.int p1)])) rfl (hb hby at_1) _ ?_
    show Steps p.tables e below (s₁.setTop (mkF m 3 #[.val (.int p1), .unset, .unset, .unset] [(.int (2147483647 : Int32)), (.int p1)])) _
    refine XS.iand X0.here hx rfl (hb hby at_3) rfl ?_
    show Steps p.tables e below (s₁.setTop (mkF m 4 #[.val (.int p1), .unset, .unset, .unset] [(.int (p1 &&& (2147483647 : Int32)))])) _
    refine XS.bipush X0.here hx rfl (hb hby at_4) ?_
    show Steps p.tables e below (s₁.setTop (mkF m 6 #[.val (.int p1), .unset, .unset, .unset] [(.int (7 : Int32)), (.int (p1 &&& (2147483647 : Int32)))])) _
    refine iremM X0 hx rfl (hb hby at_6) rfl (by decide) ?_
    rw [hk]
    show Steps p.tables e below (s₁.setTop (mkF m 7 #[.val (.int p1), .unset, .unset, .unset] [(.int (5 : Int32))])) _
    refine XS.iconst X0.here hx rfl (hb hby at_7) ?_
    show Steps p.tables e below (s₁.setTop (mkF m 8 #[.val (.int p1), .unset, .unset, .unset] [(.int (1 : Int32)), (.int (5 : Int32))])) _
    refine XS.iadd X0.here hx rfl (hb hby at_8) rfl ?_
    rw [show ((5 : Int32) + (1 : Int32)) = (6 : Int32) from by decide]
    show Steps p.tables e below (s₁.setTop (mkF m 9 #[.val (.int p1), .unset, .unset, .unset] [(.int (6 : Int32))])) _
    refine XS.istoreN X0.here hx rfl (hb hby at_9) rfl (l' := #[.val (.int p1), .val (.int (6 : Int32)), .unset, .unset]) rfl ?_
    show Steps p.tables e below (s₁.setTop (mkF m 10 #[.val (.int p1), .val (.int (6 : Int32)), .unset, .unset] [])) _
    refine XS.iloadN X0.here hx rfl (hb hby at_10) rfl ?_
    show Steps p.tables e below (s₁.setTop (mkF m 11 #[.val (.int p1), .val (.int (6 : Int32)), .unset, .unset] [(.int (6 : Int32))])) _
    refine st1 _ ?_
    show Steps p.tables e below (T1.setTop (mkF m 14 #[.val (.int p1), .val (.int (6 : Int32)), .unset, .unset] [(.ref w_CHECKED)])) _
    refine XS.astoreN X1.here hx rfl (hb hby at_14) rfl rfl (l' := #[.val (.int p1), .val (.int (6 : Int32)), .val (.ref w_CHECKED), .unset]) rfl ?_
    show Steps p.tables e below (T1.setTop (mkF m 15 #[.val (.int p1), .val (.int (6 : Int32)), .val (.ref w_CHECKED), .unset] [])) _
    refine XS.iloadN X1.here hx rfl (hb hby at_15) rfl ?_
    show Steps p.tables e below (T1.setTop (mkF m 16 #[.val (.int p1), .val (.int (6 : Int32)), .val (.ref w_CHECKED), .unset] [(.int (6 : Int32))])) _
    refine XS.i2b X1.here hx rfl (hb hby at_16) rfl ?_
    rw [show ((6 : Int32).toInt8.toInt32) = (6 : Int32) from by decide]
    show Steps p.tables e below (T1.setTop (mkF m 17 #[.val (.int p1), .val (.int (6 : Int32)), .val (.ref w_CHECKED), .unset] [(.int (6 : Int32))])) _
    refine st2 _ ?_
    show Steps p.tables e below (T2.setTop (mkF m 20 #[.val (.int p1), .val (.int (6 : Int32)), .val (.ref w_CHECKED), .unset] [(.ref w_CHECKED)])) _
    refine XS.astoreN X2.here hx rfl (hb hby at_20) rfl rfl (l' := #[.val (.int p1), .val (.int (6 : Int32)), .val (.ref w_CHECKED), .val (.ref w_CHECKED)]) rfl ?_
    show Steps p.tables e below (T2.setTop (mkF m 21 #[.val (.int p1), .val (.int (6 : Int32)), .val (.ref w_CHECKED), .val (.ref w_CHECKED)] [])) _
    refine XS.aloadN X2.here hx rfl (hb hby at_21) rfl rfl ?_
    show Steps p.tables e below (T2.setTop (mkF m 22 #[.val (.int p1), .val (.int (6 : Int32)), .val (.ref w_CHECKED), .val (.ref w_CHECKED)] [(.ref w_CHECKED)])) _
    refine XS.aloadN X2.here hx rfl (hb hby at_22) rfl rfl ?_
    show Steps p.tables e below (T2.setTop (mkF m 23 #[.val (.int p1), .val (.int (6 : Int32)), .val (.ref w_CHECKED), .val (.ref w_CHECKED)] [(.ref w_CHECKED), (.ref w_CHECKED)])) _
    refine Jvm.RoadKit.acmp (g := (mkF m 23 #[.val (.int p1), .val (.int (6 : Int32)), .val (.ref w_CHECKED), .val (.ref w_CHECKED)] [(.ref w_CHECKED), (.ref w_CHECKED)])) X2 hx rfl rfl rfl (pc0 := 23) (pc' := 26) (same := true) rfl (hb hby at_23) rfl (decide_eq_true rfl) (by decide) (by decide) ?_
    show Steps p.tables e below (T2.setTop (mkF m 26 #[.val (.int p1), .val (.int (6 : Int32)), .val (.ref w_CHECKED), .val (.ref w_CHECKED)] [])) _
    refine XS.aloadN X2.here hx rfl (hb hby at_26) rfl rfl ?_
    show Steps p.tables e below (T2.setTop (mkF m 27 #[.val (.int p1), .val (.int (6 : Int32)), .val (.ref w_CHECKED), .val (.ref w_CHECKED)] [(.ref w_CHECKED)])) _
    refine st3.trans ?_
    show Steps p.tables e below (T3.setTop (mkF m 30 #[.val (.int p1), .val (.int (6 : Int32)), .val (.ref w_CHECKED), .val (.ref w_CHECKED)] [(.int (6 : Int32))])) _
    refine XS.iloadN X3.here hx rfl (hb hby at_30) rfl ?_
    show Steps p.tables e below (T3.setTop (mkF m 31 #[.val (.int p1), .val (.int (6 : Int32)), .val (.ref w_CHECKED), .val (.ref w_CHECKED)] [(.int (6 : Int32)), (.int (6 : Int32))])) _
    refine XS.i2b X3.here hx rfl (hb hby at_31) rfl ?_
    rw [show ((6 : Int32).toInt8.toInt32) = (6 : Int32) from by decide]
    show Steps p.tables e below (T3.setTop (mkF m 32 #[.val (.int p1), .val (.int (6 : Int32)), .val (.ref w_CHECKED), .val (.ref w_CHECKED)] [(.int (6 : Int32)), (.int (6 : Int32))])) _
    refine XS.icmpNo X3.here hx rfl (hb hby at_32) rfl (teq (by decide : (6 : Int32) = (6 : Int32))).2 ?_
    show Steps p.tables e below (T3.setTop (mkF m 35 #[.val (.int p1), .val (.int (6 : Int32)), .val (.ref w_CHECKED), .val (.ref w_CHECKED)] [])) _
    refine XS.iconst X3.here hx rfl (hb hby at_35) ?_
    show Steps p.tables e below (T3.setTop (mkF m 36 #[.val (.int p1), .val (.int (6 : Int32)), .val (.ref w_CHECKED), .val (.ref w_CHECKED)] [(.int (1 : Int32))])) _
    refine XS.goto X3.here hx rfl (pc0 := 36) (pc' := 40) rfl (hb hby at_36) (by decide) (by decide) ?_
    show Steps p.tables e below (T3.setTop (mkF m 40 #[.val (.int p1), .val (.int (6 : Int32)), .val (.ref w_CHECKED), .val (.ref w_CHECKED)] [(.int (1 : Int32))])) _
    exact retN X3 hx (t := .boolean) Bd.returns (by simp) (hb hby at_40) hr
  · exact ⟨rfl, N3⟩
theorem d1_55 : decode method_2_code 55 = .ok (.getstatic 28, 3) := by decide +kernel
theorem d1_58 : decode method_2_code 58 = .ok (.areturn, 1) := by decide +kernel
def Q1_25 (Z : State) (w_ACK : Addr) (w__VALUES : Addr) (w_GROUP : Addr) (w_OPENED : Addr) (w_PUT : Addr) (w_SETTLED : Addr) (w_CHECKED : Addr) (w_PARKED : Addr) (cl_w__VALUES : Cell) (h0 : Heap) (n0 : Nat) (v : Option Value) (h : Heap) (L : List Loc) : Prop := v = some (.ref w_PARKED) ∧ Fr n0 L ∧ h = h0
set_option maxRecDepth 65536 in
set_option maxHeartbeats 40000000 in
theorem rm1_25 (l : Launch) (Z : State) (a0 : Array Value) (hw : ∀ d ∈ tables_1, d.before a0 Z = true) (ws : List Jvm.Cond) (w_ACK : Addr) (w__VALUES : Addr) (w_GROUP : Addr) (w_OPENED : Addr) (w_PUT : Addr) (w_SETTLED : Addr) (w_CHECKED : Addr) (w_PARKED : Addr) (cl_w__VALUES : Cell) (h0 : Heap) (n0 : Nat) (Z0 : n0 ≤ h0.size) (O0 : Old Z n0 h0) (HW : World Z w_ACK w__VALUES w_GROUP w_OPENED w_PUT w_SETTLED w_CHECKED w_PARKED cl_w__VALUES) :
    MetFree l (⟨"com/example/clinch/clinch/broker/NoteKindOfPinLaw", "expected", "(I)Lcom/example/clinch/clinch/broker/NoteKind;"⟩ : MethodName) (head1 (Jvm.Cond.code (⟨"com/example/clinch/clinch/broker/NoteKindOfPinLaw", "expected", "(I)Lcom/example/clinch/clinch/broker/NoteKind;"⟩ : MethodName) method_2_code 1 (some (.object "com/example/clinch/clinch/broker/NoteKind")) :: ws) ({ frames := 0, cells := 0, slots := 0, locals := 0 } : Room)) (fun a U => a = #[(.int (7 : Int32))] ∧ Z.Warmed39 U.vm ∧ U.heap = h0) (fun _ _ _ _ _ => True) (fun _ U o U' => ∃ v L, o = .returned v ∧ Q1_25 Z w_ACK w__VALUES w_GROUP w_OPENED w_PUT w_SETTLED w_CHECKED w_PARKED cl_w__VALUES h0 n0 v U'.heap L ∧ FrameEnd U o U' L ({ frames := 0, cells := 0, slots := 0, locals := 0 } : Room).cells ({ frames := 0, cells := 0, slots := 0, locals := 0 } : Room).slots) := by
  refine MetFree.of_bodySF (plainFor_of_name pn7) hisR ?_
  intro p e s m args below meth c s₁ Bd hml0 hP hK
  obtain ⟨rfl, hZ, hh⟩ := hP
  have hx := Bd.exec
  have hby := Bd.bytes
  have hml : c.maxLocals = 1 := hml0
  have hown : s.vm.findClass "com/example/clinch/clinch/broker/NoteKindOfPinLaw" = some m.cls := findClass_of_methodNamed Bd.named
  have hnm := (name_of_methodNamed Bd.named Bd.method).1
  have X0 : Stand p l e ({ frames := 0, cells := 0, slots := 0, locals := 0 } : Room) s m #[(.int (7 : Int32))] below meth c s₁ [] 0 0 := Stand.of_body Bd
  have e0 : s₁.heap = h0 := by rw [← hh, Bd.state]; rfl
  have N0 := Fr.nil n0
  have pre0 : ∀ t, Steps p.tables e below (s₁.setTop (mkF m 0 #[.val (.int (7 : Int32))] [])) t → Steps p.tables e below (s₁.setTop (entryFrame m #[(.int (7 : Int32))] 1)) t := fun t k => castTop (ef6 m (7 : Int32)) k
  obtain ⟨S_w_ACK, E_w_ACK, S_w__VALUES, E_w__VALUES, S_w_GROUP, E_w_GROUP, S_w_OPENED, E_w_OPENED, S_w_PUT, E_w_PUT, S_w_SETTLED, E_w_SETTLED, S_w_CHECKED, E_w_CHECKED, S_w_PARKED, E_w_PARKED, F_code_w_ACK, F_code_w_GROUP, F_code_w_OPENED, F_code_w_PUT, F_code_w_SETTLED, F_code_w_CHECKED, F_code_w_PARKED, Ar_w__VALUES, Sz_w__VALUES, At_w__VALUES_0, At_w__VALUES_1, At_w__VALUES_2, At_w__VALUES_3, At_w__VALUES_4, At_w__VALUES_5, At_w__VALUES_6, ne_w_ACK_w_GROUP, ne_w_ACK_w_OPENED, ne_w_ACK_w_PUT, ne_w_ACK_w_SETTLED, ne_w_ACK_w_CHECKED, ne_w_ACK_w_PARKED, ne_w_GROUP_w_OPENED, ne_w_GROUP_w_PUT, ne_w_GROUP_w_SETTLED, ne_w_GROUP_w_CHECKED, ne_w_GROUP_w_PARKED, ne_w_OPENED_w_PUT, ne_w_OPENED_w_SETTLED, ne_w_OPENED_w_CHECKED, ne_w_OPENED_w_PARKED, ne_w_PUT_w_SETTLED, ne_w_PUT_w_CHECKED, ne_w_PUT_w_PARKED, ne_w_SETTLED_w_CHECKED, ne_w_SETTLED_w_PARKED, ne_w_CHECKED_w_PARKED, V_w__VALUES, -⟩ := id HW
  obtain ⟨T1, X1, e1, st1⟩ := getS2 X0 hx hZ hown (host := "") (Or.inl (hw _ (List.mem_of_getElem? (i := 41) rfl))) Via.refl e0 (S_w_PARKED.ext O0.2) (g := (mkF m 55 #[.val (.int (7 : Int32))] [])) rfl (hb hby d1_55)
  obtain ⟨fs, hr, hrun, hended, hW, hsame⟩ := X1.leave (v := some (.ref w_PARKED)) (fun h => by rw [Bd.returns] at h; cases h)
  refine ⟨_, _, pre0 _ ?_, hrun, hended, _, _, rfl, ?_, ⟨_, rfl⟩, hW, hsame.mono (by decide) (by decide)⟩
  · show Steps p.tables e below (s₁.setTop (mkF m 0 #[.val (.int (7 : Int32))] [])) _
    refine XS.iloadN X0.here hx rfl (hb hby d1_0) rfl ?_
    show Steps p.tables e below (s₁.setTop (mkF m 1 #[.val (.int (7 : Int32))] [(.int (7 : Int32))])) _
    refine XS.iconst X0.here hx rfl (hb hby d1_1) ?_
    show Steps p.tables e below (s₁.setTop (mkF m 2 #[.val (.int (7 : Int32))] [(.int (1 : Int32)), (.int (7 : Int32))])) _
    refine XS.icmpYes X0.here hx rfl (pc0 := 2) (pc' := 9) rfl (hb hby d1_2) rfl (feq (by decide : ¬ ((7 : Int32) = (1 : Int32)))).2 (by decide) (by decide) ?_
    show Steps p.tables e below (s₁.setTop (mkF m 9 #[.val (.int (7 : Int32))] [])) _
    refine XS.iloadN X0.here hx rfl (hb hby d1_9) rfl ?_
    show Steps p.tables e below (s₁.setTop (mkF m 10 #[.val (.int (7 : Int32))] [(.int (7 : Int32))])) _
    refine XS.iconst X0.here hx rfl (hb hby d1_10) ?_
    show Steps p.tables e below (s₁.setTop (mkF m 11 #[.val (.int (7 : Int32))] [(.int (2 : Int32)), (.int (7 : Int32))])) _
    refine XS.icmpYes X0.here hx rfl (pc0 := 11) (pc' := 18) rfl (hb hby d1_11) rfl (feq (by decide : ¬ ((7 : Int32) = (2 : Int32)))).2 (by decide) (by decide) ?_
    show Steps p.tables e below (s₁.setTop (mkF m 18 #[.val (.int (7 : Int32))] [])) _
    refine XS.iloadN X0.here hx rfl (hb hby d1_18) rfl ?_
    show Steps p.tables e below (s₁.setTop (mkF m 19 #[.val (.int (7 : Int32))] [(.int (7 : Int32))])) _
    refine XS.iconst X0.here hx rfl (hb hby d1_19) ?_
    show Steps p.tables e below (s₁.setTop (mkF m 20 #[.val (.int (7 : Int32))] [(.int (3 : Int32)), (.int (7 : Int32))])) _
    refine XS.icmpYes X0.here hx rfl (pc0 := 20) (pc' := 27) rfl (hb hby d1_20) rfl (feq (by decide : ¬ ((7 : Int32) = (3 : Int32)))).2 (by decide) (by decide) ?_
    show Steps p.tables e below (s₁.setTop (mkF m 27 #[.val (.int (7 : Int32))] [])) _
    refine XS.iloadN X0.here hx rfl (hb hby d1_27) rfl ?_
    show Steps p.tables e below (s₁.setTop (mkF m 28 #[.val (.int (7 : Int32))] [(.int (7 : Int32))])) _
    refine XS.iconst X0.here hx rfl (hb hby d1_28) ?_
    show Steps p.tables e below (s₁.setTop (mkF m 29 #[.val (.int (7 : Int32))] [(.int (4 : Int32)), (.int (7 : Int32))])) _
    refine XS.icmpYes X0.here hx rfl (pc0 := 29) (pc' := 36) rfl (hb hby d1_29) rfl (feq (by decide : ¬ ((7 : Int32) = (4 : Int32)))).2 (by decide) (by decide) ?_
    show Steps p.tables e below (s₁.setTop (mkF m 36 #[.val (.int (7 : Int32))] [])) _
    refine XS.iloadN X0.here hx rfl (hb hby d1_36) rfl ?_
    show Steps p.tables e below (s₁.setTop (mkF m 37 #[.val (.int (7 : Int32))] [(.int (7 : Int32))])) _
    refine XS.iconst X0.here hx rfl (hb hby d1_37) ?_
    show Steps p.tables e below (s₁.setTop (mkF m 38 #[.val (.int (7 : Int32))] [(.int (5 : Int32)), (.int (7 : Int32))])) _
    refine XS.icmpYes X0.here hx rfl (pc0 := 38) (pc' := 45) rfl (hb hby d1_38) rfl (feq (by decide : ¬ ((7 : Int32) = (5 : Int32)))).2 (by decide) (by decide) ?_
    show Steps p.tables e below (s₁.setTop (mkF m 45 #[.val (.int (7 : Int32))] [])) _
    refine XS.iloadN X0.here hx rfl (hb hby d1_45) rfl ?_
    show Steps p.tables e below (s₁.setTop (mkF m 46 #[.val (.int (7 : Int32))] [(.int (7 : Int32))])) _
    refine XS.bipush X0.here hx rfl (hb hby d1_46) ?_
    show Steps p.tables e below (s₁.setTop (mkF m 48 #[.val (.int (7 : Int32))] [(.int (6 : Int32)), (.int (7 : Int32))])) _
    refine XS.icmpYes X0.here hx rfl (pc0 := 48) (pc' := 55) rfl (hb hby d1_48) rfl (feq (by decide : ¬ ((7 : Int32) = (6 : Int32)))).2 (by decide) (by decide) ?_
    show Steps p.tables e below (s₁.setTop (mkF m 55 #[.val (.int (7 : Int32))] [])) _
    refine st1 _ ?_
    show Steps p.tables e below (T1.setTop (mkF m 58 #[.val (.int (7 : Int32))] [(.ref w_PARKED)])) _
    jvm_step X1.here [X1.here.top, hx, (hb hby d1_58), X1.method', Bd.returns, Value.isRef, FieldType.isReference]
    first | (intro acts; rw [hr _ acts rfl rfl rfl]) | rw [hr _ _ rfl rfl rfl]
    exact Steps.refl _
  · exact ⟨rfl, N0, e1⟩
def Q2_26 (Z : State) (w_ACK : Addr) (w__VALUES : Addr) (w_GROUP : Addr) (w_OPENED : Addr) (w_PUT : Addr) (w_SETTLED : Addr) (w_CHECKED : Addr) (w_PARKED : Addr) (cl_w__VALUES : Cell) (h0 : Heap) (n0 : Nat) (v : Option Value) (h : Heap) (L : List Loc) : Prop := v = some (.ref w_PARKED) ∧ Fr n0 L ∧ Keep h0 h [] ∧ Old Z n0 h ∧ True
set_option maxRecDepth 65536 in
set_option maxHeartbeats 40000000 in
theorem rm2_26 (l : Launch) (Z : State) (a0 : Array Value) (hw : ∀ d ∈ tables_1, d.before a0 Z = true) (ws : List Jvm.Cond) (w_ACK : Addr) (w__VALUES : Addr) (w_GROUP : Addr) (w_OPENED : Addr) (w_PUT : Addr) (w_SETTLED : Addr) (w_CHECKED : Addr) (w_PARKED : Addr) (cl_w__VALUES : Cell) (h0 : Heap) (n0 : Nat) (Z0 : n0 ≤ h0.size) (O0 : Old Z n0 h0) (HW : World Z w_ACK w__VALUES w_GROUP w_OPENED w_PUT w_SETTLED w_CHECKED w_PARKED cl_w__VALUES) :
    MetFree l (⟨"com/example/clinch/clinch/broker/NoteKind", "of", "(B)Lcom/example/clinch/clinch/broker/NoteKind;"⟩ : MethodName) (head1 (Jvm.Cond.code (⟨"com/example/clinch/clinch/broker/NoteKind", "of", "(B)Lcom/example/clinch/clinch/broker/NoteKind;"⟩ : MethodName) prog_7_method_5_code 5 (some (.object "com/example/clinch/clinch/broker/NoteKind")) :: ws) ({ frames := 2, cells := 1, slots := 7, locals := 25 } : Room)) (fun a U => a = #[(.int (7 : Int32))] ∧ Z.Warmed39 U.vm ∧ U.heap = h0) (fun _ _ _ _ _ => True) (fun _ U o U' => ∃ v L, o = .returned v ∧ Q2_26 Z w_ACK w__VALUES w_GROUP w_OPENED w_PUT w_SETTLED w_CHECKED w_PARKED cl_w__VALUES h0 n0 v U'.heap L ∧ FrameEnd U o U' L ({ frames := 2, cells := 1, slots := 7, locals := 25 } : Room).cells ({ frames := 2, cells := 1, slots := 7, locals := 25 } : Room).slots) := by
  refine MetFree.of_bodySF (plainFor_of_name pn15) hisR ?_
  intro p e s m args below meth c s₁ Bd hml0 hP hK
  obtain ⟨rfl, hZ, hh⟩ := hP
  have hx := Bd.exec
  have hby := Bd.bytes
  have hml : c.maxLocals = 5 := hml0
  have hown : s.vm.findClass "com/example/clinch/clinch/broker/NoteKind" = some m.cls := findClass_of_methodNamed Bd.named
  have hnm := (name_of_methodNamed Bd.named Bd.method).1
  have X0 : Stand p l e ({ frames := 2, cells := 1, slots := 7, locals := 25 } : Room) s m #[(.int (7 : Int32))] below meth c s₁ [] 0 0 := Stand.of_body Bd
  have e0 : s₁.heap = h0 := by rw [← hh, Bd.state]; rfl
  have N0 := Fr.nil n0
  have pre0 : ∀ t, Steps p.tables e below (s₁.setTop (mkF m 0 #[.val (.int (7 : Int32)), .unset, .unset, .unset, .unset] [])) t → Steps p.tables e below (s₁.setTop (entryFrame m #[(.int (7 : Int32))] 5)) t := fun t k => castTop (ef38 m (7 : Int32)) k
  obtain ⟨S_w_ACK, E_w_ACK, S_w__VALUES, E_w__VALUES, S_w_GROUP, E_w_GROUP, S_w_OPENED, E_w_OPENED, S_w_PUT, E_w_PUT, S_w_SETTLED, E_w_SETTLED, S_w_CHECKED, E_w_CHECKED, S_w_PARKED, E_w_PARKED, F_code_w_ACK, F_code_w_GROUP, F_code_w_OPENED, F_code_w_PUT, F_code_w_SETTLED, F_code_w_CHECKED, F_code_w_PARKED, Ar_w__VALUES, Sz_w__VALUES, At_w__VALUES_0, At_w__VALUES_1, At_w__VALUES_2, At_w__VALUES_3, At_w__VALUES_4, At_w__VALUES_5, At_w__VALUES_6, ne_w_ACK_w_GROUP, ne_w_ACK_w_OPENED, ne_w_ACK_w_PUT, ne_w_ACK_w_SETTLED, ne_w_ACK_w_CHECKED, ne_w_ACK_w_PARKED, ne_w_GROUP_w_OPENED, ne_w_GROUP_w_PUT, ne_w_GROUP_w_SETTLED, ne_w_GROUP_w_CHECKED, ne_w_GROUP_w_PARKED, ne_w_OPENED_w_PUT, ne_w_OPENED_w_SETTLED, ne_w_OPENED_w_CHECKED, ne_w_OPENED_w_PARKED, ne_w_PUT_w_SETTLED, ne_w_PUT_w_CHECKED, ne_w_PUT_w_PARKED, ne_w_SETTLED_w_CHECKED, ne_w_SETTLED_w_PARKED, ne_w_CHECKED_w_PARKED, V_w__VALUES, -⟩ := id HW
  obtain ⟨_, _, ⟨T1, L1, k1, n1⟩, -, X1, ⟨Lc1, hQ1, l1, y1, z1⟩, st1⟩ := Jvm.LawKit.callS X0 hx (y := (⟨"com/example/clinch/clinch/broker/NoteKind", "values", "()[Lcom/example/clinch/clinch/broker/NoteKind;"⟩ : MethodName)) hown (mvT hZ (hw _ (List.mem_of_getElem? (i := 11) rfl))) (mvT hZ (hw _ (List.mem_of_getElem? (i := 12) rfl))) (mvT hZ (hw _ (List.mem_of_getElem? (i := 6) rfl))) (mvT hZ (hw _ (List.mem_of_getElem? (i := 13) rfl))) (by decide) (backOf (W := 0) (rm3_1 l Z a0 hw [] w_ACK w__VALUES w_GROUP w_OPENED w_PUT w_SETTLED w_CHECKED w_PARKED cl_w__VALUES h0 n0 (own_n0 O0) O0 HW) hZ (hw _ (List.mem_of_getElem? (i := 13) rfl)) (hw _ (List.mem_of_getElem? (i := 6) rfl)) (by decide) (by decide)) (g := (mkF m 0 #[.val (.int (7 : Int32)), .unset, .unset, .unset, .unset] [])) rfl (by rw [hml]; rfl) (argsL := []) (rest := []) (lenOf pd16 rfl) rfl (by show 2 * 0 + _ ≤ _; exact Nat.le_of_eq rfl) (hb hby d2_0) (fun _ _ => ⟨rfl, e0, (by decide : 0 + 1 ≤ _), (by decide : 0 + 7 ≤ _)⟩)
  dsimp only [Pt.U, Pt.locs, Pt.cells, Pt.slots] at X1 l1 y1 z1 st1 hQ1
  subst l1 y1 z1
  obtain ⟨b1_0, fk1_0, rfl, N1q, K1, O1, pz_b1_0, pf1_0, pf1_1, -⟩ := hQ1
  have bo_b1_0 : h0.size ≤ b1_0 := pz_b1_0
  have g_b1_0 : n0 ≤ b1_0 := Nat.le_trans (own_n0 O0) bo_b1_0
  have sz_b1_0 : h0.size ≤ b1_0 := Nat.le_trans (Keep.refl h0 []).1 bo_b1_0
  have KK1 : Keep h0 T1.heap [] := (Keep.refl h0 []).trans K1 all0
  have N1 := Fr.app N0 N1q
  obtain ⟨ac2, aA2, aq2, aS2, aN2, aH2, aG2⟩ := id pf1_1
  obtain ⟨ac3, aA3, aq3, aS3, aN3, aH3, aG3⟩ := id pf1_1
  obtain ⟨T4, X4, e4, st4⟩ := getF X1 hx hZ hown (host := "") (Or.inl (hw _ (List.mem_of_getElem? (i := 32) rfl))) Via.refl rfl (F_code_w_ACK.ext O1.2) (g := (mkF m 21 #[.val (.int (7 : Int32)), .val (.ref b1_0), .val (.int (7 : Int32)), .val (.int (0 : Int32)), .val (.ref w_ACK)] [(.ref w_ACK)])) rfl rfl (hb hby d2_21)
  obtain ⟨ac5, aA5, aq5, aS5, aN5, aH5, aG5⟩ := id pf1_1
  obtain ⟨T6, X6, e6, st6⟩ := getF X4 hx hZ hown (host := "") (Or.inl (hw _ (List.mem_of_getElem? (i := 32) rfl))) Via.refl e4 (F_code_w_GROUP.ext O1.2) (g := (mkF m 21 #[.val (.int (7 : Int32)), .val (.ref b1_0), .val (.int (7 : Int32)), .val (.int (1 : Int32)), .val (.ref w_GROUP)] [(.ref w_GROUP)])) rfl rfl (hb hby d2_21)
  obtain ⟨ac7, aA7, aq7, aS7, aN7, aH7, aG7⟩ := id pf1_1
  obtain ⟨T8, X8, e8, st8⟩ := getF X6 hx hZ hown (host := "") (Or.inl (hw _ (List.mem_of_getElem? (i := 32) rfl))) Via.refl e6 (F_code_w_OPENED.ext O1.2) (g := (mkF m 21 #[.val (.int (7 : Int32)), .val (.ref b1_0), .val (.int (7 : Int32)), .val (.int (2 : Int32)), .val (.ref w_OPENED)] [(.ref w_OPENED)])) rfl rfl (hb hby d2_21)
  obtain ⟨ac9, aA9, aq9, aS9, aN9, aH9, aG9⟩ := id pf1_1
  obtain ⟨T10, X10, e10, st10⟩ := getF X8 hx hZ hown (host := "") (Or.inl (hw _ (List.mem_of_getElem? (i := 32) rfl))) Via.refl e8 (F_code_w_PUT.ext O1.2) (g := (mkF m 21 #[.val (.int (7 : Int32)), .val (.ref b1_0), .val (.int (7 : Int32)), .val (.int (3 : Int32)), .val (.ref w_PUT)] [(.ref w_PUT)])) rfl rfl (hb hby d2_21)
  obtain ⟨ac11, aA11, aq11, aS11, aN11, aH11, aG11⟩ := id pf1_1
  obtain ⟨T12, X12, e12, st12⟩ := getF X10 hx hZ hown (host := "") (Or.inl (hw _ (List.mem_of_getElem? (i := 32) rfl))) Via.refl e10 (F_code_w_SETTLED.ext O1.2) (g := (mkF m 21 #[.val (.int (7 : Int32)), .val (.ref b1_0), .val (.int (7 : Int32)), .val (.int (4 : Int32)), .val (.ref w_SETTLED)] [(.ref w_SETTLED)])) rfl rfl (hb hby d2_21)
  obtain ⟨ac13, aA13, aq13, aS13, aN13, aH13, aG13⟩ := id pf1_1
  obtain ⟨T14, X14, e14, st14⟩ := getF X12 hx hZ hown (host := "") (Or.inl (hw _ (List.mem_of_getElem? (i := 32) rfl))) Via.refl e12 (F_code_w_CHECKED.ext O1.2) (g := (mkF m 21 #[.val (.int (7 : Int32)), .val (.ref b1_0), .val (.int (7 : Int32)), .val (.int (5 : Int32)), .val (.ref w_CHECKED)] [(.ref w_CHECKED)])) rfl rfl (hb hby d2_21)
  obtain ⟨ac15, aA15, aq15, aS15, aN15, aH15, aG15⟩ := id pf1_1
  obtain ⟨T16, X16, e16, st16⟩ := getF X14 hx hZ hown (host := "") (Or.inl (hw _ (List.mem_of_getElem? (i := 32) rfl))) Via.refl e14 (F_code_w_PARKED.ext O1.2) (g := (mkF m 21 #[.val (.int (7 : Int32)), .val (.ref b1_0), .val (.int (7 : Int32)), .val (.int (6 : Int32)), .val (.ref w_PARKED)] [(.ref w_PARKED)])) rfl rfl (hb hby d2_21)
  obtain ⟨fs, hr, hrun, hended, hW, hsame⟩ := X16.leave (v := some (.ref w_PARKED)) (fun h => by rw [Bd.returns] at h; cases h)
  refine ⟨_, _, pre0 _ ?_, hrun, hended, _, _, rfl, ?_, ⟨_, rfl⟩, hW, hsame.mono (by decide) (by decide)⟩
  · show Steps p.tables e below (s₁.setTop (mkF m 0 #[.val (.int (7 : Int32)), .unset, .unset, .unset, .unset] [])) _
    refine st1 _ ?_
    show Steps p.tables e below (T1.setTop (mkF m 3 #[.val (.int (7 : Int32)), .unset, .unset, .unset, .unset] [(.ref b1_0)])) _
    refine XS.astoreN X1.here hx rfl (hb hby d2_3) rfl rfl (l' := #[.val (.int (7 : Int32)), .val (.ref b1_0), .unset, .unset, .unset]) rfl ?_
    show Steps p.tables e below (T1.setTop (mkF m 4 #[.val (.int (7 : Int32)), .val (.ref b1_0), .unset, .unset, .unset] [])) _
    refine XS.aloadN X1.here hx rfl (hb hby d2_4) rfl rfl ?_
    show Steps p.tables e below (T1.setTop (mkF m 5 #[.val (.int (7 : Int32)), .val (.ref b1_0), .unset, .unset, .unset] [(.ref b1_0)])) _
    refine X1.arraylength hx aA2.1 (State.isArrayOf_alike hZ.alike aA2.2.1) (g := (mkF m 5 #[.val (.int (7 : Int32)), .val (.ref b1_0), .unset, .unset, .unset] [(.ref b1_0)])) rfl rfl (hb hby d2_5) _ ?_
    rw [len_of aS2 aN2]
    show Steps p.tables e below (T1.setTop (mkF m 6 #[.val (.int (7 : Int32)), .val (.ref b1_0), .unset, .unset, .unset] [(.int (7 : Int32))])) _
    refine XS.istoreN X1.here hx rfl (hb hby d2_6) rfl (l' := #[.val (.int (7 : Int32)), .val (.ref b1_0), .val (.int (7 : Int32)), .unset, .unset]) rfl ?_
    show Steps p.tables e below (T1.setTop (mkF m 7 #[.val (.int (7 : Int32)), .val (.ref b1_0), .val (.int (7 : Int32)), .unset, .unset] [])) _
    refine XS.iconst X1.here hx rfl (hb hby d2_7) ?_
    show Steps p.tables e below (T1.setTop (mkF m 8 #[.val (.int (7 : Int32)), .val (.ref b1_0), .val (.int (7 : Int32)), .unset, .unset] [(.int (0 : Int32))])) _
    refine XS.istoreN X1.here hx rfl (hb hby d2_8) rfl (l' := #[.val (.int (7 : Int32)), .val (.ref b1_0), .val (.int (7 : Int32)), .val (.int (0 : Int32)), .unset]) rfl ?_
    show Steps p.tables e below (T1.setTop (mkF m 9 #[.val (.int (7 : Int32)), .val (.ref b1_0), .val (.int (7 : Int32)), .val (.int (0 : Int32)), .unset] [])) _
    refine XS.iloadN X1.here hx rfl (hb hby d2_9) rfl ?_
    show Steps p.tables e below (T1.setTop (mkF m 10 #[.val (.int (7 : Int32)), .val (.ref b1_0), .val (.int (7 : Int32)), .val (.int (0 : Int32)), .unset] [(.int (0 : Int32))])) _
    refine XS.iloadN X1.here hx rfl (hb hby d2_10) rfl ?_
    show Steps p.tables e below (T1.setTop (mkF m 11 #[.val (.int (7 : Int32)), .val (.ref b1_0), .val (.int (7 : Int32)), .val (.int (0 : Int32)), .unset] [(.int (7 : Int32)), (.int (0 : Int32))])) _
    refine XS.icmpNo X1.here hx rfl (hb hby d2_11) rfl (tlt (by decide : (0 : Int32) < (7 : Int32))).2.1 ?_
    show Steps p.tables e below (T1.setTop (mkF m 14 #[.val (.int (7 : Int32)), .val (.ref b1_0), .val (.int (7 : Int32)), .val (.int (0 : Int32)), .unset] [])) _
    refine XS.aloadN X1.here hx rfl (hb hby d2_14) rfl rfl ?_
    show Steps p.tables e below (T1.setTop (mkF m 15 #[.val (.int (7 : Int32)), .val (.ref b1_0), .val (.int (7 : Int32)), .val (.int (0 : Int32)), .unset] [(.ref b1_0)])) _
    refine XS.iloadN X1.here hx rfl (hb hby d2_15) rfl ?_
    show Steps p.tables e below (T1.setTop (mkF m 16 #[.val (.int (7 : Int32)), .val (.ref b1_0), .val (.int (7 : Int32)), .val (.int (0 : Int32)), .unset] [(.int (0 : Int32)), (.ref b1_0)])) _
    refine X1.aaload hx (j := (0 : Int32)) (v := (.ref w_ACK)) aA3.1 (State.isArrayOf_alike hZ.alike aA3.2.1) rfl aA3.2.2 (inb_of aS3 ⟨by decide, by decide⟩) (aH3.at (inb_of aS3 ⟨by decide, by decide⟩) rfl) (g := (mkF m 16 #[.val (.int (7 : Int32)), .val (.ref b1_0), .val (.int (7 : Int32)), .val (.int (0 : Int32)), .unset] [(.int (0 : Int32)), (.ref b1_0)])) rfl rfl (hb hby d2_16) _ ?_
    show Steps p.tables e below (T1.setTop (mkF m 17 #[.val (.int (7 : Int32)), .val (.ref b1_0), .val (.int (7 : Int32)), .val (.int (0 : Int32)), .unset] [(.ref w_ACK)])) _
    refine XS.astore X1.here hx rfl (hb hby d2_17) rfl rfl (l' := #[.val (.int (7 : Int32)), .val (.ref b1_0), .val (.int (7 : Int32)), .val (.int (0 : Int32)), .val (.ref w_ACK)]) rfl ?_
    show Steps p.tables e below (T1.setTop (mkF m 19 #[.val (.int (7 : Int32)), .val (.ref b1_0), .val (.int (7 : Int32)), .val (.int (0 : Int32)), .val (.ref w_ACK)] [])) _
    refine XS.aload X1.here hx rfl (hb hby d2_19) rfl rfl ?_
    show Steps p.tables e below (T1.setTop (mkF m 21 #[.val (.int (7 : Int32)), .val (.ref b1_0), .val (.int (7 : Int32)), .val (.int (0 : Int32)), .val (.ref w_ACK)] [(.ref w_ACK)])) _
    refine st4 _ ?_
    show Steps p.tables e below (T4.setTop (mkF m 24 #[.val (.int (7 : Int32)), .val (.ref b1_0), .val (.int (7 : Int32)), .val (.int (0 : Int32)), .val (.ref w_ACK)] [(.int (1 : Int32))])) _
    refine XS.iloadN X4.here hx rfl (hb hby d2_24) rfl ?_
    show Steps p.tables e below (T4.setTop (mkF m 25 #[.val (.int (7 : Int32)), .val (.ref b1_0), .val (.int (7 : Int32)), .val (.int (0 : Int32)), .val (.ref w_ACK)] [(.int (7 : Int32)), (.int (1 : Int32))])) _
    refine XS.icmpYes X4.here hx rfl (pc0 := 25) (pc' := 31) rfl (hb hby d2_25) rfl (feq (by decide : ¬ ((1 : Int32) = (7 : Int32)))).2 (by decide) (by decide) ?_
    show Steps p.tables e below (T4.setTop (mkF m 31 #[.val (.int (7 : Int32)), .val (.ref b1_0), .val (.int (7 : Int32)), .val (.int (0 : Int32)), .val (.ref w_ACK)] [])) _
    refine XS.iinc X4.here hx rfl (hb hby d2_31) rfl (l' := #[.val (.int (7 : Int32)), .val (.ref b1_0), .val (.int (7 : Int32)), .val (.int ((0 : Int32) + (1 : Int32))), .val (.ref w_ACK)]) rfl ?_
    rw [show ((0 : Int32) + (1 : Int32)) = (1 : Int32) from by decide]
    show Steps p.tables e below (T4.setTop (mkF m 34 #[.val (.int (7 : Int32)), .val (.ref b1_0), .val (.int (7 : Int32)), .val (.int (1 : Int32)), .val (.ref w_ACK)] [])) _
    refine XS.goto X4.here hx rfl (pc0 := 34) (pc' := 9) rfl (hb hby d2_34) (by decide) (by decide) ?_
    show Steps p.tables e below (T4.setTop (mkF m 9 #[.val (.int (7 : Int32)), .val (.ref b1_0), .val (.int (7 : Int32)), .val (.int (1 : Int32)), .val (.ref w_ACK)] [])) _
    refine XS.iloadN X4.here hx rfl (hb hby d2_9) rfl ?_
    show Steps p.tables e below (T4.setTop (mkF m 10 #[.val (.int (7 : Int32)), .val (.ref b1_0), .val (.int (7 : Int32)), .val (.int (1 : Int32)), .val (.ref w_ACK)] [(.int (1 : Int32))])) _
    refine XS.iloadN X4.here hx rfl (hb hby d2_10) rfl ?_
    show Steps p.tables e below (T4.setTop (mkF m 11 #[.val (.int (7 : Int32)), .val (.ref b1_0), .val (.int (7 : Int32)), .val (.int (1 : Int32)), .val (.ref w_ACK)] [(.int (7 : Int32)), (.int (1 : Int32))])) _
    refine XS.icmpNo X4.here hx rfl (hb hby d2_11) rfl (tlt (by decide : (1 : Int32) < (7 : Int32))).2.1 ?_
    show Steps p.tables e below (T4.setTop (mkF m 14 #[.val (.int (7 : Int32)), .val (.ref b1_0), .val (.int (7 : Int32)), .val (.int (1 : Int32)), .val (.ref w_ACK)] [])) _
    refine XS.aloadN X4.here hx rfl (hb hby d2_14) rfl rfl ?_
    show Steps p.tables e below (T4.setTop (mkF m 15 #[.val (.int (7 : Int32)), .val (.ref b1_0), .val (.int (7 : Int32)), .val (.int (1 : Int32)), .val (.ref w_ACK)] [(.ref b1_0)])) _
    refine XS.iloadN X4.here hx rfl (hb hby d2_15) rfl ?_
    show Steps p.tables e below (T4.setTop (mkF m 16 #[.val (.int (7 : Int32)), .val (.ref b1_0), .val (.int (7 : Int32)), .val (.int (1 : Int32)), .val (.ref w_ACK)] [(.int (1 : Int32)), (.ref b1_0)])) _
    refine X4.aaload hx (j := (1 : Int32)) (v := (.ref w_GROUP)) (by rw [e4]; exact aA5.1) (State.isArrayOf_alike hZ.alike aA5.2.1) rfl aA5.2.2 (inb_of aS5 ⟨by decide, by decide⟩) (aH5.at (inb_of aS5 ⟨by decide, by decide⟩) rfl) (g := (mkF m 16 #[.val (.int (7 : Int32)), .val (.ref b1_0), .val (.int (7 : Int32)), .val (.int (1 : Int32)), .val (.ref w_ACK)] [(.int (1 : Int32)), (.ref b1_0)])) rfl rfl (hb hby d2_16) _ ?_
    show Steps p.tables e below (T4.setTop (mkF m 17 #[.val (.int (7 : Int32)), .val (.ref b1_0), .val (.int (7 : Int32)), .val (.int (1 : Int32)), .val (.ref w_ACK)] [(.ref w_GROUP)])) _
    refine XS.astore X4.here hx rfl (hb hby d2_17) rfl rfl (l' := #[.val (.int (7 : Int32)), .val (.ref b1_0), .val (.int (7 : Int32)), .val (.int (1 : Int32)), .val (.ref w_GROUP)]) rfl ?_
    show Steps p.tables e below (T4.setTop (mkF m 19 #[.val (.int (7 : Int32)), .val (.ref b1_0), .val (.int (7 : Int32)), .val (.int (1 : Int32)), .val (.ref w_GROUP)] [])) _
    refine XS.aload X4.here hx rfl (hb hby d2_19) rfl rfl ?_
    show Steps p.tables e below (T4.setTop (mkF m 21 #[.val (.int (7 : Int32)), .val (.ref b1_0), .val (.int (7 : Int32)), .val (.int (1 : Int32)), .val (.ref w_GROUP)] [(.ref w_GROUP)])) _
    refine st6 _ ?_
    show Steps p.tables e below (T6.setTop (mkF m 24 #[.val (.int (7 : Int32)), .val (.ref b1_0), .val (.int (7 : Int32)), .val (.int (1 : Int32)), .val (.ref w_GROUP)] [(.int (2 : Int32))])) _
    refine XS.iloadN X6.here hx rfl (hb hby d2_24) rfl ?_
    show Steps p.tables e below (T6.setTop (mkF m 25 #[.val (.int (7 : Int32)), .val (.ref b1_0), .val (.int (7 : Int32)), .val (.int (1 : Int32)), .val (.ref w_GROUP)] [(.int (7 : Int32)), (.int (2 : Int32))])) _
    refine XS.icmpYes X6.here hx rfl (pc0 := 25) (pc' := 31) rfl (hb hby d2_25) rfl (feq (by decide : ¬ ((2 : Int32) = (7 : Int32)))).2 (by decide) (by decide) ?_
    show Steps p.tables e below (T6.setTop (mkF m 31 #[.val (.int (7 : Int32)), .val (.ref b1_0), .val (.int (7 : Int32)), .val (.int (1 : Int32)), .val (.ref w_GROUP)] [])) _
    refine XS.iinc X6.here hx rfl (hb hby d2_31) rfl (l' := #[.val (.int (7 : Int32)), .val (.ref b1_0), .val (.int (7 : Int32)), .val (.int ((1 : Int32) + (1 : Int32))), .val (.ref w_GROUP)]) rfl ?_
    rw [show ((1 : Int32) + (1 : Int32)) = (2 : Int32) from by decide]
    show Steps p.tables e below (T6.setTop (mkF m 34 #[.val (.int (7 : Int32)), .val (.ref b1_0), .val (.int (7 : Int32)), .val (.int (2 : Int32)), .val (.ref w_GROUP)] [])) _
    refine XS.goto X6.here hx rfl (pc0 := 34) (pc' := 9) rfl (hb hby d2_34) (by decide) (by decide) ?_
    show Steps p.tables e below (T6.setTop (mkF m 9 #[.val (.int (7 : Int32)), .val (.ref b1_0), .val (.int (7 : Int32)), .val (.int (2 : Int32)), .val (.ref w_GROUP)] [])) _
    refine XS.iloadN X6.here hx rfl (hb hby d2_9) rfl ?_
    show Steps p.tables e below (T6.setTop (mkF m 10 #[.val (.int (7 : Int32)), .val (.ref b1_0), .val (.int (7 : Int32)), .val (.int (2 : Int32)), .val (.ref w_GROUP)] [(.int (2 : Int32))])) _
    refine XS.iloadN X6.here hx rfl (hb hby d2_10) rfl ?_
    show Steps p.tables e below (T6.setTop (mkF m 11 #[.val (.int (7 : Int32)), .val (.ref b1_0), .val (.int (7 : Int32)), .val (.int (2 : Int32)), .val (.ref w_GROUP)] [(.int (7 : Int32)), (.int (2 : Int32))])) _
    refine XS.icmpNo X6.here hx rfl (hb hby d2_11) rfl (tlt (by decide : (2 : Int32) < (7 : Int32))).2.1 ?_
    show Steps p.tables e below (T6.setTop (mkF m 14 #[.val (.int (7 : Int32)), .val (.ref b1_0), .val (.int (7 : Int32)), .val (.int (2 : Int32)), .val (.ref w_GROUP)] [])) _
    refine XS.aloadN X6.here hx rfl (hb hby d2_14) rfl rfl ?_
    show Steps p.tables e below (T6.setTop (mkF m 15 #[.val (.int (7 : Int32)), .val (.ref b1_0), .val (.int (7 : Int32)), .val (.int (2 : Int32)), .val (.ref w_GROUP)] [(.ref b1_0)])) _
    refine XS.iloadN X6.here hx rfl (hb hby d2_15) rfl ?_
    show Steps p.tables e below (T6.setTop (mkF m 16 #[.val (.int (7 : Int32)), .val (.ref b1_0), .val (.int (7 : Int32)), .val (.int (2 : Int32)), .val (.ref w_GROUP)] [(.int (2 : Int32)), (.ref b1_0)])) _
    refine X6.aaload hx (j := (2 : Int32)) (v := (.ref w_OPENED)) (by rw [e6]; exact aA7.1) (State.isArrayOf_alike hZ.alike aA7.2.1) rfl aA7.2.2 (inb_of aS7 ⟨by decide, by decide⟩) (aH7.at (inb_of aS7 ⟨by decide, by decide⟩) rfl) (g := (mkF m 16 #[.val (.int (7 : Int32)), .val (.ref b1_0), .val (.int (7 : Int32)), .val (.int (2 : Int32)), .val (.ref w_GROUP)] [(.int (2 : Int32)), (.ref b1_0)])) rfl rfl (hb hby d2_16) _ ?_
    show Steps p.tables e below (T6.setTop (mkF m 17 #[.val (.int (7 : Int32)), .val (.ref b1_0), .val (.int (7 : Int32)), .val (.int (2 : Int32)), .val (.ref w_GROUP)] [(.ref w_OPENED)])) _
    refine XS.astore X6.here hx rfl (hb hby d2_17) rfl rfl (l' := #[.val (.int (7 : Int32)), .val (.ref b1_0), .val (.int (7 : Int32)), .val (.int (2 : Int32)), .val (.ref w_OPENED)]) rfl ?_
    show Steps p.tables e below (T6.setTop (mkF m 19 #[.val (.int (7 : Int32)), .val (.ref b1_0), .val (.int (7 : Int32)), .val (.int (2 : Int32)), .val (.ref w_OPENED)] [])) _
    refine XS.aload X6.here hx rfl (hb hby d2_19) rfl rfl ?_
    show Steps p.tables e below (T6.setTop (mkF m 21 #[.val (.int (7 : Int32)), .val (.ref b1_0), .val (.int (7 : Int32)), .val (.int (2 : Int32)), .val (.ref w_OPENED)] [(.ref w_OPENED)])) _
    refine st8 _ ?_
    show Steps p.tables e below (T8.setTop (mkF m 24 #[.val (.int (7 : Int32)), .val (.ref b1_0), .val (.int (7 : Int32)), .val (.int (2 : Int32)), .val (.ref w_OPENED)] [(.int (3 : Int32))])) _
    refine XS.iloadN X8.here hx rfl (hb hby d2_24) rfl ?_
    show Steps p.tables e below (T8.setTop (mkF m 25 #[.val (.int (7 : Int32)), .val (.ref b1_0), .val (.int (7 : Int32)), .val (.int (2 : Int32)), .val (.ref w_OPENED)] [(.int (7 : Int32)), (.int (3 : Int32))])) _
    refine XS.icmpYes X8.here hx rfl (pc0 := 25) (pc' := 31) rfl (hb hby d2_25) rfl (feq (by decide : ¬ ((3 : Int32) = (7 : Int32)))).2 (by decide) (by decide) ?_
    show Steps p.tables e below (T8.setTop (mkF m 31 #[.val (.int (7 : Int32)), .val (.ref b1_0), .val (.int (7 : Int32)), .val (.int (2 : Int32)), .val (.ref w_OPENED)] [])) _
    refine XS.iinc X8.here hx rfl (hb hby d2_31) rfl (l' := #[.val (.int (7 : Int32)), .val (.ref b1_0), .val (.int (7 : Int32)), .val (.int ((2 : Int32) + (1 : Int32))), .val (.ref w_OPENED)]) rfl ?_
    rw [show ((2 : Int32) + (1 : Int32)) = (3 : Int32) from by decide]
    show Steps p.tables e below (T8.setTop (mkF m 34 #[.val (.int (7 : Int32)), .val (.ref b1_0), .val (.int (7 : Int32)), .val (.int (3 : Int32)), .val (.ref w_OPENED)] [])) _
    refine XS.goto X8.here hx rfl (pc0 := 34) (pc' := 9) rfl (hb hby d2_34) (by decide) (by decide) ?_
    show Steps p.tables e below (T8.setTop (mkF m 9 #[.val (.int (7 : Int32)), .val (.ref b1_0), .val (.int (7 : Int32)), .val (.int (3 : Int32)), .val (.ref w_OPENED)] [])) _
    refine XS.iloadN X8.here hx rfl (hb hby d2_9) rfl ?_
    show Steps p.tables e below (T8.setTop (mkF m 10 #[.val (.int (7 : Int32)), .val (.ref b1_0), .val (.int (7 : Int32)), .val (.int (3 : Int32)), .val (.ref w_OPENED)] [(.int (3 : Int32))])) _
    refine XS.iloadN X8.here hx rfl (hb hby d2_10) rfl ?_
    show Steps p.tables e below (T8.setTop (mkF m 11 #[.val (.int (7 : Int32)), .val (.ref b1_0), .val (.int (7 : Int32)), .val (.int (3 : Int32)), .val (.ref w_OPENED)] [(.int (7 : Int32)), (.int (3 : Int32))])) _
    refine XS.icmpNo X8.here hx rfl (hb hby d2_11) rfl (tlt (by decide : (3 : Int32) < (7 : Int32))).2.1 ?_
    show Steps p.tables e below (T8.setTop (mkF m 14 #[.val (.int (7 : Int32)), .val (.ref b1_0), .val (.int (7 : Int32)), .val (.int (3 : Int32)), .val (.ref w_OPENED)] [])) _
    refine XS.aloadN X8.here hx rfl (hb hby d2_14) rfl rfl ?_
    show Steps p.tables e below (T8.setTop (mkF m 15 #[.val (.int (7 : Int32)), .val (.ref b1_0), .val (.int (7 : Int32)), .val (.int (3 : Int32)), .val (.ref w_OPENED)] [(.ref b1_0)])) _
    refine XS.iloadN X8.here hx rfl (hb hby d2_15) rfl ?_
    show Steps p.tables e below (T8.setTop (mkF m 16 #[.val (.int (7 : Int32)), .val (.ref b1_0), .val (.int (7 : Int32)), .val (.int (3 : Int32)), .val (.ref w_OPENED)] [(.int (3 : Int32)), (.ref b1_0)])) _
    refine X8.aaload hx (j := (3 : Int32)) (v := (.ref w_PUT)) (by rw [e8]; exact aA9.1) (State.isArrayOf_alike hZ.alike aA9.2.1) rfl aA9.2.2 (inb_of aS9 ⟨by decide, by decide⟩) (aH9.at (inb_of aS9 ⟨by decide, by decide⟩) rfl) (g := (mkF m 16 #[.val (.int (7 : Int32)), .val (.ref b1_0), .val (.int (7 : Int32)), .val (.int (3 : Int32)), .val (.ref w_OPENED)] [(.int (3 : Int32)), (.ref b1_0)])) rfl rfl (hb hby d2_16) _ ?_
    show Steps p.tables e below (T8.setTop (mkF m 17 #[.val (.int (7 : Int32)), .val (.ref b1_0), .val (.int (7 : Int32)), .val (.int (3 : Int32)), .val (.ref w_OPENED)] [(.ref w_PUT)])) _
    refine XS.astore X8.here hx rfl (hb hby d2_17) rfl rfl (l' := #[.val (.int (7 : Int32)), .val (.ref b1_0), .val (.int (7 : Int32)), .val (.int (3 : Int32)), .val (.ref w_PUT)]) rfl ?_
    show Steps p.tables e below (T8.setTop (mkF m 19 #[.val (.int (7 : Int32)), .val (.ref b1_0), .val (.int (7 : Int32)), .val (.int (3 : Int32)), .val (.ref w_PUT)] [])) _
    refine XS.aload X8.here hx rfl (hb hby d2_19) rfl rfl ?_
    show Steps p.tables e below (T8.setTop (mkF m 21 #[.val (.int (7 : Int32)), .val (.ref b1_0), .val (.int (7 : Int32)), .val (.int (3 : Int32)), .val (.ref w_PUT)] [(.ref w_PUT)])) _
    refine st10 _ ?_
    show Steps p.tables e below (T10.setTop (mkF m 24 #[.val (.int (7 : Int32)), .val (.ref b1_0), .val (.int (7 : Int32)), .val (.int (3 : Int32)), .val (.ref w_PUT)] [(.int (4 : Int32))])) _
    refine XS.iloadN X10.here hx rfl (hb hby d2_24) rfl ?_
    show Steps p.tables e below (T10.setTop (mkF m 25 #[.val (.int (7 : Int32)), .val (.ref b1_0), .val (.int (7 : Int32)), .val (.int (3 : Int32)), .val (.ref w_PUT)] [(.int (7 : Int32)), (.int (4 : Int32))])) _
    refine XS.icmpYes X10.here hx rfl (pc0 := 25) (pc' := 31) rfl (hb hby d2_25) rfl (feq (by decide : ¬ ((4 : Int32) = (7 : Int32)))).2 (by decide) (by decide) ?_
    show Steps p.tables e below (T10.setTop (mkF m 31 #[.val (.int (7 : Int32)), .val (.ref b1_0), .val (.int (7 : Int32)), .val (.int (3 : Int32)), .val (.ref w_PUT)] [])) _
    refine XS.iinc X10.here hx rfl (hb hby d2_31) rfl (l' := #[.val (.int (7 : Int32)), .val (.ref b1_0), .val (.int (7 : Int32)), .val (.int ((3 : Int32) + (1 : Int32))), .val (.ref w_PUT)]) rfl ?_
    rw [show ((3 : Int32) + (1 : Int32)) = (4 : Int32) from by decide]
    show Steps p.tables e below (T10.setTop (mkF m 34 #[.val (.int (7 : Int32)), .val (.ref b1_0), .val (.int (7 : Int32)), .val (.int (4 : Int32)), .val (.ref w_PUT)] [])) _
    refine XS.goto X10.here hx rfl (pc0 := 34) (pc' := 9) rfl (hb hby d2_34) (by decide) (by decide) ?_
    show Steps p.tables e below (T10.setTop (mkF m 9 #[.val (.int (7 : Int32)), .val (.ref b1_0), .val (.int (7 : Int32)), .val (.int (4 : Int32)), .val (.ref w_PUT)] [])) _
    refine XS.iloadN X10.here hx rfl (hb hby d2_9) rfl ?_
    show Steps p.tables e below (T10.setTop (mkF m 10 #[.val (.int (7 : Int32)), .val (.ref b1_0), .val (.int (7 : Int32)), .val (.int (4 : Int32)), .val (.ref w_PUT)] [(.int (4 : Int32))])) _
    refine XS.iloadN X10.here hx rfl (hb hby d2_10) rfl ?_
    show Steps p.tables e below (T10.setTop (mkF m 11 #[.val (.int (7 : Int32)), .val (.ref b1_0), .val (.int (7 : Int32)), .val (.int (4 : Int32)), .val (.ref w_PUT)] [(.int (7 : Int32)), (.int (4 : Int32))])) _
    refine XS.icmpNo X10.here hx rfl (hb hby d2_11) rfl (tlt (by decide : (4 : Int32) < (7 : Int32))).2.1 ?_
    show Steps p.tables e below (T10.setTop (mkF m 14 #[.val (.int (7 : Int32)), .val (.ref b1_0), .val (.int (7 : Int32)), .val (.int (4 : Int32)), .val (.ref w_PUT)] [])) _
    refine XS.aloadN X10.here hx rfl (hb hby d2_14) rfl rfl ?_
    show Steps p.tables e below (T10.setTop (mkF m 15 #[.val (.int (7 : Int32)), .val (.ref b1_0), .val (.int (7 : Int32)), .val (.int (4 : Int32)), .val (.ref w_PUT)] [(.ref b1_0)])) _
    refine XS.iloadN X10.here hx rfl (hb hby d2_15) rfl ?_
    show Steps p.tables e below (T10.setTop (mkF m 16 #[.val (.int (7 : Int32)), .val (.ref b1_0), .val (.int (7 : Int32)), .val (.int (4 : Int32)), .val (.ref w_PUT)] [(.int (4 : Int32)), (.ref b1_0)])) _
    refine X10.aaload hx (j := (4 : Int32)) (v := (.ref w_SETTLED)) (by rw [e10]; exact aA11.1) (State.isArrayOf_alike hZ.alike aA11.2.1) rfl aA11.2.2 (inb_of aS11 ⟨by decide, by decide⟩) (aH11.at (inb_of aS11 ⟨by decide, by decide⟩) rfl) (g := (mkF m 16 #[.val (.int (7 : Int32)), .val (.ref b1_0), .val (.int (7 : Int32)), .val (.int (4 : Int32)), .val (.ref w_PUT)] [(.int (4 : Int32)), (.ref b1_0)])) rfl rfl (hb hby d2_16) _ ?_
    show Steps p.tables e below (T10.setTop (mkF m 17 #[.val (.int (7 : Int32)), .val (.ref b1_0), .val (.int (7 : Int32)), .val (.int (4 : Int32)), .val (.ref w_PUT)] [(.ref w_SETTLED)])) _
    refine XS.astore X10.here hx rfl (hb hby d2_17) rfl rfl (l' := #[.val (.int (7 : Int32)), .val (.ref b1_0), .val (.int (7 : Int32)), .val (.int (4 : Int32)), .val (.ref w_SETTLED)]) rfl ?_
    show Steps p.tables e below (T10.setTop (mkF m 19 #[.val (.int (7 : Int32)), .val (.ref b1_0), .val (.int (7 : Int32)), .val (.int (4 : Int32)), .val (.ref w_SETTLED)] [])) _
    refine XS.aload X10.here hx rfl (hb hby d2_19) rfl rfl ?_
    show Steps p.tables e below (T10.setTop (mkF m 21 #[.val (.int (7 : Int32)), .val (.ref b1_0), .val (.int (7 : Int32)), .val (.int (4 : Int32)), .val (.ref w_SETTLED)] [(.ref w_SETTLED)])) _
    refine st12 _ ?_
    show Steps p.tables e below (T12.setTop (mkF m 24 #[.val (.int (7 : Int32)), .val (.ref b1_0), .val (.int (7 : Int32)), .val (.int (4 : Int32)), .val (.ref w_SETTLED)] [(.int (5 : Int32))])) _
    refine XS.iloadN X12.here hx rfl (hb hby d2_24) rfl ?_
    show Steps p.tables e below (T12.setTop (mkF m 25 #[.val (.int (7 : Int32)), .val (.ref b1_0), .val (.int (7 : Int32)), .val (.int (4 : Int32)), .val (.ref w_SETTLED)] [(.int (7 : Int32)), (.int (5 : Int32))])) _
    refine XS.icmpYes X12.here hx rfl (pc0 := 25) (pc' := 31) rfl (hb hby d2_25) rfl (feq (by decide : ¬ ((5 : Int32) = (7 : Int32)))).2 (by decide) (by decide) ?_
    show Steps p.tables e below (T12.setTop (mkF m 31 #[.val (.int (7 : Int32)), .val (.ref b1_0), .val (.int (7 : Int32)), .val (.int (4 : Int32)), .val (.ref w_SETTLED)] [])) _
    refine XS.iinc X12.here hx rfl (hb hby d2_31) rfl (l' := #[.val (.int (7 : Int32)), .val (.ref b1_0), .val (.int (7 : Int32)), .val (.int ((4 : Int32) + (1 : Int32))), .val (.ref w_SETTLED)]) rfl ?_
    rw [show ((4 : Int32) + (1 : Int32)) = (5 : Int32) from by decide]
    show Steps p.tables e below (T12.setTop (mkF m 34 #[.val (.int (7 : Int32)), .val (.ref b1_0), .val (.int (7 : Int32)), .val (.int (5 : Int32)), .val (.ref w_SETTLED)] [])) _
    refine XS.goto X12.here hx rfl (pc0 := 34) (pc' := 9) rfl (hb hby d2_34) (by decide) (by decide) ?_
    show Steps p.tables e below (T12.setTop (mkF m 9 #[.val (.int (7 : Int32)), .val (.ref b1_0), .val (.int (7 : Int32)), .val (.int (5 : Int32)), .val (.ref w_SETTLED)] [])) _
    refine XS.iloadN X12.here hx rfl (hb hby d2_9) rfl ?_
    show Steps p.tables e below (T12.setTop (mkF m 10 #[.val (.int (7 : Int32)), .val (.ref b1_0), .val (.int (7 : Int32)), .val (.int (5 : Int32)), .val (.ref w_SETTLED)] [(.int (5 : Int32))])) _
    refine XS.iloadN X12.here hx rfl (hb hby d2_10) rfl ?_
    show Steps p.tables e below (T12.setTop (mkF m 11 #[.val (.int (7 : Int32)), .val (.ref b1_0), .val (.int (7 : Int32)), .val (.int (5 : Int32)), .val (.ref w_SETTLED)] [(.int (7 : Int32)), (.int (5 : Int32))])) _
    refine XS.icmpNo X12.here hx rfl (hb hby d2_11) rfl (tlt (by decide : (5 : Int32) < (7 : Int32))).2.1 ?_
    show Steps p.tables e below (T12.setTop (mkF m 14 #[.val (.int (7 : Int32)), .val (.ref b1_0), .val (.int (7 : Int32)), .val (.int (5 : Int32)), .val (.ref w_SETTLED)] [])) _
    refine XS.aloadN X12.here hx rfl (hb hby d2_14) rfl rfl ?_
    show Steps p.tables e below (T12.setTop (mkF m 15 #[.val (.int (7 : Int32)), .val (.ref b1_0), .val (.int (7 : Int32)), .val (.int (5 : Int32)), .val (.ref w_SETTLED)] [(.ref b1_0)])) _
    refine XS.iloadN X12.here hx rfl (hb hby d2_15) rfl ?_
    show Steps p.tables e below (T12.setTop (mkF m 16 #[.val (.int (7 : Int32)), .val (.ref b1_0), .val (.int (7 : Int32)), .val (.int (5 : Int32)), .val (.ref w_SETTLED)] [(.int (5 : Int32)), (.ref b1_0)])) _
    refine X12.aaload hx (j := (5 : Int32)) (v := (.ref w_CHECKED)) (by rw [e12]; exact aA13.1) (State.isArrayOf_alike hZ.alike aA13.2.1) rfl aA13.2.2 (inb_of aS13 ⟨by decide, by decide⟩) (aH13.at (inb_of aS13 ⟨by decide, by decide⟩) rfl) (g := (mkF m 16 #[.val (.int (7 : Int32)), .val (.ref b1_0), .val (.int (7 : Int32)), .val (.int (5 : Int32)), .val (.ref w_SETTLED)] [(.int (5 : Int32)), (.ref b1_0)])) rfl rfl (hb hby d2_16) _ ?_
    show Steps p.tables e below (T12.setTop (mkF m 17 #[.val (.int (7 : Int32)), .val (.ref b1_0), .val (.int (7 : Int32)), .val (.int (5 : Int32)), .val (.ref w_SETTLED)] [(.ref w_CHECKED)])) _
    refine XS.astore X12.here hx rfl (hb hby d2_17) rfl rfl (l' := #[.val (.int (7 : Int32)), .val (.ref b1_0), .val (.int (7 : Int32)), .val (.int (5 : Int32)), .val (.ref w_CHECKED)]) rfl ?_
    show Steps p.tables e below (T12.setTop (mkF m 19 #[.val (.int (7 : Int32)), .val (.ref b1_0), .val (.int (7 : Int32)), .val (.int (5 : Int32)), .val (.ref w_CHECKED)] [])) _
    refine XS.aload X12.here hx rfl (hb hby d2_19) rfl rfl ?_
    show Steps p.tables e below (T12.setTop (mkF m 21 #[.val (.int (7 : Int32)), .val (.ref b1_0), .val (.int (7 : Int32)), .val (.int (5 : Int32)), .val (.ref w_CHECKED)] [(.ref w_CHECKED)])) _
    refine st14 _ ?_
    show Steps p.tables e below (T14.setTop (mkF m 24 #[.val (.int (7 : Int32)), .val (.ref b1_0), .val (.int (7 : Int32)), .val (.int (5 : Int32)), .val (.ref w_CHECKED)] [(.int (6 : Int32))])) _
    refine XS.iloadN X14.here hx rfl (hb hby d2_24) rfl ?_
    show Steps p.tables e below (T14.setTop (mkF m 25 #[.val (.int (7 : Int32)), .val (.ref b1_0), .val (.int (7 : Int32)), .val (.int (5 : Int32)), .val (.ref w_CHECKED)] [(.int (7 : Int32)), (.int (6 : Int32))])) _
    refine XS.icmpYes X14.here hx rfl (pc0 := 25) (pc' := 31) rfl (hb hby d2_25) rfl (feq (by decide : ¬ ((6 : Int32) = (7 : Int32)))).2 (by decide) (by decide) ?_
    show Steps p.tables e below (T14.setTop (mkF m 31 #[.val (.int (7 : Int32)), .val (.ref b1_0), .val (.int (7 : Int32)), .val (.int (5 : Int32)), .val (.ref w_CHECKED)] [])) _
    refine XS.iinc X14.here hx rfl (hb hby d2_31) rfl (l' := #[.val (.int (7 : Int32)), .val (.ref b1_0), .val (.int (7 : Int32)), .val (.int ((5 : Int32) + (1 : Int32))), .val (.ref w_CHECKED)]) rfl ?_
    rw [show ((5 : Int32) + (1 : Int32)) = (6 : Int32) from by decide]
    show Steps p.tables e below (T14.setTop (mkF m 34 #[.val (.int (7 : Int32)), .val (.ref b1_0), .val (.int (7 : Int32)), .val (.int (6 : Int32)), .val (.ref w_CHECKED)] [])) _
    refine XS.goto X14.here hx rfl (pc0 := 34) (pc' := 9) rfl (hb hby d2_34) (by decide) (by decide) ?_
    show Steps p.tables e below (T14.setTop (mkF m 9 #[.val (.int (7 : Int32)), .val (.ref b1_0), .val (.int (7 : Int32)), .val (.int (6 : Int32)), .val (.ref w_CHECKED)] [])) _
    refine XS.iloadN X14.here hx rfl (hb hby d2_9) rfl ?_
    show Steps p.tables e below (T14.setTop (mkF m 10 #[.val (.int (7 : Int32)), .val (.ref b1_0), .val (.int (7 : Int32)), .val (.int (6 : Int32)), .val (.ref w_CHECKED)] [(.int (6 : Int32))])) _
    refine XS.iloadN X14.here hx rfl (hb hby d2_10) rfl ?_
    show Steps p.tables e below (T14.setTop (mkF m 11 #[.val (.int (7 : Int32)), .val (.ref b1_0), .val (.int (7 : Int32)), .val (.int (6 : Int32)), .val (.ref w_CHECKED)] [(.int (7 : Int32)), (.int (6 : Int32))])) _
    refine XS.icmpNo X14.here hx rfl (hb hby d2_11) rfl (tlt (by decide : (6 : Int32) < (7 : Int32))).2.1 ?_
    show Steps p.tables e below (T14.setTop (mkF m 14 #[.val (.int (7 : Int32)), .val (.ref b1_0), .val (.int (7 : Int32)), .val (.int (6 : Int32)), .val (.ref w_CHECKED)] [])) _
    refine XS.aloadN X14.here hx rfl (hb hby d2_14) rfl rfl ?_
    show Steps p.tables e below (T14.setTop (mkF m 15 #[.val (.int (7 : Int32)), .val (.ref b1_0), .val (.int (7 : Int32)), .val (.int (6 : Int32)), .val (.ref w_CHECKED)] [(.ref b1_0)])) _
    refine XS.iloadN X14.here hx rfl (hb hby d2_15) rfl ?_
    show Steps p.tables e below (T14.setTop (mkF m 16 #[.val (.int (7 : Int32)), .val (.ref b1_0), .val (.int (7 : Int32)), .val (.int (6 : Int32)), .val (.ref w_CHECKED)] [(.int (6 : Int32)), (.ref b1_0)])) _
    refine X14.aaload hx (j := (6 : Int32)) (v := (.ref w_PARKED)) (by rw [e14]; exact aA15.1) (State.isArrayOf_alike hZ.alike aA15.2.1) rfl aA15.2.2 (inb_of aS15 ⟨by decide, by decide⟩) (aH15.at (inb_of aS15 ⟨by decide, by decide⟩) rfl) (g := (mkF m 16 #[.val (.int (7 : Int32)), .val (.ref b1_0), .val (.int (7 : Int32)), .val (.int (6 : Int32)), .val (.ref w_CHECKED)] [(.int (6 : Int32)), (.ref b1_0)])) rfl rfl (hb hby d2_16) _ ?_
    show Steps p.tables e below (T14.setTop (mkF m 17 #[.val (.int (7 : Int32)), .val (.ref b1_0), .val (.int (7 : Int32)), .val (.int (6 : Int32)), .val (.ref w_CHECKED)] [(.ref w_PARKED)])) _
    refine XS.astore X14.here hx rfl (hb hby d2_17) rfl rfl (l' := #[.val (.int (7 : Int32)), .val (.ref b1_0), .val (.int (7 : Int32)), .val (.int (6 : Int32)), .val (.ref w_PARKED)]) rfl ?_
    show Steps p.tables e below (T14.setTop (mkF m 19 #[.val (.int (7 : Int32)), .val (.ref b1_0), .val (.int (7 : Int32)), .val (.int (6 : Int32)), .val (.ref w_PARKED)] [])) _
    refine XS.aload X14.here hx rfl (hb hby d2_19) rfl rfl ?_
    show Steps p.tables e below (T14.setTop (mkF m 21 #[.val (.int (7 : Int32)), .val (.ref b1_0), .val (.int (7 : Int32)), .val (.int (6 : Int32)), .val (.ref w_PARKED)] [(.ref w_PARKED)])) _
    refine st16 _ ?_
    show Steps p.tables e below (T16.setTop (mkF m 24 #[.val (.int (7 : Int32)), .val (.ref b1_0), .val (.int (7 : Int32)), .val (.int (6 : Int32)), .val (.ref w_PARKED)] [(.int (7 : Int32))])) _
    refine XS.iloadN X16.here hx rfl (hb hby d2_24) rfl ?_
    show Steps p.tables e below (T16.setTop (mkF m 25 #[.val (.int (7 : Int32)), .val (.ref b1_0), .val (.int (7 : Int32)), .val (.int (6 : Int32)), .val (.ref w_PARKED)] [(.int (7 : Int32)), (.int (7 : Int32))])) _
    refine XS.icmpNo X16.here hx rfl (hb hby d2_25) rfl (teq (by decide : (7 : Int32) = (7 : Int32))).2 ?_
    show Steps p.tables e below (T16.setTop (mkF m 28 #[.val (.int (7 : Int32)), .val (.ref b1_0), .val (.int (7 : Int32)), .val (.int (6 : Int32)), .val (.ref w_PARKED)] [])) _
    refine XS.aload X16.here hx rfl (hb hby d2_28) rfl rfl ?_
    show Steps p.tables e below (T16.setTop (mkF m 30 #[.val (.int (7 : Int32)), .val (.ref b1_0), .val (.int (7 : Int32)), .val (.int (6 : Int32)), .val (.ref w_PARKED)] [(.ref w_PARKED)])) _
    jvm_step X16.here [X16.here.top, hx, (hb hby d2_30), X16.method', Bd.returns, Value.isRef, FieldType.isReference]
    first | (intro acts; rw [hr _ acts rfl rfl rfl]) | rw [hr _ _ rfl rfl rfl]
    exact Steps.refl _
  · have eH : (T16.setFrames fs).heap = T1.heap := e16; rw [eH]; exact ⟨rfl, N1, KK1, O1, trivial⟩
def Q4_27 (Z : State) (w_ACK : Addr) (w__VALUES : Addr) (w_GROUP : Addr) (w_OPENED : Addr) (w_PUT : Addr) (w_SETTLED : Addr) (w_CHECKED : Addr) (w_PARKED : Addr) (cl_w__VALUES : Cell) (h0 : Heap) (n0 : Nat) (v : Option Value) (h : Heap) (L : List Loc) : Prop := v = some (.int (7 : Int32)) ∧ Fr n0 L ∧ h = h0
set_option maxRecDepth 65536 in
set_option maxHeartbeats 40000000 in
theorem rm4_27 (l : Launch) (Z : State) (a0 : Array Value) (hw : ∀ d ∈ tables_1, d.before a0 Z = true) (ws : List Jvm.Cond) (w_ACK : Addr) (w__VALUES : Addr) (w_GROUP : Addr) (w_OPENED : Addr) (w_PUT : Addr) (w_SETTLED : Addr) (w_CHECKED : Addr) (w_PARKED : Addr) (cl_w__VALUES : Cell) (h0 : Heap) (n0 : Nat) (Z0 : n0 ≤ h0.size) (O0 : Old Z n0 h0) (HW : World Z w_ACK w__VALUES w_GROUP w_OPENED w_PUT w_SETTLED w_CHECKED w_PARKED cl_w__VALUES) :
    MetFree l (⟨"com/example/clinch/clinch/broker/NoteKind", "code", "()B"⟩ : MethodName) (head1 (Jvm.Cond.code (⟨"com/example/clinch/clinch/broker/NoteKind", "code", "()B"⟩ : MethodName) prog_7_method_4_code 1 (some .byte) :: ws) ({ frames := 0, cells := 0, slots := 0, locals := 0 } : Room)) (fun a U => a = #[(.ref w_PARKED)] ∧ Z.Warmed39 U.vm ∧ U.heap = h0) (fun _ _ _ _ _ => True) (fun _ U o U' => ∃ v L, o = .returned v ∧ Q4_27 Z w_ACK w__VALUES w_GROUP w_OPENED w_PUT w_SETTLED w_CHECKED w_PARKED cl_w__VALUES h0 n0 v U'.heap L ∧ FrameEnd U o U' L ({ frames := 0, cells := 0, slots := 0, locals := 0 } : Room).cells ({ frames := 0, cells := 0, slots := 0, locals := 0 } : Room).slots) := by
  refine MetFree.of_bodySF (plainFor_of_name pn15) hisR ?_
  intro p e s m args below meth c s₁ Bd hml0 hP hK
  obtain ⟨rfl, hZ, hh⟩ := hP
  have hx := Bd.exec
  have hby := Bd.bytes
  have hml : c.maxLocals = 1 := hml0
  have hown : s.vm.findClass "com/example/clinch/clinch/broker/NoteKind" = some m.cls := findClass_of_methodNamed Bd.named
  have hnm := (name_of_methodNamed Bd.named Bd.method).1
  have X0 : Stand p l e ({ frames := 0, cells := 0, slots := 0, locals := 0 } : Room) s m #[(.ref w_PARKED)] below meth c s₁ [] 0 0 := Stand.of_body Bd
  have e0 : s₁.heap = h0 := by rw [← hh, Bd.state]; rfl
  have N0 := Fr.nil n0
  have pre0 : ∀ t, Steps p.tables e below (s₁.setTop (mkF m 0 #[.val (.ref w_PARKED)] [])) t → Steps p.tables e below (s₁.setTop (entryFrame m #[(.ref w_PARKED)] 1)) t := fun t k => castTop (ef44 m w_PARKED) k
  obtain ⟨S_w_ACK, E_w_ACK, S_w__VALUES, E_w__VALUES, S_w_GROUP, E_w_GROUP, S_w_OPENED, E_w_OPENED, S_w_PUT, E_w_PUT, S_w_SETTLED, E_w_SETTLED, S_w_CHECKED, E_w_CHECKED, S_w_PARKED, E_w_PARKED, F_code_w_ACK, F_code_w_GROUP, F_code_w_OPENED, F_code_w_PUT, F_code_w_SETTLED, F_code_w_CHECKED, F_code_w_PARKED, Ar_w__VALUES, Sz_w__VALUES, At_w__VALUES_0, At_w__VALUES_1, At_w__VALUES_2, At_w__VALUES_3, At_w__VALUES_4, At_w__VALUES_5, At_w__VALUES_6, ne_w_ACK_w_GROUP, ne_w_ACK_w_OPENED, ne_w_ACK_w_PUT, ne_w_ACK_w_SETTLED, ne_w_ACK_w_CHECKED, ne_w_ACK_w_PARKED, ne_w_GROUP_w_OPENED, ne_w_GROUP_w_PUT, ne_w_GROUP_w_SETTLED, ne_w_GROUP_w_CHECKED, ne_w_GROUP_w_PARKED, ne_w_OPENED_w_PUT, ne_w_OPENED_w_SETTLED, ne_w_OPENED_w_CHECKED, ne_w_OPENED_w_PARKED, ne_w_PUT_w_SETTLED, ne_w_PUT_w_CHECKED, ne_w_PUT_w_PARKED, ne_w_SETTLED_w_CHECKED, ne_w_SETTLED_w_PARKED, ne_w_CHECKED_w_PARKED, V_w__VALUES, -⟩ := id HW
  obtain ⟨T1, X1, e1, st1⟩ := getF X0 hx hZ hown (host := "") (Or.inl (hw _ (List.mem_of_getElem? (i := 32) rfl))) Via.refl e0 (F_code_w_PARKED.ext O0.2) (g := (mkF m 1 #[.val (.ref w_PARKED)] [(.ref w_PARKED)])) rfl rfl (hb hby d4_1)
  obtain ⟨fs, hr, hrun, hended, hW, hsame⟩ := X1.leave (v := some (.int (7 : Int32))) (fun h => by rw [Bd.returns] at h; cases h)
  refine ⟨_, _, pre0 _ ?_, hrun, hended, _, _, rfl, ?_, ⟨_, rfl⟩, hW, hsame.mono (by decide) (by decide)⟩
  · show Steps p.tables e below (s₁.setTop (mkF m 0 #[.val (.ref w_PARKED)] [])) _
    refine XS.aloadN X0.here hx rfl (hb hby d4_0) rfl rfl ?_
    show Steps p.tables e below (s₁.setTop (mkF m 1 #[.val (.ref w_PARKED)] [(.ref w_PARKED)])) _
    refine st1 _ ?_
    show Steps p.tables e below (T1.setTop (mkF m 4 #[.val (.ref w_PARKED)] [(.int (7 : Int32))])) _
    exact retN X1 hx (t := .byte) Bd.returns (by simp) (hb hby d4_4) hr
  · exact ⟨rfl, N0, e1⟩
set_option maxRecDepth 65536 in
set_option maxHeartbeats 40000000 in
theorem rm0_c6 (l : Launch) (Z : State) (a0 : Array Value) (hw : ∀ d ∈ tables_1, d.before a0 Z = true) (ws : List Jvm.Cond) (w_ACK : Addr) (w__VALUES : Addr) (w_GROUP : Addr) (w_OPENED : Addr) (w_PUT : Addr) (w_SETTLED : Addr) (w_CHECKED : Addr) (w_PARKED : Addr) (cl_w__VALUES : Cell) (p1 : Int32) (h0 : Heap) (n0 : Nat) (Z0 : n0 ≤ h0.size) (O0 : Old Z n0 h0) (HW : World Z w_ACK w__VALUES w_GROUP w_OPENED w_PUT w_SETTLED w_CHECKED w_PARKED cl_w__VALUES) (hk : ((p1 &&& (2147483647 : Int32)) % (7 : Int32)) = (6 : Int32)) :
    MetFree l x (head1 (Jvm.Cond.code x code maxLocals ret :: ws) room_1) (fun a U => a = #[(.int p1)] ∧ Z.Warmed39 U.vm ∧ U.heap = h0) (fun _ _ _ _ _ => True) (fun _ U o U' => ∃ v L, o = .returned v ∧ Q0 h0 n0 v U'.heap L ∧ FrameEnd U o U' L room_1.cells room_1.slots) := by
  refine MetFree.of_bodySF (plainFor_of_name pn7) hisR ?_
  intro p e s m args below meth c s₁ Bd hml0 hP hK
  obtain ⟨rfl, hZ, hh⟩ := hP
  have hx := Bd.exec
  have hby := Bd.bytes
  have hml : c.maxLocals = 4 := hml0
  have hown : s.vm.findClass "com/example/clinch/clinch/broker/NoteKindOfPinLaw" = some m.cls := findClass_of_methodNamed Bd.named
  have hnm := (name_of_methodNamed Bd.named Bd.method).1
  have X0 : Stand p l e room_1 s m #[(.int p1)] below meth c s₁ [] 0 0 := Stand.of_body Bd
  have e0 : s₁.heap = h0 := by rw [← hh, Bd.state]; rfl
  have N0 := Fr.nil n0
  have pre0 : ∀ t, Steps p.tables e below (s₁.setTop (mkF m 0 #[.val (.int p1), .unset, .unset, .unset] [])) t → Steps p.tables e below (s₁.setTop (entryFrame m #[(.int p1)] maxLocals)) t := fun t k => castTop (ef47 m p1) k
  obtain ⟨S_w_ACK, E_w_ACK, S_w__VALUES, E_w__VALUES, S_w_GROUP, E_w_GROUP, S_w_OPENED, E_w_OPENED, S_w_PUT, E_w_PUT, S_w_SETTLED, E_w_SETTLED, S_w_CHECKED, E_w_CHECKED, S_w_PARKED, E_w_PARKED, F_code_w_ACK, F_code_w_GROUP, F_code_w_OPENED, F_code_w_PUT, F_code_w_SETTLED, F_code_w_CHECKED, F_code_w_PARKED, Ar_w__VALUES, Sz_w__VALUES, At_w__VALUES_0, At_w__VALUES_1, At_w__VALUES_2, At_w__VALUES_3, At_w__VALUES_4, At_w__VALUES_5, At_w__VALUES_6, ne_w_ACK_w_GROUP, ne_w_ACK_w_OPENED, ne_w_ACK_w_PUT, ne_w_ACK_w_SETTLED, ne_w_ACK_w_CHECKED, ne_w_ACK_w_PARKED, ne_w_GROUP_w_OPENED, ne_w_GROUP_w_PUT, ne_w_GROUP_w_SETTLED, ne_w_GROUP_w_CHECKED, ne_w_GROUP_w_PARKED, ne_w_OPENED_w_PUT, ne_w_OPENED_w_SETTLED, ne_w_OPENED_w_CHECKED, ne_w_OPENED_w_PARKED, ne_w_PUT_w_SETTLED, ne_w_PUT_w_CHECKED, ne_w_PUT_w_PARKED, ne_w_SETTLED_w_CHECKED, ne_w_SETTLED_w_PARKED, ne_w_CHECKED_w_PARKED, V_w__VALUES, -⟩ := id HW
  obtain ⟨_, _, ⟨T1, L1, k1, n1⟩, -, X1, ⟨Lc1, hQ1, l1, y1, z1⟩, st1⟩ := Jvm.LawKit.callS X0 hx (y := (⟨"com/example/clinch/clinch/broker/NoteKindOfPinLaw", "expected", "(I)Lcom/example/clinch/clinch/broker/NoteKind;"⟩ : MethodName)) hown (mvT hZ (hw _ (List.mem_of_getElem? (i := 1) rfl))) (mvT hZ (hw _ (List.mem_of_getElem? (i := 2) rfl))) (mvT hZ (hw _ (List.mem_of_getElem? (i := 3) rfl))) (mvT hZ (hw _ (List.mem_of_getElem? (i := 4) rfl))) (by decide) (backOf (W := 0) (rm1_25 l Z a0 hw [] w_ACK w__VALUES w_GROUP w_OPENED w_PUT w_SETTLED w_CHECKED w_PARKED cl_w__VALUES h0 n0 (own_n0 O0) O0 HW) hZ (hw _ (List.mem_of_getElem? (i := 4) rfl)) (hw _ (List.mem_of_getElem? (i := 3) rfl)) (by decide) (by decide)) (g := (mkF m 11 #[.val (.int p1), .val (.int (7 : Int32)), .unset, .unset] [(.int (7 : Int32))])) rfl (by rw [hml]; rfl) (argsL := [(.int (7 : Int32))]) (rest := []) (lenOf pd8 rfl) rfl (by show 2 * 0 + _ ≤ _; exact Nat.le_of_eq rfl) (hb hby at_11) (fun _ _ => ⟨rfl, e0, (by decide : 0 + 0 ≤ _), (by decide : 0 + 0 ≤ _)⟩)
  dsimp only [Pt.U, Pt.locs, Pt.cells, Pt.slots] at X1 l1 y1 z1 st1 hQ1
  subst l1 y1 z1
  obtain ⟨rfl, N1q, e1⟩ := hQ1
  have N1 := Fr.app N0 N1q
  obtain ⟨_, _, ⟨T2, L2, k2, n2⟩, -, X2, ⟨Lc2, hQ2, l2, y2, z2⟩, st2⟩ := Jvm.LawKit.callS X1 hx (y := (⟨"com/example/clinch/clinch/broker/NoteKind", "of", "(B)Lcom/example/clinch/clinch/broker/NoteKind;"⟩ : MethodName)) hown (mvT hZ (hw _ (List.mem_of_getElem? (i := 8) rfl))) (mvT hZ (hw _ (List.mem_of_getElem? (i := 9) rfl))) (mvT hZ (hw _ (List.mem_of_getElem? (i := 6) rfl))) (mvT hZ (hw _ (List.mem_of_getElem? (i := 10) rfl))) (by decide) (backOf (W := 0) (rm2_26 l Z a0 hw [] w_ACK w__VALUES w_GROUP w_OPENED w_PUT w_SETTLED w_CHECKED w_PARKED cl_w__VALUES h0 n0 (own_n0 O0) O0 HW) hZ (hw _ (List.mem_of_getElem? (i := 10) rfl)) (hw _ (List.mem_of_getElem? (i := 6) rfl)) (by decide) (by decide)) (g := (mkF m 17 #[.val (.int p1), .val (.int (7 : Int32)), .val (.ref w_PARKED), .unset] [(.int (7 : Int32))])) rfl (by rw [hml]; rfl) (argsL := [(.int (7 : Int32))]) (rest := []) (lenOf pd39 rfl) rfl (by show 2 * 0 + _ ≤ _; exact Nat.le_of_eq rfl) (hb hby at_17) (fun _ _ => ⟨rfl, e1, (by decide : 0 + 1 ≤ _), (by decide : 0 + 7 ≤ _)⟩)
  dsimp only [Pt.U, Pt.locs, Pt.cells, Pt.slots] at X2 l2 y2 z2 st2 hQ2
  subst l2 y2 z2
  obtain ⟨rfl, N2q, K2, O2, -⟩ := hQ2
  have N2 := Fr.app N1 N2q
  obtain ⟨cq3, kq3, q3a, q3b, q3c⟩ := isOf hZ rfl (E_w_PARKED.ext O2.2)
  obtain ⟨_, _, ⟨T3, L3, k3, n3⟩, -, X3, ⟨Lc3, hQ3, l3, y3, z3⟩, st3⟩ := X2.virtualBack hx (y := (⟨"com/example/clinch/clinch/broker/NoteKind", "code", "()B"⟩ : MethodName)) (z := (⟨"com/example/clinch/clinch/broker/NoteKind", "code", "()B"⟩ : MethodName)) hown (mvT hZ (hw _ (List.mem_of_getElem? (i := 34) rfl))) (mvT hZ (hw _ (List.mem_of_getElem? (i := 35) rfl))) (notFace_of_selects (args := #[]) (mvT hZ (hw _ (List.mem_of_getElem? (i := 37) rfl)))) (mvT hZ (hw _ (List.mem_of_getElem? (i := 37) rfl))) (mvT hZ (hw _ (List.mem_of_getElem? (i := 36) rfl))) (by decide) (backOf (W := 0) (rm4_27 l Z a0 hw [] w_ACK w__VALUES w_GROUP w_OPENED w_PUT w_SETTLED w_CHECKED w_PARKED cl_w__VALUES T2.heap n0 (own_n0 O2) O2 HW) hZ (hw _ (List.mem_of_getElem? (i := 38) rfl)) (hw _ (List.mem_of_getElem? (i := 6) rfl)) (by decide) (by decide)) q3a q3c (g := (mkF m 27 #[.val (.int p1), .val (.int (7 : Int32)), .val (.ref w_PARKED), .val (.ref w_PARKED)] [(.ref w_PARKED)])) rfl (by rw [hml]; rfl) (Steps.refl _) (argsL := []) (rest := []) (lenOf pd45 rfl) rfl (by show 2 * 0 + _ ≤ _; exact Nat.le_of_eq rfl) (hb hby at_27) (fun _ _ => ⟨rfl, rfl, (by decide : 1 + 0 ≤ _), (by decide : 7 + 0 ≤ _)⟩)
  dsimp only [Pt.U, Pt.locs, Pt.cells, Pt.slots] at X3 l3 y3 z3 st3 hQ3
  subst l3 y3 z3
  obtain ⟨rfl, N3q, e3⟩ := hQ3
  have N3 := Fr.app N2 N3q
  obtain ⟨fs, hr, hrun, hended, hW, hsame⟩ := X3.leave (v := some (.int (1 : Int32))) (fun h => by rw [Bd.returns] at h; cases h)
  refine ⟨_, _, pre0 _ ?_, hrun, hended, _, _, rfl, ?_, ⟨_, rfl⟩, hW, hsame.mono (by decide) (by decide)⟩
  · show Steps p.tables e below (s₁.setTop (mkF m 0 #[.val (.int p1), .unset, .unset, .unset] [])) _
    refine XS.iloadN X0.here hx rfl (hb hby at_0) rfl ?_
    show Steps p.tables e below (s₁.setTop (mkF m 1 #[.val (.int p1), .unset, .unset, .unset] [(.int p1)])) _
    refine X0.ldcInt hx hown (mvT hZ (hw _ (List.mem_of_getElem? (i := 0) rfl))) (g := (mkF m 1 #[.val (.int p1), .unset, .unset, .unset] [(.int p1)])) rfl (hb hby at_1) _ ?_
    show Steps p.tables e below (s₁.setTop (mkF m 3 #[.val (.int p1), .unset, .unset, .unset] [(.int (2147483647 : Int32)), (.int p1)])) _
    refine XS.iand X0.here hx rfl (hb hby at_3) rfl ?_
    show Steps p.tables e below (s₁.setTop (mkF m 4 #[.val (.int p1), .unset, .unset, .unset] [(.int (p1 &&& (2147483647 : Int32)))])) _
    refine XS.bipush X0.here hx rfl (hb hby at_4) ?_
    show Steps p.tables e below (s₁.setTop (mkF m 6 #[.val (.int p1), .unset, .unset, .unset] [(.int (7 : Int32)), (.int (p1 &&& (2147483647 : Int32)))])) _
    refine iremM X0 hx rfl (hb hby at_6) rfl (by decide) ?_
    rw [hk]
    show Steps p.tables e below (s₁.setTop (mkF m 7 #[.val (.int p1), .unset, .unset, .unset] [(.int (6 : Int32))])) _
    refine XS.iconst X0.here hx rfl (hb hby at_7) ?_
    show Steps p.tables e below (s₁.setTop (mkF m 8 #[.val (.int p1), .unset, .unset, .unset] [(.int (1 : Int32)), (.int (6 : Int32))])) _
    refine XS.iadd X0.here hx rfl (hb hby at_8) rfl ?_
    rw [show ((6 : Int32) + (1 : Int32)) = (7 : Int32) from by decide]
    show Steps p.tables e below (s₁.setTop (mkF m 9 #[.val (.int p1), .unset, .unset, .unset] [(.int (7 : Int32))])) _
    refine XS.istoreN X0.here hx rfl (hb hby at_9) rfl (l' := #[.val (.int p1), .val (.int (7 : Int32)), .unset, .unset]) rfl ?_
    show Steps p.tables e below (s₁.setTop (mkF m 10 #[.val (.int p1), .val (.int (7 : Int32)), .unset, .unset] [])) _
    refine XS.iloadN X0.here hx rfl (hb hby at_10) rfl ?_
    show Steps p.tables e below (s₁.setTop (mkF m 11 #[.val (.int p1), .val (.int (7 : Int32)), .unset, .unset] [(.int (7 : Int32))])) _
    refine st1 _ ?_
    show Steps p.tables e below (T1.setTop (mkF m 14 #[.val (.int p1), .val (.int (7 : Int32)), .unset, .unset] [(.ref w_PARKED)])) _
    refine XS.astoreN X1.here hx rfl (hb hby at_14) rfl rfl (l' := #[.val (.int p1), .val (.int (7 : Int32)), .val (.ref w_PARKED), .unset]) rfl ?_
    show Steps p.tables e below (T1.setTop (mkF m 15 #[.val (.int p1), .val (.int (7 : Int32)), .val (.ref w_PARKED), .unset] [])) _
    refine XS.iloadN X1.here hx rfl (hb hby at_15) rfl ?_
    show Steps p.tables e below (T1.setTop (mkF m 16 #[.val (.int p1), .val (.int (7 : Int32)), .val (.ref w_PARKED), .unset] [(.int (7 : Int32))])) _
    refine XS.i2b X1.here hx rfl (hb hby at_16) rfl ?_
    rw [show ((7 : Int32).toInt8.toInt32) = (7 : Int32) from by decide]
    show Steps p.tables e below (T1.setTop (mkF m 17 #[.val (.int p1), .val (.int (7 : Int32)), .val (.ref w_PARKED), .unset] [(.int (7 : Int32))])) _
    refine st2 _ ?_
    show Steps p.tables e below (T2.setTop (mkF m 20 #[.val (.int p1), .val (.int (7 : Int32)), .val (.ref w_PARKED), .unset] [(.ref w_PARKED)])) _
    refine XS.astoreN X2.here hx rfl (hb hby at_20) rfl rfl (l' := #[.val (.int p1), .val (.int (7 : Int32)), .val (.ref w_PARKED), .val (.ref w_PARKED)]) rfl ?_
    show Steps p.tables e below (T2.setTop (mkF m 21 #[.val (.int p1), .val (.int (7 : Int32)), .val (.ref w_PARKED), .val (.ref w_PARKED)] [])) _
    refine XS.aloadN X2.here hx rfl (hb hby at_21) rfl rfl ?_
    show Steps p.tables e below (T2.setTop (mkF m 22 #[.val (.int p1), .val (.int (7 : Int32)), .val (.ref w_PARKED), .val (.ref w_PARKED)] [(.ref w_PARKED)])) _
    refine XS.aloadN X2.here hx rfl (hb hby at_22) rfl rfl ?_
    show Steps p.tables e below (T2.setTop (mkF m 23 #[.val (.int p1), .val (.int (7 : Int32)), .val (.ref w_PARKED), .val (.ref w_PARKED)] [(.ref w_PARKED), (.ref w_PARKED)])) _
    refine Jvm.RoadKit.acmp (g := (mkF m 23 #[.val (.int p1), .val (.int (7 : Int32)), .val (.ref w_PARKED), .val (.ref w_PARKED)] [(.ref w_PARKED), (.ref w_PARKED)])) X2 hx rfl rfl rfl (pc0 := 23) (pc' := 26) (same := true) rfl (hb hby at_23) rfl (decide_eq_true rfl) (by decide) (by decide) ?_
    show Steps p.tables e below (T2.setTop (mkF m 26 #[.val (.int p1), .val (.int (7 : Int32)), .val (.ref w_PARKED), .val (.ref w_PARKED)] [])) _
    refine XS.aloadN X2.here hx rfl (hb hby at_26) rfl rfl ?_
    show Steps p.tables e below (T2.setTop (mkF m 27 #[.val (.int p1), .val (.int (7 : Int32)), .val (.ref w_PARKED), .val (.ref w_PARKED)] [(.ref w_PARKED)])) _
    refine st3.trans ?_
    show Steps p.tables e below (T3.setTop (mkF m 30 #[.val (.int p1), .val (.int (7 : Int32)), .val (.ref w_PARKED), .val (.ref w_PARKED)] [(.int (7 : Int32))])) _
    refine XS.iloadN X3.here hx rfl (hb hby at_30) rfl ?_
    show Steps p.tables e below (T3.setTop (mkF m 31 #[.val (.int p1), .val (.int (7 : Int32)), .val (.ref w_PARKED), .val (.ref w_PARKED)] [(.int (7 : Int32)), (.int (7 : Int32))])) _
    refine XS.i2b X3.here hx rfl (hb hby at_31) rfl ?_
    rw [show ((7 : Int32).toInt8.toInt32) = (7 : Int32) from by decide]
    show Steps p.tables e below (T3.setTop (mkF m 32 #[.val (.int p1), .val (.int (7 : Int32)), .val (.ref w_PARKED), .val (.ref w_PARKED)] [(.int (7 : Int32)), (.int (7 : Int32))])) _
    refine XS.icmpNo X3.here hx rfl (hb hby at_32) rfl (teq (by decide : (7 : Int32) = (7 : Int32))).2 ?_
    show Steps p.tables e below (T3.setTop (mkF m 35 #[.val (.int p1), .val (.int (7 : Int32)), .val (.ref w_PARKED), .val (.ref w_PARKED)] [])) _
    refine XS.iconst X3.here hx rfl (hb hby at_35) ?_
    show Steps p.tables e below (T3.setTop (mkF m 36 #[.val (.int p1), .val (.int (7 : Int32)), .val (.ref w_PARKED), .val (.ref w_PARKED)] [(.int (1 : Int32))])) _
    refine XS.goto X3.here hx rfl (pc0 := 36) (pc' := 40) rfl (hb hby at_36) (by decide) (by decide) ?_
    show Steps p.tables e below (T3.setTop (mkF m 40 #[.val (.int p1), .val (.int (7 : Int32)), .val (.ref w_PARKED), .val (.ref w_PARKED)] [(.int (1 : Int32))])) _
    exact retN X3 hx (t := .boolean) Bd.returns (by simp) (hb hby at_40) hr
  · exact ⟨rfl, N3⟩
theorem rm0_all (l : Launch) (Z : State) (a0 : Array Value) (hw : ∀ d ∈ tables_1, d.before a0 Z = true) (ws : List Jvm.Cond) (w_ACK : Addr) (w__VALUES : Addr) (w_GROUP : Addr) (w_OPENED : Addr) (w_PUT : Addr) (w_SETTLED : Addr) (w_CHECKED : Addr) (w_PARKED : Addr) (cl_w__VALUES : Cell) (p1 : Int32) (h0 : Heap) (n0 : Nat) (Z0 : n0 ≤ h0.size) (O0 : Old Z n0 h0) (HW : World Z w_ACK w__VALUES w_GROUP w_OPENED w_PUT w_SETTLED w_CHECKED w_PARKED cl_w__VALUES) :
    MetFree l x (head1 (Jvm.Cond.code x code maxLocals ret :: ws) room_1) (fun a U => a = #[(.int p1)] ∧ Z.Warmed39 U.vm ∧ U.heap = h0) (fun _ _ _ _ _ => True) (fun _ U o U' => ∃ v L, o = .returned v ∧ Q0 h0 n0 v U'.heap L ∧ FrameEnd U o U' L room_1.cells room_1.slots) := by
  rcases own_rem p1 with hk | hk | hk | hk | hk | hk | hk
  · skip
    exact rm0_c0 l Z a0 hw ws w_ACK w__VALUES w_GROUP w_OPENED w_PUT w_SETTLED w_CHECKED w_PARKED cl_w__VALUES p1 h0 n0 Z0 O0 HW hk
  · skip
    exact rm0_c1 l Z a0 hw ws w_ACK w__VALUES w_GROUP w_OPENED w_PUT w_SETTLED w_CHECKED w_PARKED cl_w__VALUES p1 h0 n0 Z0 O0 HW hk
  · skip
    exact rm0_c2 l Z a0 hw ws w_ACK w__VALUES w_GROUP w_OPENED w_PUT w_SETTLED w_CHECKED w_PARKED cl_w__VALUES p1 h0 n0 Z0 O0 HW hk
  · skip
    exact rm0_c3 l Z a0 hw ws w_ACK w__VALUES w_GROUP w_OPENED w_PUT w_SETTLED w_CHECKED w_PARKED cl_w__VALUES p1 h0 n0 Z0 O0 HW hk
  · skip
    exact rm0_c4 l Z a0 hw ws w_ACK w__VALUES w_GROUP w_OPENED w_PUT w_SETTLED w_CHECKED w_PARKED cl_w__VALUES p1 h0 n0 Z0 O0 HW hk
  · skip
    exact rm0_c5 l Z a0 hw ws w_ACK w__VALUES w_GROUP w_OPENED w_PUT w_SETTLED w_CHECKED w_PARKED cl_w__VALUES p1 h0 n0 Z0 O0 HW hk
  · skip
    exact rm0_c6 l Z a0 hw ws w_ACK w__VALUES w_GROUP w_OPENED w_PUT w_SETTLED w_CHECKED w_PARKED cl_w__VALUES p1 h0 n0 Z0 O0 HW hk
set_option maxRecDepth 65536 in
set_option maxHeartbeats 40000000 in
theorem comes_1 {Post : Tables → Env → Array Value → State → Outcome → State → Prop} (hpost : ∀ tb e args s v u, (limb_1_1.after args s (.returned v) u = true ∧ limb_1_2.after args s (.returned v) u = true ∧ True) → FrameEnd s (.returned v) u (Jvm.fieldLocs frame_1_writes args s ++ Jvm.arrayLocs frame_1_arrays args s ++ Jvm.staticLocs frame_1_statics s) 16 128 → Post tb e args s (.returned v) u) :
    ArmFor flags0 classFile x code maxLocals ret World_1 tables_1 room_1 Calls_1 rest_1 Pre_1 Post := by
  intro l hfl _ _ p e ha hc hk s m args below hf hA hF happ hP
  obtain ⟨hcalls, hrest, hpre⟩ := hP
  obtain ⟨-, -, -, hnamed, -, -, -, hat⟩ := (Spec.applies_iff hf).mp happ
  obtain ⟨hg, hn⟩ := and_e (Cond.before_iff.mp (show (Jvm.Cond.and given_1 narrow_1).before args s = true from hpre))
  obtain ⟨hg1a, hg1b⟩ := and_e hg
  obtain ⟨w0, rfl⟩ : ∃ w0 : Value, args = #[w0] := by
    have hs : args.size = 1 := by simpa [Cond.value, given_1] using hg1a
    obtain ⟨L⟩ := args
    match L, hs with
    | [w0], _ => exact ⟨w0, rfl⟩
  have hw := fun d (hd : d ∈ tables_1) => atoms_spec (ws := Jvm.Cond.code x code maxLocals ret :: tables_1) hat d (List.mem_cons_of_mem _ hd)
  have hfit : Fit s := fun {y c} hc i hi => by
    obtain ⟨ha, rfl⟩ := Array.getElem?_eq_some_iff.mp hc
    have q := List.all_eq_true.mp ((Array.all_eq_true_iff_forall_mem.mp hF) _ (Array.getElem_mem ha)) i (List.mem_range.mpr hi)
    simpa [Array.getElem?_eq_getElem hi] using q
  obtain ⟨i0, ei0⟩ := is_v hg1b
  obtain rfl : w0 = (.int i0) := Option.some.inj ei0
  obtain ⟨hn1a, hn1b⟩ := and_e hn
  obtain ⟨hn2a, hn2b⟩ := and_e hn1b
  obtain ⟨hn3a, hn3b⟩ := and_e hn2b
  obtain ⟨hn4a, hn4b⟩ := and_e hn3b
  obtain ⟨hn5a, hn5b⟩ := and_e hn4b
  obtain ⟨hn6a, hn6b⟩ := and_e hn5b
  obtain ⟨hn7a, hn7b⟩ := and_e hn6b
  obtain ⟨hn8a, hn8b⟩ := and_e hn7b
  obtain ⟨hn9a, hn9b⟩ := and_e hn8b
  obtain ⟨hn10a, hn10b⟩ := and_e hn9b
  obtain ⟨hn11a, hn11b⟩ := and_e hn10b
  obtain ⟨hn12a, hn12b⟩ := and_e hn11b
  obtain ⟨hn13a, hn13b⟩ := and_e hn12b
  obtain ⟨hn14a, hn14b⟩ := and_e hn13b
  obtain ⟨hn15a, hn15b⟩ := and_e hn14b
  obtain ⟨hn16a, hn16b⟩ := and_e hn15b
  obtain ⟨hn17a, hn17b⟩ := and_e hn16b
  obtain ⟨hn18a, hn18b⟩ := and_e hn17b
  obtain ⟨hn19a, hn19b⟩ := and_e hn18b
  obtain ⟨hn20a, hn20b⟩ := and_e hn19b
  obtain ⟨hn21a, hn21b⟩ := and_e hn20b
  obtain ⟨hn22a, hn22b⟩ := and_e hn21b
  obtain ⟨hn23a, hn23b⟩ := and_e hn22b
  obtain ⟨w_ACK, ev_w_ACK⟩ := exa_v hn1a
  have S_w_ACK := Sta.start ev_w_ACK (Or.inr ⟨(hw _ (List.mem_of_getElem? (i := 6) rfl)), (hw _ (List.mem_of_getElem? (i := 7) rfl))⟩)
  have E_w_ACK := Exa.start ev_w_ACK hn1a
  obtain ⟨w__VALUES, ev_w__VALUES⟩ := exa_v hn3a
  have S_w__VALUES := Sta.start ev_w__VALUES (Or.inr ⟨(hw _ (List.mem_of_getElem? (i := 6) rfl)), (hw _ (List.mem_of_getElem? (i := 15) rfl))⟩)
  have E_w__VALUES := Exa.start ev_w__VALUES hn3a
  obtain ⟨w_GROUP, ev_w_GROUP⟩ := exa_v hn6a
  have S_w_GROUP := Sta.start ev_w_GROUP (Or.inr ⟨(hw _ (List.mem_of_getElem? (i := 6) rfl)), (hw _ (List.mem_of_getElem? (i := 23) rfl))⟩)
  have E_w_GROUP := Exa.start ev_w_GROUP hn6a
  obtain ⟨w_OPENED, ev_w_OPENED⟩ := exa_v hn8a
  have S_w_OPENED := Sta.start ev_w_OPENED (Or.inr ⟨(hw _ (List.mem_of_getElem? (i := 6) rfl)), (hw _ (List.mem_of_getElem? (i := 24) rfl))⟩)
  have E_w_OPENED := Exa.start ev_w_OPENED hn8a
  obtain ⟨w_PUT, ev_w_PUT⟩ := exa_v hn10a
  have S_w_PUT := Sta.start ev_w_PUT (Or.inr ⟨(hw _ (List.mem_of_getElem? (i := 6) rfl)), (hw _ (List.mem_of_getElem? (i := 25) rfl))⟩)
  have E_w_PUT := Exa.start ev_w_PUT hn10a
  obtain ⟨w_SETTLED, ev_w_SETTLED⟩ := exa_v hn12a
  have S_w_SETTLED := Sta.start ev_w_SETTLED (Or.inr ⟨(hw _ (List.mem_of_getElem? (i := 6) rfl)), (hw _ (List.mem_of_getElem? (i := 26) rfl))⟩)
  have E_w_SETTLED := Exa.start ev_w_SETTLED hn12a
  obtain ⟨w_CHECKED, ev_w_CHECKED⟩ := exa_v hn14a
  have S_w_CHECKED := Sta.start ev_w_CHECKED (Or.inr ⟨(hw _ (List.mem_of_getElem? (i := 6) rfl)), (hw _ (List.mem_of_getElem? (i := 27) rfl))⟩)
  have E_w_CHECKED := Exa.start ev_w_CHECKED hn14a
  obtain ⟨w_PARKED, ev_w_PARKED⟩ := exa_v hn16a
  have S_w_PARKED := Sta.start ev_w_PARKED (Or.inr ⟨(hw _ (List.mem_of_getElem? (i := 6) rfl)), (hw _ (List.mem_of_getElem? (i := 28) rfl))⟩)
  have E_w_PARKED := Exa.start ev_w_PARKED hn16a
  have F_code_w_ACK := own_fld (k := (1 : Int32)) hn18a ev_w_ACK
  have F_code_w_GROUP := own_fld (k := (2 : Int32)) hn19a ev_w_GROUP
  have F_code_w_OPENED := own_fld (k := (3 : Int32)) hn20a ev_w_OPENED
  have F_code_w_PUT := own_fld (k := (4 : Int32)) hn21a ev_w_PUT
  have F_code_w_SETTLED := own_fld (k := (5 : Int32)) hn22a ev_w_SETTLED
  have F_code_w_CHECKED := own_fld (k := (6 : Int32)) hn23a ev_w_CHECKED
  have F_code_w_PARKED := own_fld (k := (7 : Int32)) hn23b ev_w_PARKED
  obtain ⟨cl_w__VALUES, Ar_w__VALUES⟩ := Arr.start ev_w__VALUES hn2a
  have Sz_w__VALUES := own_len (n := (7 : Int32)) hn4a ev_w__VALUES Ar_w__VALUES
  have At_w__VALUES_0 := own_elem (j := (0 : Int32)) hn5a ev_w__VALUES Ar_w__VALUES ev_w_ACK
  have At_w__VALUES_1 := own_elem (j := (1 : Int32)) hn7a ev_w__VALUES Ar_w__VALUES ev_w_GROUP
  have At_w__VALUES_2 := own_elem (j := (2 : Int32)) hn9a ev_w__VALUES Ar_w__VALUES ev_w_OPENED
  have At_w__VALUES_3 := own_elem (j := (3 : Int32)) hn11a ev_w__VALUES Ar_w__VALUES ev_w_PUT
  have At_w__VALUES_4 := own_elem (j := (4 : Int32)) hn13a ev_w__VALUES Ar_w__VALUES ev_w_SETTLED
  have At_w__VALUES_5 := own_elem (j := (5 : Int32)) hn15a ev_w__VALUES Ar_w__VALUES ev_w_CHECKED
  have At_w__VALUES_6 := own_elem (j := (6 : Int32)) hn17a ev_w__VALUES Ar_w__VALUES ev_w_PARKED
  have ne_w_ACK_w_GROUP : ¬ (w_ACK = w_GROUP) := own_ne F_code_w_ACK F_code_w_GROUP (by decide)
  have ne_w_ACK_w_OPENED : ¬ (w_ACK = w_OPENED) := own_ne F_code_w_ACK F_code_w_OPENED (by decide)
  have ne_w_ACK_w_PUT : ¬ (w_ACK = w_PUT) := own_ne F_code_w_ACK F_code_w_PUT (by decide)
  have ne_w_ACK_w_SETTLED : ¬ (w_ACK = w_SETTLED) := own_ne F_code_w_ACK F_code_w_SETTLED (by decide)
  have ne_w_ACK_w_CHECKED : ¬ (w_ACK = w_CHECKED) := own_ne F_code_w_ACK F_code_w_CHECKED (by decide)
  have ne_w_ACK_w_PARKED : ¬ (w_ACK = w_PARKED) := own_ne F_code_w_ACK F_code_w_PARKED (by decide)
  have ne_w_GROUP_w_OPENED : ¬ (w_GROUP = w_OPENED) := own_ne F_code_w_GROUP F_code_w_OPENED (by decide)
  have ne_w_GROUP_w_PUT : ¬ (w_GROUP = w_PUT) := own_ne F_code_w_GROUP F_code_w_PUT (by decide)
  have ne_w_GROUP_w_SETTLED : ¬ (w_GROUP = w_SETTLED) := own_ne F_code_w_GROUP F_code_w_SETTLED (by decide)
  have ne_w_GROUP_w_CHECKED : ¬ (w_GROUP = w_CHECKED) := own_ne F_code_w_GROUP F_code_w_CHECKED (by decide)
  have ne_w_GROUP_w_PARKED : ¬ (w_GROUP = w_PARKED) := own_ne F_code_w_GROUP F_code_w_PARKED (by decide)
  have ne_w_OPENED_w_PUT : ¬ (w_OPENED = w_PUT) := own_ne F_code_w_OPENED F_code_w_PUT (by decide)
  have ne_w_OPENED_w_SETTLED : ¬ (w_OPENED = w_SETTLED) := own_ne F_code_w_OPENED F_code_w_SETTLED (by decide)
  have ne_w_OPENED_w_CHECKED : ¬ (w_OPENED = w_CHECKED) := own_ne F_code_w_OPENED F_code_w_CHECKED (by decide)
  have ne_w_OPENED_w_PARKED : ¬ (w_OPENED = w_PARKED) := own_ne F_code_w_OPENED F_code_w_PARKED (by decide)
  have ne_w_PUT_w_SETTLED : ¬ (w_PUT = w_SETTLED) := own_ne F_code_w_PUT F_code_w_SETTLED (by decide)
  have ne_w_PUT_w_CHECKED : ¬ (w_PUT = w_CHECKED) := own_ne F_code_w_PUT F_code_w_CHECKED (by decide)
  have ne_w_PUT_w_PARKED : ¬ (w_PUT = w_PARKED) := own_ne F_code_w_PUT F_code_w_PARKED (by decide)
  have ne_w_SETTLED_w_CHECKED : ¬ (w_SETTLED = w_CHECKED) := own_ne F_code_w_SETTLED F_code_w_CHECKED (by decide)
  have ne_w_SETTLED_w_PARKED : ¬ (w_SETTLED = w_PARKED) := own_ne F_code_w_SETTLED F_code_w_PARKED (by decide)
  have ne_w_CHECKED_w_PARKED : ¬ (w_CHECKED = w_PARKED) := own_ne F_code_w_CHECKED F_code_w_PARKED (by decide)
  have V_w__VALUES : Arv s s.heap w__VALUES cl_w__VALUES.cls (.object "com/example/clinch/clinch/broker/NoteKind") (7 : Int32) [(.ref w_ACK), (.ref w_GROUP), (.ref w_OPENED), (.ref w_PUT), (.ref w_SETTLED), (.ref w_CHECKED), (.ref w_PARKED)] .null := Arv.start hfit Ar_w__VALUES (own_small hn4a ev_w__VALUES Ar_w__VALUES) Sz_w__VALUES (by decide) rfl ⟨At_w__VALUES_0.2, At_w__VALUES_1.2, At_w__VALUES_2.2, At_w__VALUES_3.2, At_w__VALUES_4.2, At_w__VALUES_5.2, At_w__VALUES_6.2, trivial⟩
  have HW : World s w_ACK w__VALUES w_GROUP w_OPENED w_PUT w_SETTLED w_CHECKED w_PARKED cl_w__VALUES := ⟨S_w_ACK, E_w_ACK, S_w__VALUES, E_w__VALUES, S_w_GROUP, E_w_GROUP, S_w_OPENED, E_w_OPENED, S_w_PUT, E_w_PUT, S_w_SETTLED, E_w_SETTLED, S_w_CHECKED, E_w_CHECKED, S_w_PARKED, E_w_PARKED, F_code_w_ACK, F_code_w_GROUP, F_code_w_OPENED, F_code_w_PUT, F_code_w_SETTLED, F_code_w_CHECKED, F_code_w_PARKED, Ar_w__VALUES, Sz_w__VALUES, At_w__VALUES_0, At_w__VALUES_1, At_w__VALUES_2, At_w__VALUES_3, At_w__VALUES_4, At_w__VALUES_5, At_w__VALUES_6, ne_w_ACK_w_GROUP, ne_w_ACK_w_OPENED, ne_w_ACK_w_PUT, ne_w_ACK_w_SETTLED, ne_w_ACK_w_CHECKED, ne_w_ACK_w_PARKED, ne_w_GROUP_w_OPENED, ne_w_GROUP_w_PUT, ne_w_GROUP_w_SETTLED, ne_w_GROUP_w_CHECKED, ne_w_GROUP_w_PARKED, ne_w_OPENED_w_PUT, ne_w_OPENED_w_SETTLED, ne_w_OPENED_w_CHECKED, ne_w_OPENED_w_PARKED, ne_w_PUT_w_SETTLED, ne_w_PUT_w_CHECKED, ne_w_PUT_w_PARKED, ne_w_SETTLED_w_CHECKED, ne_w_SETTLED_w_PARKED, ne_w_CHECKED_w_PARKED, V_w__VALUES, trivial⟩
  obtain ⟨n, o, h1, h2, h3, _, L, rfl, ⟨rfl, N⟩, hq⟩ := rm0_all l s _ hw tables_1 w_ACK w__VALUES w_GROUP w_OPENED w_PUT w_SETTLED w_CHECKED w_PARKED cl_w__VALUES i0 s.heap s.heap.size (Nat.le_refl _) (Old.start s) HW p e ha hc hk s m _ below hf ((Spec.applies_iff_loose hf).mp happ).1 ⟨rfl, State.Warmed39.refl s, rfl⟩ trivial
  exact ⟨n, _, h1, h2, h3, hpost _ _ _ _ _ _ ⟨Cond.after_iff.mpr rfl, Cond.after_iff.mpr (eq_i res_at (Term.int_eval (1)) rfl), trivial⟩ ⟨hq.1, hq.2.1, (hq.2.2.sift fun y hy => Or.inr (N y hy)).mono (by decide) (by decide)⟩⟩
theorem main_1_1 : Claimed_1_1 := comes_1 fun _ _ _ _ _ _ h hF => ⟨h.1, hF⟩
theorem main_1_2 : Claimed_1_2 := comes_1 fun _ _ _ _ _ _ h hF => ⟨h.2.1, hF⟩
end Jvm.Pilot.@@N@@
namespace Jvm.Pilot.@@N@@
open Jvm Jvm.ClassFile Sem Op Lib Jvm.Free Jvm.Stand Jvm.Pilot.@@N@@.Jvm.D
/-! MADE BY PROGRAM (witnessworld.py) out of the Statement's table words and the real class files: 13 classes; the members and pool entries that the words name. The judged class is class 1, her method 2. -/
namespace start1
open Jvm.ClassFile
def u (s : String) : CpInfo := .utf8 (stringToUtf16 s)
/-- a pool by its gaps: so many unusable entries, then the entry; so many at the end -/
def gap : Nat → List CpInfo → List CpInfo
  | 0, r => r
  | n + 1, r => .unusable :: gap n r
def poolList (es : List (Nat × CpInfo)) (last : Nat) : List CpInfo := es.foldr (fun e r => gap e.1 (e.2 :: r)) (gap last [])
def pool (es : List (Nat × CpInfo)) (last : Nat) : Array CpInfo := ⟨poolList es last⟩
def fileOf (pool : Array CpInfo) (this : Nat) (attrs : Array Attribute := #[]) (ms : Array MethodInfo := #[]) (fl : Nat := 33) (sup : Nat := 0) (ifs : Array Nat := #[]) (fds : Array FieldInfo := #[]) : ClassFile where
  minorVersion := 0
  majorVersion := 65
  constantPool := pool
  accessFlags := fl
  thisClass := this
  superClass := sup
  interfaces := ifs
  fields := fds
  methods := ms
  attributes := attrs
def plain (name : String) (sup : Option ClassId) : Class where
  name := name
  kind := .ordinary
  loader := none
  accessFlags := 33
  super := sup
  interfaces := #[]
  cf := none
  fields := #[]
  methods := #[]
  instanceTypes := #[]
  staticTypes := #[]
  resolved := #[]
  callSites := []
  init := .initialized
  statics := none
  mirror := none

def pool0 : Array CpInfo := pool [(5, u "<init>"), (0, u "()V"), (1, .class_ 10), (1, u "java/lang/Object"), (85, u "clone"), (0, u "()Ljava/lang/Object;")] 26

def k0m0 : Method := { name := "<init>", desc := "()V", sig := { parameters := [], returnType := none }, accessFlags := 1, code := none }
def k0m1 : Method := { name := "clone", desc := "()Ljava/lang/Object;", sig := { parameters := [], returnType := some (.object "java/lang/Object") }, accessFlags := 260, code := none }
/-- java/lang/Object -/
def k0 : Class := { plain "java/lang/Object" none with
  accessFlags := 33
  interfaces := #[]
  cf := some (fileOf pool0 8 #[] #[{ accessFlags := 1, nameIndex := 5, descriptorIndex := 6, attributes := #[] }, { accessFlags := 260, nameIndex := 96, descriptorIndex := 97, attributes := #[] }] 33 0 #[] #[])
  fields := #[]
  methods := #[k0m0, k0m1]
  instanceTypes := #[]
  staticTypes := #[]
  resolved := Array.replicate 124 none
  statics := none }

def pool1 : Array CpInfo := pool [(2, .class_ 4), (1, u "java/lang/Object"), (0, u "<init>"), (0, u "()V"), (0, .fieldref 8 9), (0, .class_ 10), (0, .nameAndType 11 12), (0, u "com/example/clinch/clinch/broker/NoteKind"), (0, u "ACK"), (0, u "Lcom/example/clinch/clinch/broker/NoteKind;"), (0, .fieldref 8 14), (0, .nameAndType 15 12), (0, u "GROUP"), (0, .fieldref 8 17), (0, .nameAndType 18 12), (0, u "OPENED"), (0, .fieldref 8 20), (0, .nameAndType 21 12), (0, u "PUT"), (0, .fieldref 8 23), (0, .nameAndType 24 12), (0, u "SETTLED"), (0, .fieldref 8 26), (0, .nameAndType 27 12), (0, u "CHECKED"), (0, .fieldref 8 29), (0, .nameAndType 30 12), (0, u "PARKED"), (0, .integer 2147483647), (0, .methodref 33 34), (0, .class_ 35), (0, .nameAndType 36 37), (0, u "com/example/clinch/clinch/broker/NoteKindOfPinLaw"), (0, u "expected"), (0, u "(I)Lcom/example/clinch/clinch/broker/NoteKind;"), (0, .methodref 8 39), (0, .nameAndType 40 41), (0, u "of"), (0, u "(B)Lcom/example/clinch/clinch/broker/NoteKind;"), (0, .methodref 8 43), (0, .nameAndType 44 45), (0, u "code"), (0, u "()B"), (3, u "law"), (0, u "(I)Z")] 5

def k1m0 : Method := { name := "<init>", desc := "()V", sig := { parameters := [], returnType := none }, accessFlags := 2, code := none }
def k1c1 : Code := { maxStack := 2, maxLocals := 1, code := method_2_code, exceptionTable := #[], attributes := #[] }
def k1m1 : Method := { name := "expected", desc := "(I)Lcom/example/clinch/clinch/broker/NoteKind;", sig := { parameters := [.int], returnType := some (.object "com/example/clinch/clinch/broker/NoteKind") }, accessFlags := 10, code := some k1c1 }
def k1c2 : Code := { maxStack := 2, maxLocals := 4, code := code, exceptionTable := #[], attributes := #[] }
def k1m2 : Method := { name := "law", desc := "(I)Z", sig := { parameters := [.int], returnType := some .boolean }, accessFlags := 9, code := some k1c2 }
/-- com/example/clinch/clinch/broker/NoteKindOfPinLaw -/
def k1 : Class := { plain "com/example/clinch/clinch/broker/NoteKindOfPinLaw" (some 0) with
  accessFlags := 49
  interfaces := #[]
  cf := some (fileOf pool1 33 #[] #[{ accessFlags := 2, nameIndex := 5, descriptorIndex := 6, attributes := #[] }, { accessFlags := 10, nameIndex := 36, descriptorIndex := 37, attributes := #[] }, { accessFlags := 9, nameIndex := 49, descriptorIndex := 50, attributes := #[] }] 49 2 #[] #[])
  fields := #[]
  methods := #[k1m0, k1m1, k1m2]
  instanceTypes := #[]
  staticTypes := #[]
  resolved := Array.replicate 56 none
  statics := none }

def pool2 : Array CpInfo := pool [(1, .class_ 2), (0, u "java/lang/constant/Constable"), (0, .class_ 4), (0, u "java/lang/Object")] 6

/-- java/lang/constant/Constable -/
def k2 : Class := { plain "java/lang/constant/Constable" (some 0) with
  accessFlags := 1537
  interfaces := #[]
  cf := some (fileOf pool2 1 #[] #[] 1537 3 #[] #[])
  fields := #[]
  methods := #[]
  instanceTypes := #[]
  staticTypes := #[]
  resolved := Array.replicate 11 none
  statics := none }

def pool3 : Array CpInfo := pool [(1, .class_ 2), (0, u "java/lang/Comparable"), (0, .class_ 4), (0, u "java/lang/Object")] 7

/-- java/lang/Comparable -/
def k3 : Class := { plain "java/lang/Comparable" (some 0) with
  accessFlags := 1537
  interfaces := #[]
  cf := some (fileOf pool3 1 #[] #[] 1537 3 #[] #[])
  fields := #[]
  methods := #[]
  instanceTypes := #[]
  staticTypes := #[]
  resolved := Array.replicate 12 none
  statics := none }

def pool4 : Array CpInfo := pool [(1, .class_ 2), (0, u "java/io/Serializable"), (0, .class_ 4), (0, u "java/lang/Object")] 2

/-- java/io/Serializable -/
def k4 : Class := { plain "java/io/Serializable" (some 0) with
  accessFlags := 1537
  interfaces := #[]
  cf := some (fileOf pool4 1 #[] #[] 1537 3 #[] #[])
  fields := #[]
  methods := #[]
  instanceTypes := #[]
  staticTypes := #[]
  resolved := Array.replicate 7 none
  statics := none }

def pool5 : Array CpInfo := pool [(2, .class_ 4), (1, u "java/lang/Enum"), (0, u "name"), (0, u "Ljava/lang/String;"), (2, u "ordinal"), (0, u "I"), (1, .class_ 14), (1, u "java/lang/Object"), (4, u "hash"), (86, .class_ 108), (1, u "java/lang/Enum$EnumDesc"), (2, .class_ 112), (0, u "java/lang/constant/Constable"), (0, .class_ 114), (0, u "java/lang/Comparable"), (0, .class_ 116), (0, u "java/io/Serializable")] 87

/-- java/lang/Enum -/
def k5 : Class := { plain "java/lang/Enum" (some 0) with
  accessFlags := 1057
  interfaces := #[2, 3, 4]
  cf := some (fileOf pool5 2 #[.nestMembers #[106]] #[] 1057 12 #[111, 113, 115] #[{ accessFlags := 18, nameIndex := 5, descriptorIndex := 6, attributes := #[] }, { accessFlags := 18, nameIndex := 9, descriptorIndex := 10, attributes := #[] }, { accessFlags := 2, nameIndex := 19, descriptorIndex := 10, attributes := #[] }])
  fields := #[{ name := "name", type := (.object "java/lang/String"), accessFlags := 18, slot := 0, constantValue := 0 }, { name := "ordinal", type := .int, accessFlags := 18, slot := 1, constantValue := 0 }, { name := "hash", type := .int, accessFlags := 2, slot := 2, constantValue := 0 }]
  methods := #[]
  instanceTypes := #[(.object "java/lang/String"), .int, .int]
  staticTypes := #[]
  resolved := Array.replicate 204 none
  statics := none }

def pool6 : Array CpInfo := pool [(1, .class_ 2), (0, u "com/example/clinch/clinch/broker/NoteKind"), (2, u "ACK"), (0, u "Lcom/example/clinch/clinch/broker/NoteKind;"), (2, u "GROUP"), (2, u "OPENED"), (2, u "PUT"), (2, u "SETTLED"), (2, u "CHECKED"), (2, u "PARKED"), (0, .fieldref 1 26), (0, .nameAndType 27 28), (0, u "$VALUES"), (0, u "[Lcom/example/clinch/clinch/broker/NoteKind;"), (0, .methodref 30 31), (0, .class_ 28), (0, .nameAndType 32 33), (0, u "clone"), (0, u "()Ljava/lang/Object;"), (1, .class_ 37), (1, u "java/lang/Enum"), (6, .fieldref 1 45), (0, .nameAndType 46 47), (0, u "code"), (0, u "B"), (0, .methodref 1 49), (0, .nameAndType 50 51), (0, u "values"), (0, u "()[Lcom/example/clinch/clinch/broker/NoteKind;"), (28, u "()B"), (0, u "of"), (0, u "(B)Lcom/example/clinch/clinch/broker/NoteKind;")] 22

def k6c0 : Code := { maxStack := 1, maxLocals := 0, code := prog_7_method_1_code, exceptionTable := #[], attributes := #[] }
def k6m0 : Method := { name := "values", desc := "()[Lcom/example/clinch/clinch/broker/NoteKind;", sig := { parameters := [], returnType := some (.array (.object "com/example/clinch/clinch/broker/NoteKind")) }, accessFlags := 9, code := some k6c0 }
def k6c1 : Code := { maxStack := 1, maxLocals := 1, code := prog_7_method_4_code, exceptionTable := #[], attributes := #[] }
def k6m1 : Method := { name := "code", desc := "()B", sig := { parameters := [], returnType := some .byte }, accessFlags := 0, code := some k6c1 }
def k6c2 : Code := { maxStack := 3, maxLocals := 5, code := prog_7_method_5_code, exceptionTable := #[], attributes := #[] }
def k6m2 : Method := { name := "of", desc := "(B)Lcom/example/clinch/clinch/broker/NoteKind;", sig := { parameters := [.byte], returnType := some (.object "com/example/clinch/clinch/broker/NoteKind") }, accessFlags := 8, code := some k6c2 }
/-- com/example/clinch/clinch/broker/NoteKind -/
def k6 : Class := { plain "com/example/clinch/clinch/broker/NoteKind" (some 5) with
  accessFlags := 16432
  interfaces := #[]
  cf := some (fileOf pool6 1 #[] #[{ accessFlags := 9, nameIndex := 50, descriptorIndex := 51, attributes := #[] }, { accessFlags := 0, nameIndex := 46, descriptorIndex := 80, attributes := #[] }, { accessFlags := 8, nameIndex := 81, descriptorIndex := 82, attributes := #[] }] 16432 35 #[] #[{ accessFlags := 16409, nameIndex := 5, descriptorIndex := 6, attributes := #[] }, { accessFlags := 16409, nameIndex := 9, descriptorIndex := 6, attributes := #[] }, { accessFlags := 16409, nameIndex := 12, descriptorIndex := 6, attributes := #[] }, { accessFlags := 16409, nameIndex := 15, descriptorIndex := 6, attributes := #[] }, { accessFlags := 16409, nameIndex := 18, descriptorIndex := 6, attributes := #[] }, { accessFlags := 16409, nameIndex := 21, descriptorIndex := 6, attributes := #[] }, { accessFlags := 16409, nameIndex := 24, descriptorIndex := 6, attributes := #[] }, { accessFlags := 18, nameIndex := 46, descriptorIndex := 47, attributes := #[] }, { accessFlags := 4122, nameIndex := 27, descriptorIndex := 28, attributes := #[] }])
  fields := #[{ name := "ACK", type := (.object "com/example/clinch/clinch/broker/NoteKind"), accessFlags := 16409, slot := 0, constantValue := 0 }, { name := "GROUP", type := (.object "com/example/clinch/clinch/broker/NoteKind"), accessFlags := 16409, slot := 1, constantValue := 0 }, { name := "OPENED", type := (.object "com/example/clinch/clinch/broker/NoteKind"), accessFlags := 16409, slot := 2, constantValue := 0 }, { name := "PUT", type := (.object "com/example/clinch/clinch/broker/NoteKind"), accessFlags := 16409, slot := 3, constantValue := 0 }, { name := "SETTLED", type := (.object "com/example/clinch/clinch/broker/NoteKind"), accessFlags := 16409, slot := 4, constantValue := 0 }, { name := "CHECKED", type := (.object "com/example/clinch/clinch/broker/NoteKind"), accessFlags := 16409, slot := 5, constantValue := 0 }, { name := "PARKED", type := (.object "com/example/clinch/clinch/broker/NoteKind"), accessFlags := 16409, slot := 6, constantValue := 0 }, { name := "code", type := .byte, accessFlags := 18, slot := 3, constantValue := 0 }, { name := "$VALUES", type := (.array (.object "com/example/clinch/clinch/broker/NoteKind")), accessFlags := 4122, slot := 7, constantValue := 0 }]
  methods := #[k6m0, k6m1, k6m2]
  instanceTypes := #[(.object "java/lang/String"), .int, .int, .byte]
  staticTypes := #[(.object "com/example/clinch/clinch/broker/NoteKind"), (.object "com/example/clinch/clinch/broker/NoteKind"), (.object "com/example/clinch/clinch/broker/NoteKind"), (.object "com/example/clinch/clinch/broker/NoteKind"), (.object "com/example/clinch/clinch/broker/NoteKind"), (.object "com/example/clinch/clinch/broker/NoteKind"), (.object "com/example/clinch/clinch/broker/NoteKind"), (.array (.object "com/example/clinch/clinch/broker/NoteKind"))]
  resolved := Array.replicate 105 none
  statics := some 0 }

def pool7 : Array CpInfo := pool [(1, .class_ 2), (0, u "java/lang/Cloneable"), (0, .class_ 4), (0, u "java/lang/Object")] 2

/-- java/lang/Cloneable -/
def k7 : Class := { plain "java/lang/Cloneable" (some 0) with
  accessFlags := 1537
  interfaces := #[]
  cf := some (fileOf pool7 1 #[] #[] 1537 3 #[] #[])
  fields := #[]
  methods := #[]
  instanceTypes := #[]
  staticTypes := #[]
  resolved := Array.replicate 7 none
  statics := none }

/-- the primitive byte -/
def k8 : Class := { plain "byte" none with kind := .primitive 'B', accessFlags := 0x411 }
/-- [B -/
def k9 : Class := { plain "[B" (some 0) with kind := .array 8 .byte, interfaces := #[7, 4], accessFlags := 1041 }

/-- the primitive int -/
def k10 : Class := { plain "int" none with kind := .primitive 'I', accessFlags := 0x411 }
/-- [I -/
def k11 : Class := { plain "[I" (some 0) with kind := .array 10 .int, interfaces := #[7, 4], accessFlags := 1041 }

/-- [Lcom/example/clinch/clinch/broker/NoteKind; -/
def k12 : Class := { plain "[Lcom/example/clinch/clinch/broker/NoteKind;" (some 0) with kind := .array 6 (.object "com/example/clinch/clinch/broker/NoteKind"), interfaces := #[7, 4], accessFlags := 1041 }

def heap : Heap := #[{ cls := 6, slots := #[.ref 2, .ref 3, .ref 4, .ref 5, .ref 6, .ref 7, .ref 8, .ref 1], vm := .statics 6 },
  { cls := 12, slots := #[.ref 2, .ref 3, .ref 4, .ref 5, .ref 6, .ref 7, .ref 8], vm := .none },
  { cls := 6, slots := #[.null, .int 0, .int 0, .int 1], vm := .none },
  { cls := 6, slots := #[.null, .int 0, .int 0, .int 2], vm := .none },
  { cls := 6, slots := #[.null, .int 0, .int 0, .int 3], vm := .none },
  { cls := 6, slots := #[.null, .int 0, .int 0, .int 4], vm := .none },
  { cls := 6, slots := #[.null, .int 0, .int 0, .int 5], vm := .none },
  { cls := 6, slots := #[.null, .int 0, .int 0, .int 6], vm := .none },
  { cls := 6, slots := #[.null, .int 0, .int 0, .int 7], vm := .none }]
def classes : Array Class := #[k0, k1, k2, k3, k4, k5, k6, k7, k8, k9, k10, k11, k12]
def interned : List (Array UInt16 × Addr) := []
def slotsUsed : Nat := 43
def theMethod : MethodId := ⟨1, 2⟩
def args0 : Array Value := #[.int 5]
def aboutOver (below : List Frame) : State where
  vm := { classes := classes, interned := interned.toArray }
  heap := heap
  slotsUsed := slotsUsed
  threads := #[{ frames := .invoking theMethod args0 :: below }]
def below0 : List Frame := [.native { method := ⟨0, 0⟩, args := #[] }]
def about1 : State := aboutOver below0
def p0 : Program := .bare "" "" ""
def e0 : Env := launch0.env 0 0 0
theorem w_frames : about1.frames = Frame.invoking theMethod args0 :: below0 := rfl
set_option maxRecDepth 65536 in
theorem w_args : argsFit about1.vm theMethod args0 = true := by decide +kernel
set_option maxRecDepth 65536 in
theorem w_heap : heapFits about1 = true := by decide +kernel
set_option maxRecDepth 65536 in
theorem w_runnable : about1.curStatus? = some .runnable := by decide +kernel
set_option maxRecDepth 65536 in
theorem w_alone : about1.alone = true := by decide +kernel
set_option maxRecDepth 65536 in
theorem w_named : about1.methodNamed? x = some theMethod := by decide +kernel
set_option maxRecDepth 65536 in
theorem w_hears : about1.hears theMethod below0 = true := by decide +kernel
set_option maxRecDepth 65536 in
theorem w_ripe : about1.ripe theMethod args0 below0 = true := by decide +kernel
theorem w_running : about1.status = .running := rfl
set_option maxRecDepth 65536 in
theorem w_room : about1.hasRoom e0.platform room_1 = true :=
  launch0.hasRoom_least _ room_1 (by decide +kernel) (by decide +kernel) (by decide +kernel) (by decide +kernel) (by decide +kernel) (by decide +kernel)
theorem allAtoms_all (ts : List Jvm.Cond) (a : Array Jvm.Value) (st : Jvm.State) : (allAtoms ts).before a st = ts.all (fun c => c.before a st) := by
  induction ts with
  | nil => rfl
  | cons c t ih =>
    show (Jvm.Cond.and c (allAtoms t)).before a st = _
    rw [Jvm.Cond.before_and, ih, List.all_cons]
def words1 : List Jvm.Cond := Jvm.Cond.code x code maxLocals ret :: tables_1
/-- a 'code' word, met by the world's own term for the bytes: nothing is compared byte by byte -/
theorem code_word {y : MethodName} {bytes : ByteArray} {mx : Nat} {rt : Option FieldType} {a : Array Value} {s : State} {m : MethodId} {meth : Method} {c : Code} (h1 : s.methodNamed? y = some m) (h2 : s.vm.method? m = some meth) (h3 : meth.code = some c) (h4 : c.code = bytes)
    (h5 : (c.maxLocals == mx && c.exceptionTable.isEmpty && decide (c.maxStack ≤ mostOperands) && decide (meth.sig.returnType = rt) && !meth.locks && decide (parseMethodDescriptor y.desc = some meth.sig)) = true) : (Jvm.Cond.code y bytes mx rt).before a s = true := by
  simp only [Bool.and_eq_true, beq_iff_eq, Bool.not_eq_true', decide_eq_true_eq] at h5
  obtain ⟨⟨⟨⟨⟨g1, g2⟩, g3⟩, g4⟩, g5⟩, g6⟩ := h5
  simp [Cond.before, Cond.holds, Cond.value, h1, h2, h3, h4, g1, g2, g3, g4, g5, g6]
def isCode : Jvm.Cond → Bool
  | .code _ _ _ _ => true
  | _ => false
theorem all_split {L : List Jvm.Cond} {P : Jvm.Cond → Bool} (h1 : L.all (fun c => isCode c || P c) = true) (h2 : ∀ c ∈ L.filter isCode, P c = true) : L.all P = true := by
  refine List.all_eq_true.mpr fun c hc => ?_
  have h := List.all_eq_true.mp h1 c hc
  rcases Bool.eq_false_or_eq_true (isCode c) with hi | hi
  · exact h2 c (List.mem_filter.mpr ⟨hc, hi⟩)
  · simpa [hi] using h
set_option maxRecDepth 65536 in
theorem w_c0 : (Jvm.Cond.code x code maxLocals ret).before args0 about1 = true := code_word (m := ⟨1, 2⟩) (meth := k1m2) (c := k1c2) (by decide +kernel) rfl rfl rfl (by decide +kernel)
set_option maxRecDepth 65536 in
theorem w_c1 : (Jvm.Cond.code ({ cls := "com/example/clinch/clinch/broker/NoteKindOfPinLaw", name := "expected", desc := "(I)Lcom/example/clinch/clinch/broker/NoteKind;" } : Jvm.MethodName) method_2_code (1 : Nat) (Option.some (Jvm.ClassFile.FieldType.object "com/example/clinch/clinch/broker/NoteKind"))).before args0 about1 = true := code_word (m := ⟨1, 1⟩) (meth := k1m1) (c := k1c1) (by decide +kernel) rfl rfl rfl (by decide +kernel)
set_option maxRecDepth 65536 in
theorem w_c2 : (Jvm.Cond.code ({ cls := "com/example/clinch/clinch/broker/NoteKind", name := "of", desc := "(B)Lcom/example/clinch/clinch/broker/NoteKind;" } : Jvm.MethodName) prog_7_method_5_code (5 : Nat) (Option.some (Jvm.ClassFile.FieldType.object "com/example/clinch/clinch/broker/NoteKind"))).before args0 about1 = true := code_word (m := ⟨6, 2⟩) (meth := k6m2) (c := k6c2) (by decide +kernel) rfl rfl rfl (by decide +kernel)
set_option maxRecDepth 65536 in
theorem w_c3 : (Jvm.Cond.code ({ cls := "com/example/clinch/clinch/broker/NoteKind", name := "values", desc := "()[Lcom/example/clinch/clinch/broker/NoteKind;" } : Jvm.MethodName) prog_7_method_1_code (0 : Nat) (Option.some (Jvm.ClassFile.FieldType.array (Jvm.ClassFile.FieldType.object "com/example/clinch/clinch/broker/NoteKind")))).before args0 about1 = true := code_word (m := ⟨6, 0⟩) (meth := k6m0) (c := k6c0) (by decide +kernel) rfl rfl rfl (by decide +kernel)
set_option maxRecDepth 65536 in
theorem w_c4 : (Jvm.Cond.code ({ cls := "com/example/clinch/clinch/broker/NoteKind", name := "code", desc := "()B" } : Jvm.MethodName) prog_7_method_4_code (1 : Nat) (Option.some Jvm.ClassFile.FieldType.byte)).before args0 about1 = true := code_word (m := ⟨6, 1⟩) (meth := k6m1) (c := k6c1) (by decide +kernel) rfl rfl rfl (by decide +kernel)
def codes1 : List Jvm.Cond := [Jvm.Cond.code x code maxLocals ret, Jvm.Cond.code ({ cls := "com/example/clinch/clinch/broker/NoteKindOfPinLaw", name := "expected", desc := "(I)Lcom/example/clinch/clinch/broker/NoteKind;" } : Jvm.MethodName) method_2_code (1 : Nat) (Option.some (Jvm.ClassFile.FieldType.object "com/example/clinch/clinch/broker/NoteKind")), Jvm.Cond.code ({ cls := "com/example/clinch/clinch/broker/NoteKind", name := "of", desc := "(B)Lcom/example/clinch/clinch/broker/NoteKind;" } : Jvm.MethodName) prog_7_method_5_code (5 : Nat) (Option.some (Jvm.ClassFile.FieldType.object "com/example/clinch/clinch/broker/NoteKind")), Jvm.Cond.code ({ cls := "com/example/clinch/clinch/broker/NoteKind", name := "values", desc := "()[Lcom/example/clinch/clinch/broker/NoteKind;" } : Jvm.MethodName) prog_7_method_1_code (0 : Nat) (Option.some (Jvm.ClassFile.FieldType.array (Jvm.ClassFile.FieldType.object "com/example/clinch/clinch/broker/NoteKind"))), Jvm.Cond.code ({ cls := "com/example/clinch/clinch/broker/NoteKind", name := "code", desc := "()B" } : Jvm.MethodName) prog_7_method_4_code (1 : Nat) (Option.some Jvm.ClassFile.FieldType.byte)]
set_option maxRecDepth 65536 in
theorem codes_eq : words1.filter isCode = codes1 := rfl
theorem w_codes : ∀ c ∈ words1.filter isCode, c.before args0 about1 = true := by
  rw [codes_eq]
  intro c hc
  simp only [codes1, List.mem_cons, List.not_mem_nil, or_false] at hc
  rcases hc with rfl | rfl | rfl | rfl | rfl
  · exact w_c0
  · exact w_c1
  · exact w_c2
  · exact w_c3
  · exact w_c4
set_option maxRecDepth 65536 in
theorem w_t1 : (words1.take 24).all (fun c => isCode c || c.before args0 about1) = true := by decide +kernel
set_option maxRecDepth 65536 in
theorem w_t2 : (words1.drop 24).all (fun c => isCode c || c.before args0 about1) = true := by decide +kernel
theorem w_tables : (allAtoms (Jvm.Cond.code x code maxLocals ret :: tables_1)).before args0 about1 = true := by
  rw [allAtoms_all]
  show words1.all (fun c => c.before args0 about1) = true
  refine all_split ?_ w_codes
  rw [← List.take_append_drop 24 words1, List.all_append, w_t1, w_t2]
  rfl
set_option maxRecDepth 65536 in
theorem w_case : (Jvm.Cond.and given_1 narrow_1).before args0 about1 = true := by decide +kernel
theorem w_applies : (headSpec (Jvm.Cond.code x code maxLocals ret :: tables_1) room_1).applies x e0.platform about1 = true :=
  (Spec.applies_iff w_frames).mpr ⟨w_running, w_runnable, w_alone, w_named, w_hears, w_ripe, w_room, w_tables⟩
theorem atStart : AtStart classFile x code maxLocals ret World_1 tables_1 room_1 Calls_1 rest_1 Pre_1 launch0 p0 e0 about1 theMethod args0 below0 :=
  ⟨lists_1, trivial, launch0.admits_env _ _ _, launch0.least_env, fairChoices_fair.cas, fairChoices_fair.clock, w_frames, w_args, w_heap, w_applies, trivial, trivial, w_case⟩
end start1
theorem witness_1 : WitnessClaimed_1 := ⟨start1.p0, start1.e0, start1.about1, start1.theMethod, start1.args0, start1.below0, start1.atStart⟩
end Jvm.Pilot.@@N@@
