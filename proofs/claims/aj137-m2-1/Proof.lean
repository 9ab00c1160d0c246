import JvmDerived
import JvmDerived.Pilot.@@N@@Statement
import JvmDerived.Pilot.@@N@@Code
set_option linter.unusedVariables false
set_option linter.unusedSimpArgs false
@@BLOCK:NumsL.lean.txt@@
namespace Jvm.RoadKit
open Sem ClassFile Op Lib Jvm.Stand Jvm.Free Jvm.LawKit
section New
variable {p : Program} {l : Launch} {e : Env} {R : Room} {s : State} {m : MethodId} {args : Array Value} {below : List Frame} {meth : Method} {c : Code} {T : State} {locs : List Loc} {cells slots : Nat}
theorem retI (X : Stand p l e R s m args below meth c T locs cells slots) (hx : p.tables.exec = Jvm.exec) {pc : Nat} {Ls : Array Slot} {z : Int32} {rest : List Value} (hret : meth.sig.returnType = some .int) (hd : decode c.code pc = .ok (.ireturn, 1)) {fs : List Frame}
    (hl : ∀ (f : JFrame) (acts : List Action), f.method = m → f.locked = none → f.entered = [] → (doReturn e (T.setTop f) acts (some (.int z))).1 = T.setFrames fs) : Steps p.tables e below (T.setTop (mkF m pc Ls (.int z :: rest))) (T.setFrames fs) := by
  have hm' : T.vm.method? m = some meth := X.method'
  have hn : narrow .int (.int z) = .int z := rfl
  show Steps p.tables e below (T.setTop { method := m, pc := pc, locals := Ls, stack := _ :: rest, locked := none }) _
  jvm_step X.here [X.here.top, hx, hd, hm', hret, hn]
  first | (intro acts; rw [hl _ acts rfl rfl rfl]) | rw [hl _ _ rfl rfl rfl]
  exact Steps.refl _
end New
end Jvm.RoadKit
namespace Jvm.Pilot.@@N@@
open Jvm Jvm.ClassFile Sem Op Lib Jvm.Free Jvm.Stand Jvm.LawKit Jvm.RoadKit Bundle Jvm.Pilot.@@N@@.Jvm.D
theorem own_ext {h h' h'' : Heap} (A : Ext h h') (B : Ext h' h'') : Ext h h'' := ⟨Nat.le_trans A.1 B.1, fun a c q => B.2 a c (A.2 a c q)⟩
theorem own_fld {args : Array Value} {s : State} {t : Term} {C n d : String} {w : Addr} {k : Int32} (h : (Jvm.Cond.eq (.field t C n d) (.int k)).value args s none s [] = some true) (ev : t.eval args s none [] s = some (.ref w)) : Fld s s.heap w C n d (.int k) := by
  apply Fld.start
  have e := fld_at (C := C) (n := n) (dd := d) ev
  obtain ⟨x, y, e1, e2, k1, k2⟩ := cmp_v (Or.inl h)
  cases (show y = .int k from (Option.some.inj (e2.symm.trans rfl)))
  obtain ⟨z, rfl⟩ := k2
  have q := gotT (Cond.eq_ints e1 e2) h
  rw [← e, e1, q]
theorem own_fldR {args : Array Value} {s : State} {t u : Term} {C n d : String} {w b : Addr} (h : (Jvm.Cond.eq (.field t C n d) u).value args s none s [] = some true) (ev : t.eval args s none [] s = some (.ref w)) (eu : u.eval args s none [] s = some (.ref b)) : Fld s s.heap w C n d (.ref b) := by
  apply Fld.start
  have e := fld_at (C := C) (n := n) (dd := d) ev
  obtain ⟨x, y, e1, e2, k1, k2⟩ := cmp_v (Or.inl h)
  cases e2.symm.trans eu
  have q := gotT (eq_R e1 eu k2.2 rfl) h
  rw [← e, e1, q]
theorem own_ne {Z : State} {h : Heap} {a b : Addr} {C n d : String} {i j : Int32} (F : Fld Z h a C n d (.int i)) (G : Fld Z h b C n d (.int j)) (hn : ¬ (i = j)) : ¬ (a = b) := fun e => by
  subst e
  obtain ⟨c1, f1, k1, i1, g1, p1, p2, -, -, -, -, p7⟩ := F
  obtain ⟨c2, f2, k2, i2, g2, q1, q2, -, -, -, -, q7⟩ := G
  cases p1.symm.trans q1
  cases p2.symm.trans q2
  exact hn (Value.int.inj (Option.some.inj (p7.symm.trans q7)))
theorem own_n0 {Z : State} {n0 : Nat} {h : Heap} (O : Old Z n0 h) : n0 ≤ h.size := O.1 ▸ O.2.1
theorem own_len {args : Array Value} {s : State} {t : Term} {w : Addr} {n : Int32} {cl : Cell} {ty : FieldType} (h : (Jvm.Cond.eq (.length t) (.int n)).value args s none s [] = some true) (ev : t.eval args s none [] s = some (.ref w)) (A : Arr s s.heap w cl ty) : cl.slots.size.toInt32 = n := by
  obtain ⟨x, y, e1, e2, k1, k2⟩ := cmp_v (Or.inl h)
  cases (show y = .int n from (Option.some.inj (e2.symm.trans rfl)))
  obtain ⟨z, rfl⟩ := k2
  have q := gotT (Cond.eq_ints e1 e2) h
  have ha : s.arrayAt? w = some cl := Arr.fin (Vm.Alike.refl _) A
  simp [Term.eval, ev, ha] at e1
  rw [← q]; exact e1.2
theorem own_elem {args : Array Value} {s : State} {t u : Term} {w : Addr} {j : Int32} {cl : Cell} {ty : FieldType} {v : Value} (h : (Jvm.Cond.eq (.elem t (.int j)) u).value args s none s [] = some true) (ev : t.eval args s none [] s = some (.ref w)) (A : Arr s s.heap w cl ty) (eu : u.eval args s none [] s = some v) (hv : v.isRef = true := by rfl) : ¬ (j < 0 ∨ cl.slots.size ≤ j.toNatClampNeg) ∧ cl.slots[j.toNatClampNeg]? = some v := by
  obtain ⟨x, y, e1, e2, k1, k2⟩ := cmp_v (Or.inl h)
  cases e2.symm.trans eu
  have hx : x.isRef = true := by cases v <;> simp [Value.isRef] at hv <;> exact k2.2
  have q := gotT (eq_R e1 eu hx hv) h
  rw [q] at e1
  exact elem_in e1 ev rfl A.1
theorem own_inj {x y : Int32} (h : x.toInt = y.toInt) : x = y := Int32.toInt_inj.mp h
def Ars (Z : State) (h : Heap) (a : Addr) (k : ClassId) (ty : FieldType) (n : Nat) (f : Nat → Value) : Prop := ∃ c : Cell, Arr Z h a c ty ∧ c.cls = k ∧ c.slots.size = n ∧ n < 2 ^ 31 ∧ ∀ i, i < n → c.slots[i]? = some (f i)
def own_upd {α : Type} (f : Nat → α) (j : Nat) (v : α) : Nat → α := fun i => if i = j then v else f i
theorem own_upd_hit {α : Type} (f : Nat → α) (j : Nat) (v : α) : own_upd f j v j = v := if_pos rfl
theorem own_upd_miss {α : Type} (f : Nat → α) {i j : Nat} (v : α) (h : i ≠ j) : own_upd f j v i = f i := if_neg h
theorem own_at {c : Cell} {n : Nat} {f : Nat → Value} {j : Int32} {v : Value} (H : ∀ i, i < n → c.slots[i]? = some (f i)) (q : ¬ (j < 0 ∨ n ≤ j.toNatClampNeg)) (u : f j.toNatClampNeg = v) : c.slots[j.toNatClampNeg]? = some v := u ▸ H _ (Nat.lt_of_not_le fun y => q (Or.inr y))
section ArsFacts
variable {Z : State} {h h' : Heap} {a b : Addr} {k : ClassId} {ty : FieldType} {n : Nat} {f : Nat → Value}
theorem Ars.lt (F : Ars Z h a k ty n f) : a < h.size := by obtain ⟨c, A, -⟩ := F; exact A.lt
theorem Ars.ext (F : Ars Z h a k ty n f) (E : Ext h h') : Ars Z h' a k ty n f := by obtain ⟨c, A, r⟩ := F; exact ⟨c, A.ext E, r⟩
theorem Ars.other (F : Ars Z h a k ty n f) {sl : Nat} {v : Value} (W : Wr h h' b sl v) (q : a ≠ b) : Ars Z h' a k ty n f := by obtain ⟨c, A, r⟩ := F; exact ⟨c, A.other W q, r⟩
theorem Ars.keep (F : Ars Z h a k ty n f) {ws : List Addr} (K : Keep h h' ws) (q : a ∉ ws) : Ars Z h' a k ty n f := by obtain ⟨c, A, r⟩ := F; exact ⟨c, ⟨K.2.1 a c A.1 q, A.2⟩, r⟩
theorem Ars.set {c : Cell} (A : Arr Z h a c ty) (q1 : c.cls = k) (S : c.slots.size = n) (hn : n < 2 ^ 31) (H : ∀ i, i < n → c.slots[i]? = some (f i)) {j : Nat} {v : Value} (W : Wr h h' a j v) : Ars Z h' a k ty n (own_upd f j v) := by
  refine ⟨_, A.same W, q1, by rw [sz_set]; exact S, hn, fun i hi => ?_⟩
  by_cases e : j = i
  · subst e
    rw [own_upd_hit, Cell.slots_setSlot_self v (by rw [S]; exact hi)]
  · rw [own_upd_miss f v (Ne.symm e), Cell.slots_setSlot_ne v e]; exact H i hi
theorem Ars.congr {g : Nat → Value} (F : Ars Z h a k ty n f) (q : ∀ i, i < n → f i = g i) : Ars Z h a k ty n g := by obtain ⟨c, A, r1, r2, r3, r4⟩ := F; exact ⟨c, A, r1, r2, r3, fun i hi => by rw [← q i hi]; exact r4 i hi⟩
theorem Ars.of_arv {z : Int32} {vs : List Value} {dv : Value} (F : Arv Z h a k ty z vs dv) : Ars Z h a k ty z.toNatClampNeg (fun i => vs.getD i dv) := by
  obtain ⟨c, A, r1, r2, r3, r4, r5⟩ := F
  exact ⟨c, A, r1, r2, (back32 r3).2, fun i hi => r4 i (by rw [r2]; exact hi)⟩
/-- all that lies below lo is as it was -/
def Pres (lo : Nat) (h h' : Heap) : Prop := h.size ≤ h'.size ∧ ∀ (x : Addr) (c : Cell), x < lo → h[x]? = some c → h'[x]? = some c
theorem Pres.refl (lo : Nat) (h : Heap) : Pres lo h h := ⟨Nat.le_refl _, fun _ _ _ q => q⟩
theorem Pres.trans {lo : Nat} {h1 h2 h3 : Heap} (A : Pres lo h1 h2) (B : Pres lo h2 h3) : Pres lo h1 h3 := ⟨Nat.le_trans A.1 B.1, fun x c q r => B.2 x c q (A.2 x c q r)⟩
theorem Pres.of_keep {lo : Nat} {ws : List Addr} (K : Keep h h' ws) (q : ∀ x ∈ ws, lo ≤ x) : Pres lo h h' := ⟨K.1, fun x c r s => K.2.1 x c s fun m => absurd r (Nat.not_lt.mpr (q x m))⟩
theorem Pres.of_ext {lo : Nat} (E : Ext h h') : Pres lo h h' := ⟨E.1, fun x c _ q => E.2 x c q⟩
theorem Pres.old {lo n0 : Nat} (P : Pres lo h h') (q : n0 ≤ lo) (O : Old Z n0 h) : Old Z n0 h' := ⟨O.1, Nat.le_trans O.2.1 P.1, fun x c r => P.2 x c (Nat.lt_of_lt_of_le (O.1 ▸ (Array.getElem?_eq_some_iff.mp r).1) q) (O.2.2 x c r)⟩
theorem Ars.pres {lo : Nat} (F : Ars Z h a k ty n f) (P : Pres lo h h') (q : a < lo) : Ars Z h' a k ty n f := by obtain ⟨c, A, r⟩ := F; exact ⟨c, ⟨P.2 a c q A.1, A.2⟩, r⟩
theorem own_exa_pres {lo : Nat} {C : String} (F : Exa Z h a C) (P : Pres lo h h') (q : a < lo) : Exa Z h' a C := by obtain ⟨c, k, h1, r⟩ := F; exact ⟨c, k, P.2 a c q h1, r⟩
end ArsFacts
def QV (r : Option Value) (h0 : Heap) (n0 : Nat) (v : Option Value) (h : Heap) (L : List Loc) : Prop := v = r ∧ Fr n0 L ∧ h = h0
def World (Z : State) (w_FOR_GOOD : Addr) (cl_w_FOR_GOOD : Cell) : Prop := Sta Z Z.heap "com/example/caprice/caprice/solver/Domains" "FOR_GOOD" "[I" (.ref w_FOR_GOOD) ∧ Arr Z Z.heap w_FOR_GOOD cl_w_FOR_GOOD .int ∧ cl_w_FOR_GOOD.slots.size.toInt32 = (0 : Int32) ∧ True
theorem d2_0 : decode prog_59_method_1_code 0 = .ok (.aload_n 0, 1) := by decide +kernel
theorem d2_1 : decode prog_59_method_1_code 1 = .ok (.invokespecial 3, 3) := by decide +kernel
theorem d2_4 : decode prog_59_method_1_code 4 = .ok (.aload_n 1, 1) := by decide +kernel
theorem d2_5 : decode prog_59_method_1_code 5 = .ok (.arraylength, 1) := by decide +kernel
theorem d2_6 : decode prog_59_method_1_code 6 = .ok (.istore_n 2, 1) := by decide +kernel
theorem d2_7 : decode prog_59_method_1_code 7 = .ok (.aload_n 0, 1) := by decide +kernel
theorem d2_8 : decode prog_59_method_1_code 8 = .ok (.iload_n 2, 1) := by decide +kernel
theorem d2_9 : decode prog_59_method_1_code 9 = .ok (.anewarray 9, 3) := by decide +kernel
theorem d2_12 : decode prog_59_method_1_code 12 = .ok (.putfield 11, 3) := by decide +kernel
theorem d2_15 : decode prog_59_method_1_code 15 = .ok (.aload_n 0, 1) := by decide +kernel
theorem d2_16 : decode prog_59_method_1_code 16 = .ok (.iload_n 2, 1) := by decide +kernel
theorem d2_17 : decode prog_59_method_1_code 17 = .ok (.newarray .int, 2) := by decide +kernel
theorem d2_19 : decode prog_59_method_1_code 19 = .ok (.putfield 17, 3) := by decide +kernel
theorem d2_22 : decode prog_59_method_1_code 22 = .ok (.aload_n 0, 1) := by decide +kernel
theorem d2_23 : decode prog_59_method_1_code 23 = .ok (.iload_n 2, 1) := by decide +kernel
theorem d2_24 : decode prog_59_method_1_code 24 = .ok (.newarray .long, 2) := by decide +kernel
theorem d2_26 : decode prog_59_method_1_code 26 = .ok (.putfield 21, 3) := by decide +kernel
theorem d2_29 : decode prog_59_method_1_code 29 = .ok (.iconst 0, 1) := by decide +kernel
theorem d2_30 : decode prog_59_method_1_code 30 = .ok (.istore_n 3, 1) := by decide +kernel
theorem d2_31 : decode prog_59_method_1_code 31 = .ok (.iconst 0, 1) := by decide +kernel
theorem d2_32 : decode prog_59_method_1_code 32 = .ok (.istore 4, 2) := by decide +kernel
theorem d2_34 : decode prog_59_method_1_code 34 = .ok (.iload 4, 2) := by decide +kernel
theorem d2_36 : decode prog_59_method_1_code 36 = .ok (.iload_n 2, 1) := by decide +kernel
theorem d2_37 : decode prog_59_method_1_code 37 = .ok (.if_icmp .ge 77, 3) := by decide +kernel
theorem d2_40 : decode prog_59_method_1_code 40 = .ok (.aload_n 0, 1) := by decide +kernel
theorem d2_41 : decode prog_59_method_1_code 41 = .ok (.getfield 11, 3) := by decide +kernel
theorem d2_44 : decode prog_59_method_1_code 44 = .ok (.iload 4, 2) := by decide +kernel
theorem d2_46 : decode prog_59_method_1_code 46 = .ok (.aload_n 1, 1) := by decide +kernel
theorem d2_47 : decode prog_59_method_1_code 47 = .ok (.iload 4, 2) := by decide +kernel
theorem d2_49 : decode prog_59_method_1_code 49 = .ok (.iaload, 1) := by decide +kernel
theorem d2_50 : decode prog_59_method_1_code 50 = .ok (.anewarray 25, 3) := by decide +kernel
theorem d2_53 : decode prog_59_method_1_code 53 = .ok (.aastore, 1) := by decide +kernel
theorem d2_54 : decode prog_59_method_1_code 54 = .ok (.aload_n 0, 1) := by decide +kernel
theorem d2_55 : decode prog_59_method_1_code 55 = .ok (.getfield 17, 3) := by decide +kernel
theorem d2_58 : decode prog_59_method_1_code 58 = .ok (.iload 4, 2) := by decide +kernel
theorem d2_60 : decode prog_59_method_1_code 60 = .ok (.aload_n 0, 1) := by decide +kernel
theorem d2_61 : decode prog_59_method_1_code 61 = .ok (.getfield 11, 3) := by decide +kernel
theorem d2_64 : decode prog_59_method_1_code 64 = .ok (.iload 4, 2) := by decide +kernel
theorem d2_66 : decode prog_59_method_1_code 66 = .ok (.aaload, 1) := by decide +kernel
theorem d2_67 : decode prog_59_method_1_code 67 = .ok (.arraylength, 1) := by decide +kernel
theorem d2_68 : decode prog_59_method_1_code 68 = .ok (.iastore, 1) := by decide +kernel
theorem d2_69 : decode prog_59_method_1_code 69 = .ok (.iload_n 3, 1) := by decide +kernel
theorem d2_70 : decode prog_59_method_1_code 70 = .ok (.aload_n 0, 1) := by decide +kernel
theorem d2_71 : decode prog_59_method_1_code 71 = .ok (.getfield 17, 3) := by decide +kernel
theorem d2_74 : decode prog_59_method_1_code 74 = .ok (.iload 4, 2) := by decide +kernel
theorem d2_76 : decode prog_59_method_1_code 76 = .ok (.iaload, 1) := by decide +kernel
theorem d2_77 : decode prog_59_method_1_code 77 = .ok (.iadd, 1) := by decide +kernel
theorem d2_78 : decode prog_59_method_1_code 78 = .ok (.istore_n 3, 1) := by decide +kernel
theorem d2_79 : decode prog_59_method_1_code 79 = .ok (.aload_n 0, 1) := by decide +kernel
theorem d2_80 : decode prog_59_method_1_code 80 = .ok (.getfield 17, 3) := by decide +kernel
theorem d2_83 : decode prog_59_method_1_code 83 = .ok (.iload 4, 2) := by decide +kernel
theorem d2_85 : decode prog_59_method_1_code 85 = .ok (.iaload, 1) := by decide +kernel
theorem d2_86 : decode prog_59_method_1_code 86 = .ok (.bipush 64, 2) := by decide +kernel
theorem d2_88 : decode prog_59_method_1_code 88 = .ok (.if_icmp .gt 20, 3) := by decide +kernel
theorem d2_91 : decode prog_59_method_1_code 91 = .ok (.aload_n 0, 1) := by decide +kernel
theorem d2_92 : decode prog_59_method_1_code 92 = .ok (.getfield 21, 3) := by decide +kernel
theorem d2_95 : decode prog_59_method_1_code 95 = .ok (.iload 4, 2) := by decide +kernel
theorem d2_97 : decode prog_59_method_1_code 97 = .ok (.aload_n 0, 1) := by decide +kernel
theorem d2_98 : decode prog_59_method_1_code 98 = .ok (.getfield 17, 3) := by decide +kernel
theorem d2_101 : decode prog_59_method_1_code 101 = .ok (.iload 4, 2) := by decide +kernel
theorem d2_103 : decode prog_59_method_1_code 103 = .ok (.iaload, 1) := by decide +kernel
theorem d4_0 : decode prog_59_method_2_code 0 = .ok (.iload_n 0, 1) := by decide +kernel
theorem d4_1 : decode prog_59_method_2_code 1 = .ok (.bipush 64, 2) := by decide +kernel
theorem d4_3 : decode prog_59_method_2_code 3 = .ok (.if_icmp .ne 9, 3) := by decide +kernel
theorem d4_12 : decode prog_59_method_2_code 12 = .ok (.lconst 1, 1) := by decide +kernel
theorem d4_13 : decode prog_59_method_2_code 13 = .ok (.iload_n 0, 1) := by decide +kernel
theorem d4_14 : decode prog_59_method_2_code 14 = .ok (.lshl, 1) := by decide +kernel
theorem d4_15 : decode prog_59_method_2_code 15 = .ok (.lconst 1, 1) := by decide +kernel
theorem d4_16 : decode prog_59_method_2_code 16 = .ok (.lsub, 1) := by decide +kernel
theorem d4_17 : decode prog_59_method_2_code 17 = .ok (.lreturn, 1) := by decide +kernel
theorem ef71 (m : MethodId) (x0 : Int32) : entryFrame m #[(.int x0)] 1 = mkF m 0 #[.val (.int x0)] [] := by first | (simp [entryFrame, mkF, argsToLocals, Value.category]; done) | rfl
theorem pn72 : plainName "com/example/caprice/caprice/solver/Domains" = true := by first | (simp [plainName, overriddenIn]; done) | decide +kernel
def Q4_0 (Z : State) (h0 : Heap) (n0 : Nat) (v : Option Value) (h : Heap) (L : List Loc) : Prop := v = some (.long (3 : Int64)) ∧ Fr n0 L ∧ h = h0
set_option maxRecDepth 65536 in
set_option maxHeartbeats 40000000 in
theorem rm4_0 (l : Launch) (Z : State) (a0 : Array Value) (hw : ∀ d ∈ tables_1, d.before a0 Z = true) (ws : List Jvm.Cond) (h0 : Heap) (n0 : Nat) (Z0 : n0 ≤ h0.size) (O0 : Old Z n0 h0) :
    MetFree l (⟨"com/example/caprice/caprice/solver/Domains", "every", "(I)J"⟩ : MethodName) (head1 (Jvm.Cond.code (⟨"com/example/caprice/caprice/solver/Domains", "every", "(I)J"⟩ : MethodName) prog_59_method_2_code 1 (some .long) :: ws) ({ frames := 0, cells := 0, slots := 0, locals := 0 } : Room)) (fun a U => a = #[(.int (2 : Int32))] ∧ Z.Warmed39 U.vm ∧ U.heap = h0) (fun _ _ _ _ _ => True) (fun _ U o U' => ∃ v L, o = .returned v ∧ Q4_0 Z  h0 n0 v U'.heap L ∧ FrameEnd U o U' L ({ frames := 0, cells := 0, slots := 0, locals := 0 } : Room).cells ({ frames := 0, cells := 0, slots := 0, locals := 0 } : Room).slots) := by
  refine MetFree.of_bodySF (plainFor_of_name pn72) hisR ?_
  intro p e s m args below meth c s₁ Bd hml0 hP hK
  obtain ⟨rfl, hZ, hh⟩ := hP
  have hx := Bd.exec
  have hby := Bd.bytes
  have hml : c.maxLocals = 1 := hml0
  have hown : s.vm.findClass "com/example/caprice/caprice/solver/Domains" = some m.cls := findClass_of_methodNamed Bd.named
  have hnm := (name_of_methodNamed Bd.named Bd.method).1
  have X0 : Stand p l e ({ frames := 0, cells := 0, slots := 0, locals := 0 } : Room) s m #[(.int (2 : Int32))] below meth c s₁ [] 0 0 := Stand.of_body Bd
  have e0 : s₁.heap = h0 := by rw [← hh, Bd.state]; rfl
  have N0 := Fr.nil n0
  have pre0 : ∀ t, Steps p.tables e below (s₁.setTop (mkF m 0 #[.val (.int (2 : Int32))] [])) t → Steps p.tables e below (s₁.setTop (entryFrame m #[(.int (2 : Int32))] 1)) t := fun t k => castTop (ef71 m (2 : Int32)) k
  obtain ⟨fs, hr, hrun, hended, hW, hsame⟩ := X0.leave (v := some (.long (3 : Int64))) (fun h => by rw [Bd.returns] at h; cases h)
  refine ⟨_, _, pre0 _ ?_, hrun, hended, _, _, rfl, ?_, ⟨_, rfl⟩, hW, hsame.mono (by decide) (by decide)⟩
  · show Steps p.tables e below (s₁.setTop (mkF m 0 #[.val (.int (2 : Int32))] [])) _
    refine XS.iloadN X0.here hx rfl (hb hby d4_0) rfl ?_
    show Steps p.tables e below (s₁.setTop (mkF m 1 #[.val (.int (2 : Int32))] [(.int (2 : Int32))])) _
    refine XS.bipush X0.here hx rfl (hb hby d4_1) ?_
    show Steps p.tables e below (s₁.setTop (mkF m 3 #[.val (.int (2 : Int32))] [(.int (64 : Int32)), (.int (2 : Int32))])) _
    refine XS.icmpYes X0.here hx rfl (pc0 := 3) (pc' := 12) rfl (hb hby d4_3) rfl (feq (by decide : ¬ ((2 : Int32) = (64 : Int32)))).2 (by decide) (by decide) ?_
    show Steps p.tables e below (s₁.setTop (mkF m 12 #[.val (.int (2 : Int32))] [])) _
    refine XS.lconst X0.here hx rfl (hb hby d4_12) ?_
    show Steps p.tables e below (s₁.setTop (mkF m 13 #[.val (.int (2 : Int32))] [(.long (1 : Int64))])) _
    refine XS.iloadN X0.here hx rfl (hb hby d4_13) rfl ?_
    show Steps p.tables e below (s₁.setTop (mkF m 14 #[.val (.int (2 : Int32))] [(.int (2 : Int32)), (.long (1 : Int64))])) _
    refine XS.lshl X0.here hx rfl (hb hby d4_14) rfl ?_
    rw [show ((1 : Int64) <<< ((2 : Int32) &&& 0x3f).toInt64) = (4 : Int64) from by decide]
    show Steps p.tables e below (s₁.setTop (mkF m 15 #[.val (.int (2 : Int32))] [(.long (4 : Int64))])) _
    refine XS.lconst X0.here hx rfl (hb hby d4_15) ?_
    show Steps p.tables e below (s₁.setTop (mkF m 16 #[.val (.int (2 : Int32))] [(.long (1 : Int64)), (.long (4 : Int64))])) _
    refine XS.lsub X0.here hx rfl (hb hby d4_16) rfl ?_
    rw [show ((4 : Int64) - (1 : Int64)) = (3 : Int64) from by decide]
    show Steps p.tables e below (s₁.setTop (mkF m 17 #[.val (.int (2 : Int32))] [(.long (3 : Int64))])) _
    exact Jvm.Stand.lreturnOut X0 hx Bd.returns (hb hby d4_17) hr
  · exact ⟨rfl, N0, e0⟩
theorem pd73 : parseMethodDescriptor "(I)J" = some ⟨[.int], some .long⟩ := by decide +kernel
theorem d2_104 : decode prog_59_method_1_code 104 = .ok (.invokestatic 26, 3) := by decide +kernel
theorem d2_107 : decode prog_59_method_1_code 107 = .ok (.lastore, 1) := by decide +kernel
theorem d2_108 : decode prog_59_method_1_code 108 = .ok (.iinc 4 1, 3) := by decide +kernel
theorem d2_111 : decode prog_59_method_1_code 111 = .ok (.goto (-77), 3) := by decide +kernel
theorem d2_114 : decode prog_59_method_1_code 114 = .ok (.aload_n 0, 1) := by decide +kernel
theorem d2_115 : decode prog_59_method_1_code 115 = .ok (.iconst 2, 1) := by decide +kernel
theorem d2_116 : decode prog_59_method_1_code 116 = .ok (.iload_n 3, 1) := by decide +kernel
theorem d2_117 : decode prog_59_method_1_code 117 = .ok (.imul, 1) := by decide +kernel
theorem d2_118 : decode prog_59_method_1_code 118 = .ok (.newarray .int, 2) := by decide +kernel
theorem d2_120 : decode prog_59_method_1_code 120 = .ok (.putfield 30, 3) := by decide +kernel
theorem d2_123 : decode prog_59_method_1_code 123 = .ok (.aload_n 0, 1) := by decide +kernel
theorem d2_124 : decode prog_59_method_1_code 124 = .ok (.iload_n 2, 1) := by decide +kernel
theorem d2_125 : decode prog_59_method_1_code 125 = .ok (.newarray .int, 2) := by decide +kernel
theorem d2_127 : decode prog_59_method_1_code 127 = .ok (.putfield 33, 3) := by decide +kernel
theorem d2_130 : decode prog_59_method_1_code 130 = .ok (.aload_n 0, 1) := by decide +kernel
theorem d2_131 : decode prog_59_method_1_code 131 = .ok (.iload_n 2, 1) := by decide +kernel
theorem d2_132 : decode prog_59_method_1_code 132 = .ok (.newarray .boolean, 2) := by decide +kernel
theorem d2_134 : decode prog_59_method_1_code 134 = .ok (.putfield 36, 3) := by decide +kernel
theorem d2_137 : decode prog_59_method_1_code 137 = .ok (.return_, 1) := by decide +kernel
theorem ef94 (m : MethodId) (x0 : Addr) (x1 : Addr) : entryFrame m #[(.ref x0), (.ref x1)] 5 = mkF m 0 #[.val (.ref x0), .val (.ref x1), .unset, .unset, .unset] [] := by first | (simp [entryFrame, mkF, argsToLocals, Value.category]; done) | rfl
def Q2_1 (Z : State) (ob0 : Addr) (ob1 : Addr) (k_ob1 : ClassId) (h0 : Heap) (n0 : Nat) (v : Option Value) (h : Heap) (L : List Loc) : Prop := ∃ b3 : Addr, ∃ b5 : Addr, ∃ b9 : Addr, ∃ b16 : Addr, ∃ b44 : Addr, ∃ b72 : Addr, ∃ b100 : Addr, ∃ b124 : Addr, ∃ b128 : Addr, ∃ b131 : Addr, ∃ kk_b3 : ClassId, ∃ kk_b5 : ClassId, ∃ kk_b9 : ClassId, ∃ kk_b124 : ClassId, ∃ kk_b128 : ClassId, ∃ kk_b131 : ClassId, ∃ kk_b16 : ClassId, ∃ kk_b44 : ClassId, ∃ kk_b72 : ClassId, ∃ kk_b100 : ClassId, v = none ∧ Fr n0 L ∧ Keep h0 h [ob0] ∧ Old Z n0 h ∧ h0.size ≤ b3 ∧ h0.size ≤ b5 ∧ h0.size ≤ b9 ∧ h0.size ≤ b16 ∧ h0.size ≤ b44 ∧ h0.size ≤ b72 ∧ h0.size ≤ b100 ∧ h0.size ≤ b124 ∧ h0.size ≤ b128 ∧ h0.size ≤ b131 ∧ b3 < b5 ∧ b5 < b9 ∧ b9 < b16 ∧ b16 < b44 ∧ b44 < b72 ∧ b72 < b100 ∧ b100 < b124 ∧ b124 < b128 ∧ b128 < b131 ∧ Exa Z h ob0 "com/example/caprice/caprice/solver/Domains" ∧ Fld Z h ob0 "com/example/caprice/caprice/solver/Domains" "reasons" "[[[I" (.ref b3) ∧ Fld Z h ob0 "com/example/caprice/caprice/solver/Domains" "left" "[I" (.ref b5) ∧ Fld Z h ob0 "com/example/caprice/caprice/solver/Domains" "leftMasks" "[J" (.ref b9) ∧ Fld Z h ob0 "com/example/caprice/caprice/solver/Domains" "trail" "[I" (.ref b124) ∧ Fld Z h ob0 "com/example/caprice/caprice/solver/Domains" "gathered" "[I" (.ref b128) ∧ Fld Z h ob0 "com/example/caprice/caprice/solver/Domains" "marked" "[Z" (.ref b131) ∧ Fld Z h ob0 "com/example/caprice/caprice/solver/Domains" "trailSize" "I" (.int (0 : Int32)) ∧ Fld Z h ob0 "com/example/caprice/caprice/solver/Domains" "gatheredCount" "I" (.int (0 : Int32)) ∧ Arv Z h b3 kk_b3 (.array (.array .int)) (4 : Int32) [(.ref b16), (.ref b44), (.ref b72), (.ref b100)] .null ∧ Exa Z h b3 "[[[I" ∧ OvrA Z kk_b3 (.array .int) "[[I" ∧ Arv Z h b5 kk_b5 .int (4 : Int32) [(.int (2 : Int32)), (.int (2 : Int32)), (.int (2 : Int32)), (.int (2 : Int32))] (.int (0 : Int32)) ∧ Exa Z h b5 "[I" ∧ Arv Z h b9 kk_b9 .long (4 : Int32) [(.long (3 : Int64)), (.long (3 : Int64)), (.long (3 : Int64)), (.long (3 : Int64))] (.long (0 : Int64)) ∧ Exa Z h b9 "[J" ∧ Arv Z h b124 kk_b124 .int (16 : Int32) [(.int (0 : Int32)), (.int (0 : Int32)), (.int (0 : Int32)), (.int (0 : Int32)), (.int (0 : Int32)), (.int (0 : Int32)), (.int (0 : Int32)), (.int (0 : Int32)), (.int (0 : Int32)), (.int (0 : Int32)), (.int (0 : Int32)), (.int (0 : Int32)), (.int (0 : Int32)), (.int (0 : Int32)), (.int (0 : Int32)), (.int (0 : Int32))] (.int (0 : Int32)) ∧ Exa Z h b124 "[I" ∧ Arv Z h b128 kk_b128 .int (4 : Int32) [(.int (0 : Int32)), (.int (0 : Int32)), (.int (0 : Int32)), (.int (0 : Int32))] (.int (0 : Int32)) ∧ Exa Z h b128 "[I" ∧ Arv Z h b131 kk_b131 .boolean (4 : Int32) [(.int (0 : Int32)), (.int (0 : Int32)), (.int (0 : Int32)), (.int (0 : Int32))] (.int (0 : Int32)) ∧ Exa Z h b131 "[Z" ∧ Arv Z h b16 kk_b16 (.array .int) (2 : Int32) [.null, .null] .null ∧ Exa Z h b16 "[[I" ∧ OvrA Z kk_b16 .int "[I" ∧ Arv Z h b44 kk_b44 (.array .int) (2 : Int32) [.null, .null] .null ∧ Exa Z h b44 "[[I" ∧ OvrA Z kk_b44 .int "[I" ∧ Arv Z h b72 kk_b72 (.array .int) (2 : Int32) [.null, .null] .null ∧ Exa Z h b72 "[[I" ∧ OvrA Z kk_b72 .int "[I" ∧ Arv Z h b100 kk_b100 (.array .int) (2 : Int32) [.null, .null] .null ∧ Exa Z h b100 "[[I" ∧ OvrA Z kk_b100 .int "[I" ∧ True
set_option maxRecDepth 65536 in
set_option maxHeartbeats 40000000 in
theorem rm2_1 (l : Launch) (Z : State) (a0 : Array Value) (hw : ∀ d ∈ tables_1, d.before a0 Z = true) (ws : List Jvm.Cond) (ob0 : Addr) (ob1 : Addr) (k_ob1 : ClassId) (h0 : Heap) (n0 : Nat) (Z0 : n0 ≤ h0.size) (O0 : Old Z n0 h0) (PE_ob0 : Exa Z h0 ob0 "com/example/caprice/caprice/solver/Domains") (PF_ob0_reasons : Fld Z h0 ob0 "com/example/caprice/caprice/solver/Domains" "reasons" "[[[I" .null) (PF_ob0_left : Fld Z h0 ob0 "com/example/caprice/caprice/solver/Domains" "left" "[I" .null) (PF_ob0_leftMasks : Fld Z h0 ob0 "com/example/caprice/caprice/solver/Domains" "leftMasks" "[J" .null) (PF_ob0_trail : Fld Z h0 ob0 "com/example/caprice/caprice/solver/Domains" "trail" "[I" .null) (PF_ob0_gathered : Fld Z h0 ob0 "com/example/caprice/caprice/solver/Domains" "gathered" "[I" .null) (PF_ob0_marked : Fld Z h0 ob0 "com/example/caprice/caprice/solver/Domains" "marked" "[Z" .null) (PF_ob0_trailSize : Fld Z h0 ob0 "com/example/caprice/caprice/solver/Domains" "trailSize" "I" (.int (0 : Int32))) (PF_ob0_gatheredCount : Fld Z h0 ob0 "com/example/caprice/caprice/solver/Domains" "gatheredCount" "I" (.int (0 : Int32))) (PV_ob1 : Arv Z h0 ob1 k_ob1 .int (4 : Int32) [(.int (2 : Int32)), (.int (2 : Int32)), (.int (2 : Int32)), (.int (2 : Int32))] (.int (0 : Int32))) (ne_ob0_ob1 : ob0 ≠ ob1) (g_ob0 : n0 ≤ ob0) :
    MetFree l (⟨"com/example/caprice/caprice/solver/Domains", "<init>", "([I)V"⟩ : MethodName) (head1 (Jvm.Cond.code (⟨"com/example/caprice/caprice/solver/Domains", "<init>", "([I)V"⟩ : MethodName) prog_59_method_1_code 5 none :: ws) ({ frames := 1, cells := 10, slots := 44, locals := 14 } : Room)) (fun a U => a = #[(.ref ob0), (.ref ob1)] ∧ Z.Warmed39 U.vm ∧ U.heap = h0) (fun _ _ _ _ _ => True) (fun _ U o U' => ∃ v L, o = .returned v ∧ Q2_1 Z  ob0 ob1 k_ob1 h0 n0 v U'.heap L ∧ FrameEnd U o U' L ({ frames := 1, cells := 10, slots := 44, locals := 14 } : Room).cells ({ frames := 1, cells := 10, slots := 44, locals := 14 } : Room).slots) := by
  refine MetFree.of_bodySF (plainFor_of_name pn72) hisR ?_
  intro p e s m args below meth c s₁ Bd hml0 hP hK
  obtain ⟨rfl, hZ, hh⟩ := hP
  have hx := Bd.exec
  have hby := Bd.bytes
  have hml : c.maxLocals = 5 := hml0
  have hown : s.vm.findClass "com/example/caprice/caprice/solver/Domains" = some m.cls := findClass_of_methodNamed Bd.named
  have hnm := (name_of_methodNamed Bd.named Bd.method).1
  have X0 : Stand p l e ({ frames := 1, cells := 10, slots := 44, locals := 14 } : Room) s m #[(.ref ob0), (.ref ob1)] below meth c s₁ [] 0 0 := Stand.of_body Bd
  have e0 : s₁.heap = h0 := by rw [← hh, Bd.state]; rfl
  have N0 := Fr.nil n0
  have pre0 : ∀ t, Steps p.tables e below (s₁.setTop (mkF m 0 #[.val (.ref ob0), .val (.ref ob1), .unset, .unset, .unset] [])) t → Steps p.tables e below (s₁.setTop (entryFrame m #[(.ref ob0), (.ref ob1)] 5)) t := fun t k => castTop (ef94 m ob0 ob1) k
  obtain ⟨T1, X1, e1, st1⟩ := initO X0 hx hZ hown (hw _ (List.mem_of_getElem? (i := 11) rfl)) (hw _ (List.mem_of_getElem? (i := 12) rfl)) (hw _ (List.mem_of_getElem? (i := 13) rfl)) e0 (g := (mkF m 1 #[.val (.ref ob0), .val (.ref ob1), .unset, .unset, .unset] [(.ref ob0)])) rfl (by rw [hml]; rfl) rfl (hb hby d2_1) (by decide) (W := 0) (by show 2 * 0 + _ ≤ _; exact Nat.le_of_eq rfl) (by decide)
  obtain ⟨ac2, aA2, aq2, aS2, aN2, aH2, aG2⟩ := id PV_ob1
  obtain ⟨T3, h3, k3, X3, e3, E3, A3, B3, OV3, st3⟩ := newRA X1 hx hZ hown (C := "[[I") (by decide) (hw _ (List.mem_of_getElem? (i := 14) rfl)) (hw _ (List.mem_of_getElem? (i := 15) rfl)) e1 (g := (mkF m 9 #[.val (.ref ob0), .val (.ref ob1), .val (.int (4 : Int32)), .unset, .unset] [(.int (4 : Int32)), (.ref ob0)])) rfl (hb hby d2_9) rfl (by decide) (cap := 4) (by decide) (by decide) (by decide) (by decide) (ad := "[[[I") (by decide)
  obtain ⟨b3, gg3⟩ : ∃ z, z = h0.size := ⟨_, rfl⟩
  rw [← gg3] at A3 B3 st3
  have bo_b3 : h0.size ≤ b3 := Nat.le_of_eq gg3.symm
  have g_b3 : n0 ≤ b3 := Nat.le_trans (own_n0 O0) bo_b3
  have sz_b3 : h0.size ≤ b3 := Nat.le_trans (Keep.refl h0 [ob0]).1 bo_b3
  have V_b3 : Arv Z h3 b3 k3 (.array (.array .int)) (4 : Int32) [.null, .null, .null, .null] .null := (Arv.new A3 (by decide)).pad (pad_rep [] .null 4)
  have lb_b3 : b3 < h3.size := A3.lt
  have KK3 : Keep h0 h3 [ob0] := (Keep.refl h0 [ob0]).ext E3
  have O3 := O0.ext E3
  obtain ⟨T4, h4, X4, e4, W4, st4⟩ := putF X3 hx hZ hown (host := "") (Or.inl (hw _ (List.mem_of_getElem? (i := 16) rfl))) Via.refl e3 (PF_ob0_reasons.ext E3) (PE_ob0.ext E3) (Or.inr ⟨(hw _ (List.mem_of_getElem? (i := 17) rfl)), rfl, hnm⟩) (hw _ (List.mem_of_getElem? (i := 6) rfl)) (ty := (.array (.array (.array .int)))) (by decide) rfl rfl (g := (mkF m 12 #[.val (.ref ob0), .val (.ref ob1), .val (.int (4 : Int32)), .unset, .unset] [(.ref b3), (.ref ob0)])) rfl rfl (hb hby d2_12)
  have Fw4 := (PF_ob0_reasons.ext E3).same W4
  have N4 := Fr.snoc X4 N0 g_ob0
  have O4 := O3.wr W4 g_ob0
  have KK4 : Keep h0 h4 [ob0] := KK3.wr W4 (Or.inl (List.mem_of_getElem? (i := 0) rfl))
  obtain ⟨T5, h5, k5, X5, e5, E5, A5, B5, st5⟩ := newPE X4 hx hZ (hw _ (List.mem_of_getElem? (i := 4) rfl)) e4 (g := (mkF m 17 #[.val (.ref ob0), .val (.ref ob1), .val (.int (4 : Int32)), .unset, .unset] [(.int (4 : Int32)), (.ref ob0)])) rfl (hb hby d2_17) rfl (by decide) (cap := 4) (by decide) (by decide) (by decide) (by decide) (ad := "[I") (by decide)
  obtain ⟨b5, gg5⟩ : ∃ z, z = h4.size := ⟨_, rfl⟩
  rw [← gg5] at A5 B5 st5
  have bo_b5 : h4.size ≤ b5 := Nat.le_of_eq gg5.symm
  have g_b5 : n0 ≤ b5 := Nat.le_trans (own_n0 O4) bo_b5
  have sz_b5 : h0.size ≤ b5 := Nat.le_trans KK4.1 bo_b5
  have V_b5 : Arv Z h5 b5 k5 .int (4 : Int32) [(.int (0 : Int32)), (.int (0 : Int32)), (.int (0 : Int32)), (.int (0 : Int32))] (.int (0 : Int32)) := (Arv.new A5 (by decide)).pad (pad_rep [] (.int (0 : Int32)) 4)
  have lb_b5 : b5 < h5.size := A5.lt
  have KK5 : Keep h0 h5 [ob0] := KK4.ext E5
  have O5 := O4.ext E5
  have J6 := (((PF_ob0_left.ext E3).other W4 (Or.inr (slot_ne (Or.inr (hw _ (List.mem_of_getElem? (i := 19) rfl))) (Or.inr (hw _ (List.mem_of_getElem? (i := 17) rfl))) (by decide) (t := (.array .int)) (t' := (.array (.array (.array .int)))) (by decide) (by decide)))).ext E5)
  have J7 := (((PE_ob0.ext E3).wr W4).ext E5)
  obtain ⟨T8, h8, X8, e8, W8, st8⟩ := putF X5 hx hZ hown (host := "") (Or.inl (hw _ (List.mem_of_getElem? (i := 18) rfl))) Via.refl e5 J6 J7 (Or.inr ⟨(hw _ (List.mem_of_getElem? (i := 19) rfl)), rfl, hnm⟩) (hw _ (List.mem_of_getElem? (i := 6) rfl)) (ty := (.array .int)) (by decide) rfl rfl (g := (mkF m 19 #[.val (.ref ob0), .val (.ref ob1), .val (.int (4 : Int32)), .unset, .unset] [(.ref b5), (.ref ob0)])) rfl rfl (hb hby d2_19)
  have Fw8 := J6.same W8
  have N8 := Fr.snoc X8 N4 g_ob0
  have O8 := O5.wr W8 g_ob0
  have KK8 : Keep h0 h8 [ob0] := KK5.wr W8 (Or.inl (List.mem_of_getElem? (i := 0) rfl))
  obtain ⟨T9, h9, k9, X9, e9, E9, A9, B9, st9⟩ := newPE X8 hx hZ (hw _ (List.mem_of_getElem? (i := 20) rfl)) e8 (g := (mkF m 24 #[.val (.ref ob0), .val (.ref ob1), .val (.int (4 : Int32)), .unset, .unset] [(.int (4 : Int32)), (.ref ob0)])) rfl (hb hby d2_24) rfl (by decide) (cap := 4) (by decide) (by decide) (by decide) (by decide) (ad := "[J") (by decide)
  obtain ⟨b9, gg9⟩ : ∃ z, z = h8.size := ⟨_, rfl⟩
  rw [← gg9] at A9 B9 st9
  have bo_b9 : h8.size ≤ b9 := Nat.le_of_eq gg9.symm
  have g_b9 : n0 ≤ b9 := Nat.le_trans (own_n0 O8) bo_b9
  have sz_b9 : h0.size ≤ b9 := Nat.le_trans KK8.1 bo_b9
  have V_b9 : Arv Z h9 b9 k9 .long (4 : Int32) [(.long (0 : Int64)), (.long (0 : Int64)), (.long (0 : Int64)), (.long (0 : Int64))] (.long (0 : Int64)) := (Arv.new A9 (by decide)).pad (pad_rep [] (.long (0 : Int64)) 4)
  have lb_b9 : b9 < h9.size := A9.lt
  have KK9 : Keep h0 h9 [ob0] := KK8.ext E9
  have O9 := O8.ext E9
  have J10 := (((((PF_ob0_leftMasks.ext E3).other W4 (Or.inr (slot_ne (Or.inr (hw _ (List.mem_of_getElem? (i := 22) rfl))) (Or.inr (hw _ (List.mem_of_getElem? (i := 17) rfl))) (by decide) (t := (.array .long)) (t' := (.array (.array (.array .int)))) (by decide) (by decide)))).ext E5).other W8 (Or.inr (slot_ne (Or.inr (hw _ (List.mem_of_getElem? (i := 22) rfl))) (Or.inr (hw _ (List.mem_of_getElem? (i := 19) rfl))) (by decide) (t := (.array .long)) (t' := (.array .int)) (by decide) (by decide)))).ext E9)
  obtain ⟨T11, h11, X11, e11, W11, st11⟩ := putF X9 hx hZ hown (host := "") (Or.inl (hw _ (List.mem_of_getElem? (i := 21) rfl))) Via.refl e9 J10 ((J7.wr W8).ext E9) (Or.inr ⟨(hw _ (List.mem_of_getElem? (i := 22) rfl)), rfl, hnm⟩) (hw _ (List.mem_of_getElem? (i := 6) rfl)) (ty := (.array .long)) (by decide) rfl rfl (g := (mkF m 26 #[.val (.ref ob0), .val (.ref ob1), .val (.int (4 : Int32)), .unset, .unset] [(.ref b9), (.ref ob0)])) rfl rfl (hb hby d2_26)
  have Fw11 := J10.same W11
  have N11 := Fr.snoc X11 N8 g_ob0
  have O11 := O9.wr W11 g_ob0
  have KK11 : Keep h0 h11 [ob0] := KK9.wr W11 (Or.inl (List.mem_of_getElem? (i := 0) rfl))
  have J12 := ((((Fw4.ext E5).other W8 (Or.inr (slot_ne (Or.inr (hw _ (List.mem_of_getElem? (i := 17) rfl))) (Or.inr (hw _ (List.mem_of_getElem? (i := 19) rfl))) (by decide) (t := (.array (.array (.array .int)))) (t' := (.array .int)) (by decide) (by decide)))).ext E9).other W11 (Or.inr (slot_ne (Or.inr (hw _ (List.mem_of_getElem? (i := 17) rfl))) (Or.inr (hw _ (List.mem_of_getElem? (i := 22) rfl))) (by decide) (t := (.array (.array (.array .int)))) (t' := (.array .long)) (by decide) (by decide))))
  obtain ⟨T13, X13, e13, st13⟩ := getF X11 hx hZ hown (host := "") (Or.inl (hw _ (List.mem_of_getElem? (i := 16) rfl))) Via.refl e11 J12 (g := (mkF m 41 #[.val (.ref ob0), .val (.ref ob1), .val (.int (4 : Int32)), .val (.int (0 : Int32)), .val (.int (0 : Int32))] [(.ref ob0)])) rfl rfl (hb hby d2_41)
  have J15 := ((((((PV_ob1.ext E3).other W4 (Ne.symm ne_ob0_ob1)).ext E5).other W8 (Ne.symm ne_ob0_ob1)).ext E9).other W11 (Ne.symm ne_ob0_ob1))
  obtain ⟨ac14, aA14, aq14, aS14, aN14, aH14, aG14⟩ := id J15
  obtain ⟨T16, h16, k16, X16, e16, E16, A16, B16, OV16, st16⟩ := newRA X13 hx hZ hown (C := "[I") (by decide) (hw _ (List.mem_of_getElem? (i := 23) rfl)) (hw _ (List.mem_of_getElem? (i := 24) rfl)) e13 (g := (mkF m 50 #[.val (.ref ob0), .val (.ref ob1), .val (.int (4 : Int32)), .val (.int (0 : Int32)), .val (.int (0 : Int32))] [(.int (2 : Int32)), (.int (0 : Int32)), (.ref b3)])) rfl (hb hby d2_50) rfl (by decide) (cap := 2) (by decide) (by decide) (by decide) (by decide) (ad := "[[I") (by decide)
  obtain ⟨b16, gg16⟩ : ∃ z, z = h11.size := ⟨_, rfl⟩
  rw [← gg16] at A16 B16 st16
  have bo_b16 : h11.size ≤ b16 := Nat.le_of_eq gg16.symm
  have g_b16 : n0 ≤ b16 := Nat.le_trans (own_n0 O11) bo_b16
  have sz_b16 : h0.size ≤ b16 := Nat.le_trans KK11.1 bo_b16
  have V_b16 : Arv Z h16 b16 k16 (.array .int) (2 : Int32) [.null, .null] .null := (Arv.new A16 (by decide)).pad (pad_rep [] .null 2)
  have lb_b16 : b16 < h16.size := A16.lt
  have KK16 : Keep h0 h16 [ob0] := KK11.ext E16
  have O16 := O11.ext E16
  have J18 := ((((((V_b3.other W4 (Ne.symm (Nat.ne_of_lt (Nat.lt_of_lt_of_le PE_ob0.lt bo_b3)))).ext E5).other W8 (Ne.symm (Nat.ne_of_lt (Nat.lt_of_lt_of_le PE_ob0.lt bo_b3)))).ext E9).other W11 (Ne.symm (Nat.ne_of_lt (Nat.lt_of_lt_of_le PE_ob0.lt bo_b3)))).ext E16)
  obtain ⟨ac17, aA17, aq17, aS17, aN17, aH17, aG17⟩ := id J18
  obtain ⟨T19, h19, X19, e19, W19, st19⟩ := stR X16 hx hZ e16 aA17 (j := (0 : Int32)) (inb_of aS17 ⟨by decide, by decide⟩) rfl (Sto.ofVA aA17 aq17 OV3 (Ins.self B16)) (g := (mkF m 53 #[.val (.ref ob0), .val (.ref ob1), .val (.int (4 : Int32)), .val (.int (0 : Int32)), .val (.int (0 : Int32))] [(.ref b16), (.int (0 : Int32)), (.ref b3)])) rfl rfl (hb hby d2_53)
  have V_b3_19 : Arv Z h19 b3 k3 (.array (.array .int)) (4 : Int32) [(.ref b16), .null, .null, .null] .null := Arv.set aA17 aq17 aS17 aN17 aH17 aG17 rfl W19 0 rfl (Nat.le_of_ble_eq_true rfl)
  have N19 := Fr.snoc X19 N11 g_b3
  have O19 := O16.wr W19 g_b3
  have KK19 : Keep h0 h19 [ob0] := KK16.wr W19 (Or.inr sz_b3)
  have J20 := ((((Fw8.ext E9).other W11 (Or.inr (slot_ne (Or.inr (hw _ (List.mem_of_getElem? (i := 19) rfl))) (Or.inr (hw _ (List.mem_of_getElem? (i := 22) rfl))) (by decide) (t := (.array .int)) (t' := (.array .long)) (by decide) (by decide)))).ext E16).other W19 (Or.inl (Nat.ne_of_lt (Nat.lt_of_lt_of_le PE_ob0.lt bo_b3))))
  obtain ⟨T21, X21, e21, st21⟩ := getF X19 hx hZ hown (host := "") (Or.inl (hw _ (List.mem_of_getElem? (i := 18) rfl))) Via.refl e19 J20 (g := (mkF m 55 #[.val (.ref ob0), .val (.ref ob1), .val (.int (4 : Int32)), .val (.int (0 : Int32)), .val (.int (0 : Int32))] [(.ref ob0)])) rfl rfl (hb hby d2_55)
  obtain ⟨T22, X22, e22, st22⟩ := getF X21 hx hZ hown (host := "") (Or.inl (hw _ (List.mem_of_getElem? (i := 16) rfl))) Via.refl e21 ((J12.ext E16).other W19 (Or.inl (Nat.ne_of_lt (Nat.lt_of_lt_of_le PE_ob0.lt bo_b3)))) (g := (mkF m 61 #[.val (.ref ob0), .val (.ref ob1), .val (.int (4 : Int32)), .val (.int (0 : Int32)), .val (.int (0 : Int32))] [(.ref ob0), (.int (0 : Int32)), (.ref b5)])) rfl rfl (hb hby d2_61)
  obtain ⟨ac23, aA23, aq23, aS23, aN23, aH23, aG23⟩ := id V_b3_19
  obtain ⟨ac24, aA24, aq24, aS24, aN24, aH24, aG24⟩ := id (V_b16.other W19 (Ne.symm (Nat.ne_of_lt (Nat.lt_of_lt_of_le (Nat.lt_of_lt_of_le (Nat.lt_of_lt_of_le (Nat.lt_of_lt_of_le (Nat.lt_of_lt_of_le (Nat.lt_of_lt_of_le lb_b3 (Keep.of_wr W4).1) E5.1) (Keep.of_wr W8).1) E9.1) (Keep.of_wr W11).1) bo_b16))))
  have J26 := (((((V_b5.other W8 (Ne.symm (Nat.ne_of_lt (Nat.lt_of_lt_of_le (Nat.lt_of_lt_of_le (Nat.lt_of_lt_of_le PE_ob0.lt E3.1) (Keep.of_wr W4).1) bo_b5)))).ext E9).other W11 (Ne.symm (Nat.ne_of_lt (Nat.lt_of_lt_of_le (Nat.lt_of_lt_of_le (Nat.lt_of_lt_of_le PE_ob0.lt E3.1) (Keep.of_wr W4).1) bo_b5)))).ext E16).other W19 (Ne.symm (Nat.ne_of_lt (Nat.lt_of_lt_of_le (Nat.lt_of_lt_of_le lb_b3 (Keep.of_wr W4).1) bo_b5))))
  obtain ⟨ac25, aA25, aq25, aS25, aN25, aH25, aG25⟩ := id J26
  obtain ⟨T27, h27, X27, e27, W27, st27⟩ := stI X22 hx hZ e22 aA25 (j := (0 : Int32)) (inb_of aS25 ⟨by decide, by decide⟩) (g := (mkF m 68 #[.val (.ref ob0), .val (.ref ob1), .val (.int (4 : Int32)), .val (.int (0 : Int32)), .val (.int (0 : Int32))] [(.int (2 : Int32)), (.int (0 : Int32)), (.ref b5)])) rfl rfl (hb hby d2_68)
  have V_b5_27 : Arv Z h27 b5 k5 .int (4 : Int32) [(.int (2 : Int32)), (.int (0 : Int32)), (.int (0 : Int32)), (.int (0 : Int32))] (.int (0 : Int32)) := Arv.set aA25 aq25 aS25 aN25 aH25 aG25 rfl W27 0 rfl (Nat.le_of_ble_eq_true rfl)
  have N27 := Fr.snoc X27 N19 g_b5
  have O27 := O19.wr W27 g_b5
  have KK27 : Keep h0 h27 [ob0] := KK19.wr W27 (Or.inr sz_b5)
  obtain ⟨T28, X28, e28, st28⟩ := getF X27 hx hZ hown (host := "") (Or.inl (hw _ (List.mem_of_getElem? (i := 18) rfl))) Via.refl e27 (J20.other W27 (Or.inl (Nat.ne_of_lt (Nat.lt_of_lt_of_le (Nat.lt_of_lt_of_le (Nat.lt_of_lt_of_le PE_ob0.lt E3.1) (Keep.of_wr W4).1) bo_b5)))) (g := (mkF m 71 #[.val (.ref ob0), .val (.ref ob1), .val (.int (4 : Int32)), .val (.int (0 : Int32)), .val (.int (0 : Int32))] [(.ref ob0), (.int (0 : Int32))])) rfl rfl (hb hby d2_71)
  obtain ⟨ac29, aA29, aq29, aS29, aN29, aH29, aG29⟩ := id V_b5_27
  obtain ⟨T30, X30, e30, st30⟩ := getF X28 hx hZ hown (host := "") (Or.inl (hw _ (List.mem_of_getElem? (i := 18) rfl))) Via.refl e28 (J20.other W27 (Or.inl (Nat.ne_of_lt (Nat.lt_of_lt_of_le (Nat.lt_of_lt_of_le (Nat.lt_of_lt_of_le PE_ob0.lt E3.1) (Keep.of_wr W4).1) bo_b5)))) (g := (mkF m 80 #[.val (.ref ob0), .val (.ref ob1), .val (.int (4 : Int32)), .val (.int (2 : Int32)), .val (.int (0 : Int32))] [(.ref ob0)])) rfl rfl (hb hby d2_80)
  obtain ⟨ac31, aA31, aq31, aS31, aN31, aH31, aG31⟩ := id V_b5_27
  have J32 := (((Fw11.ext E16).other W19 (Or.inl (Nat.ne_of_lt (Nat.lt_of_lt_of_le PE_ob0.lt bo_b3)))).other W27 (Or.inl (Nat.ne_of_lt (Nat.lt_of_lt_of_le (Nat.lt_of_lt_of_le (Nat.lt_of_lt_of_le PE_ob0.lt E3.1) (Keep.of_wr W4).1) bo_b5))))
  obtain ⟨T33, X33, e33, st33⟩ := getF X30 hx hZ hown (host := "") (Or.inl (hw _ (List.mem_of_getElem? (i := 21) rfl))) Via.refl e30 J32 (g := (mkF m 92 #[.val (.ref ob0), .val (.ref ob1), .val (.int (4 : Int32)), .val (.int (2 : Int32)), .val (.int (0 : Int32))] [(.ref ob0)])) rfl rfl (hb hby d2_92)
  obtain ⟨T34, X34, e34, st34⟩ := getF X33 hx hZ hown (host := "") (Or.inl (hw _ (List.mem_of_getElem? (i := 18) rfl))) Via.refl e33 (J20.other W27 (Or.inl (Nat.ne_of_lt (Nat.lt_of_lt_of_le (Nat.lt_of_lt_of_le (Nat.lt_of_lt_of_le PE_ob0.lt E3.1) (Keep.of_wr W4).1) bo_b5)))) (g := (mkF m 98 #[.val (.ref ob0), .val (.ref ob1), .val (.int (4 : Int32)), .val (.int (2 : Int32)), .val (.int (0 : Int32))] [(.ref ob0), (.int (0 : Int32)), (.ref b9)])) rfl rfl (hb hby d2_98)
  obtain ⟨ac35, aA35, aq35, aS35, aN35, aH35, aG35⟩ := id V_b5_27
  obtain ⟨_, _, ⟨T36, L36, k36, n36⟩, -, X36, ⟨Lc36, hQ36, l36, y36, z36⟩, st36⟩ := Jvm.LawKit.callS X34 hx (y := (⟨"com/example/caprice/caprice/solver/Domains", "every", "(I)J"⟩ : MethodName)) hown (mvT hZ (hw _ (List.mem_of_getElem? (i := 26) rfl))) (mvT hZ (hw _ (List.mem_of_getElem? (i := 27) rfl))) (mvT hZ (hw _ (List.mem_of_getElem? (i := 7) rfl))) (mvT hZ (hw _ (List.mem_of_getElem? (i := 28) rfl))) (by decide) (backOf (W := 2) (rm4_0 l Z a0 hw []  h27 n0 (own_n0 O27) O27) hZ (hw _ (List.mem_of_getElem? (i := 28) rfl)) (hw _ (List.mem_of_getElem? (i := 7) rfl)) (by decide) (by decide)) (g := (mkF m 104 #[.val (.ref ob0), .val (.ref ob1), .val (.int (4 : Int32)), .val (.int (2 : Int32)), .val (.int (0 : Int32))] [(.int (2 : Int32)), (.int (0 : Int32)), (.ref b9)])) rfl (by rw [hml]; rfl) (argsL := [(.int (2 : Int32))]) (rest := [(.int (0 : Int32)), (.ref b9)]) (lenOf pd73 rfl) rfl (by show 2 * 0 + _ ≤ _; exact Nat.le_of_eq rfl) (hb hby d2_104) (fun _ _ => ⟨rfl, e34, (by decide : 4 + 0 ≤ _), (by decide : 14 + 0 ≤ _)⟩)
  dsimp only [Pt.U, Pt.locs, Pt.cells, Pt.slots] at X36 l36 y36 z36 st36 hQ36
  subst l36 y36 z36
  obtain ⟨rfl, N36q, e36⟩ := hQ36
  have N36 := Fr.app N27 N36q
  have J38 := ((((V_b9.other W11 (Ne.symm (Nat.ne_of_lt (Nat.lt_of_lt_of_le (Nat.lt_of_lt_of_le (Nat.lt_of_lt_of_le (Nat.lt_of_lt_of_le (Nat.lt_of_lt_of_le PE_ob0.lt E3.1) (Keep.of_wr W4).1) E5.1) (Keep.of_wr W8).1) bo_b9)))).ext E16).other W19 (Ne.symm (Nat.ne_of_lt (Nat.lt_of_lt_of_le (Nat.lt_of_lt_of_le (Nat.lt_of_lt_of_le (Nat.lt_of_lt_of_le lb_b3 (Keep.of_wr W4).1) E5.1) (Keep.of_wr W8).1) bo_b9)))).other W27 (Ne.symm (Nat.ne_of_lt (Nat.lt_of_lt_of_le (Nat.lt_of_lt_of_le lb_b5 (Keep.of_wr W8).1) bo_b9))))
  obtain ⟨ac37, aA37, aq37, aS37, aN37, aH37, aG37⟩ := id J38
  obtain ⟨T39, h39, X39, e39, W39, st39⟩ := stJ X36 hx hZ e36 aA37 (j := (0 : Int32)) (inb_of aS37 ⟨by decide, by decide⟩) (g := (mkF m 107 #[.val (.ref ob0), .val (.ref ob1), .val (.int (4 : Int32)), .val (.int (2 : Int32)), .val (.int (0 : Int32))] [(.long (3 : Int64)), (.int (0 : Int32)), (.ref b9)])) rfl rfl (hb hby d2_107)
  have V_b9_39 : Arv Z h39 b9 k9 .long (4 : Int32) [(.long (3 : Int64)), (.long (0 : Int64)), (.long (0 : Int64)), (.long (0 : Int64))] (.long (0 : Int64)) := Arv.set aA37 aq37 aS37 aN37 aH37 aG37 rfl W39 0 rfl (Nat.le_of_ble_eq_true rfl)
  have N39 := Fr.snoc X39 N36 g_b9
  have O39 := O27.wr W39 g_b9
  have KK39 : Keep h0 h39 [ob0] := KK27.wr W39 (Or.inr sz_b9)
  have J40 := ((((J12.ext E16).other W19 (Or.inl (Nat.ne_of_lt (Nat.lt_of_lt_of_le PE_ob0.lt bo_b3)))).other W27 (Or.inl (Nat.ne_of_lt (Nat.lt_of_lt_of_le (Nat.lt_of_lt_of_le (Nat.lt_of_lt_of_le PE_ob0.lt E3.1) (Keep.of_wr W4).1) bo_b5)))).other W39 (Or.inl (Nat.ne_of_lt (Nat.lt_of_lt_of_le (Nat.lt_of_lt_of_le (Nat.lt_of_lt_of_le (Nat.lt_of_lt_of_le (Nat.lt_of_lt_of_le PE_ob0.lt E3.1) (Keep.of_wr W4).1) E5.1) (Keep.of_wr W8).1) bo_b9))))
  obtain ⟨T41, X41, e41, st41⟩ := getF X39 hx hZ hown (host := "") (Or.inl (hw _ (List.mem_of_getElem? (i := 16) rfl))) Via.refl e39 J40 (g := (mkF m 41 #[.val (.ref ob0), .val (.ref ob1), .val (.int (4 : Int32)), .val (.int (2 : Int32)), .val (.int (1 : Int32))] [(.ref ob0)])) rfl rfl (hb hby d2_41)
  have J43 := ((((J15.ext E16).other W19 (Nat.ne_of_lt (Nat.lt_of_lt_of_le PV_ob1.lt bo_b3))).other W27 (Nat.ne_of_lt (Nat.lt_of_lt_of_le (Nat.lt_of_lt_of_le (Nat.lt_of_lt_of_le PV_ob1.lt E3.1) (Keep.of_wr W4).1) bo_b5))).other W39 (Nat.ne_of_lt (Nat.lt_of_lt_of_le (Nat.lt_of_lt_of_le (Nat.lt_of_lt_of_le (Nat.lt_of_lt_of_le (Nat.lt_of_lt_of_le PV_ob1.lt E3.1) (Keep.of_wr W4).1) E5.1) (Keep.of_wr W8).1) bo_b9)))
  obtain ⟨ac42, aA42, aq42, aS42, aN42, aH42, aG42⟩ := id J43
  obtain ⟨T44, h44, k44, X44, e44, E44, A44, B44, OV44, st44⟩ := newRA X41 hx hZ hown (C := "[I") (by decide) (hw _ (List.mem_of_getElem? (i := 23) rfl)) (hw _ (List.mem_of_getElem? (i := 24) rfl)) e41 (g := (mkF m 50 #[.val (.ref ob0), .val (.ref ob1), .val (.int (4 : Int32)), .val (.int (2 : Int32)), .val (.int (1 : Int32))] [(.int (2 : Int32)), (.int (1 : Int32)), (.ref b3)])) rfl (hb hby d2_50) rfl (by decide) (cap := 2) (by decide) (by decide) (by decide) (by decide) (ad := "[[I") (by decide)
  obtain ⟨b44, gg44⟩ : ∃ z, z = h39.size := ⟨_, rfl⟩
  rw [← gg44] at A44 B44 st44
  have bo_b44 : h39.size ≤ b44 := Nat.le_of_eq gg44.symm
  have g_b44 : n0 ≤ b44 := Nat.le_trans (own_n0 O39) bo_b44
  have sz_b44 : h0.size ≤ b44 := Nat.le_trans KK39.1 bo_b44
  have V_b44 : Arv Z h44 b44 k44 (.array .int) (2 : Int32) [.null, .null] .null := (Arv.new A44 (by decide)).pad (pad_rep [] .null 2)
  have lb_b44 : b44 < h44.size := A44.lt
  have KK44 : Keep h0 h44 [ob0] := KK39.ext E44
  have O44 := O39.ext E44
  have J46 := (((V_b3_19.other W27 (Nat.ne_of_lt (Nat.lt_of_lt_of_le (Nat.lt_of_lt_of_le lb_b3 (Keep.of_wr W4).1) bo_b5))).other W39 (Nat.ne_of_lt (Nat.lt_of_lt_of_le (Nat.lt_of_lt_of_le (Nat.lt_of_lt_of_le (Nat.lt_of_lt_of_le lb_b3 (Keep.of_wr W4).1) E5.1) (Keep.of_wr W8).1) bo_b9))).ext E44)
  obtain ⟨ac45, aA45, aq45, aS45, aN45, aH45, aG45⟩ := id J46
  obtain ⟨T47, h47, X47, e47, W47, st47⟩ := stR X44 hx hZ e44 aA45 (j := (1 : Int32)) (inb_of aS45 ⟨by decide, by decide⟩) rfl (Sto.ofVA aA45 aq45 OV3 (Ins.self B44)) (g := (mkF m 53 #[.val (.ref ob0), .val (.ref ob1), .val (.int (4 : Int32)), .val (.int (2 : Int32)), .val (.int (1 : Int32))] [(.ref b44), (.int (1 : Int32)), (.ref b3)])) rfl rfl (hb hby d2_53)
  have V_b3_47 : Arv Z h47 b3 k3 (.array (.array .int)) (4 : Int32) [(.ref b16), (.ref b44), .null, .null] .null := Arv.set aA45 aq45 aS45 aN45 aH45 aG45 rfl W47 1 rfl (Nat.le_of_ble_eq_true rfl)
  have N47 := Fr.snoc X47 N39 g_b3
  have O47 := O44.wr W47 g_b3
  have KK47 : Keep h0 h47 [ob0] := KK44.wr W47 (Or.inr sz_b3)
  have J48 := ((((J20.other W27 (Or.inl (Nat.ne_of_lt (Nat.lt_of_lt_of_le (Nat.lt_of_lt_of_le (Nat.lt_of_lt_of_le PE_ob0.lt E3.1) (Keep.of_wr W4).1) bo_b5)))).other W39 (Or.inl (Nat.ne_of_lt (Nat.lt_of_lt_of_le (Nat.lt_of_lt_of_le (Nat.lt_of_lt_of_le (Nat.lt_of_lt_of_le (Nat.lt_of_lt_of_le PE_ob0.lt E3.1) (Keep.of_wr W4).1) E5.1) (Keep.of_wr W8).1) bo_b9)))).ext E44).other W47 (Or.inl (Nat.ne_of_lt (Nat.lt_of_lt_of_le PE_ob0.lt bo_b3))))
  obtain ⟨T49, X49, e49, st49⟩ := getF X47 hx hZ hown (host := "") (Or.inl (hw _ (List.mem_of_getElem? (i := 18) rfl))) Via.refl e47 J48 (g := (mkF m 55 #[.val (.ref ob0), .val (.ref ob1), .val (.int (4 : Int32)), .val (.int (2 : Int32)), .val (.int (1 : Int32))] [(.ref ob0)])) rfl rfl (hb hby d2_55)
  obtain ⟨T50, X50, e50, st50⟩ := getF X49 hx hZ hown (host := "") (Or.inl (hw _ (List.mem_of_getElem? (i := 16) rfl))) Via.refl e49 ((J40.ext E44).other W47 (Or.inl (Nat.ne_of_lt (Nat.lt_of_lt_of_le PE_ob0.lt bo_b3)))) (g := (mkF m 61 #[.val (.ref ob0), .val (.ref ob1), .val (.int (4 : Int32)), .val (.int (2 : Int32)), .val (.int (1 : Int32))] [(.ref ob0), (.int (1 : Int32)), (.ref b5)])) rfl rfl (hb hby d2_61)
  obtain ⟨ac51, aA51, aq51, aS51, aN51, aH51, aG51⟩ := id V_b3_47
  obtain ⟨ac52, aA52, aq52, aS52, aN52, aH52, aG52⟩ := id (V_b44.other W47 (Ne.symm (Nat.ne_of_lt (Nat.lt_of_lt_of_le (Nat.lt_of_lt_of_le (Nat.lt_of_lt_of_le (Nat.lt_of_lt_of_le (Nat.lt_of_lt_of_le (Nat.lt_of_lt_of_le (Nat.lt_of_lt_of_le (Nat.lt_of_lt_of_le (Nat.lt_of_lt_of_le (Nat.lt_of_lt_of_le lb_b3 (Keep.of_wr W4).1) E5.1) (Keep.of_wr W8).1) E9.1) (Keep.of_wr W11).1) E16.1) (Keep.of_wr W19).1) (Keep.of_wr W27).1) (Keep.of_wr W39).1) bo_b44))))
  have J54 := (((V_b5_27.other W39 (Nat.ne_of_lt (Nat.lt_of_lt_of_le (Nat.lt_of_lt_of_le lb_b5 (Keep.of_wr W8).1) bo_b9))).ext E44).other W47 (Ne.symm (Nat.ne_of_lt (Nat.lt_of_lt_of_le (Nat.lt_of_lt_of_le lb_b3 (Keep.of_wr W4).1) bo_b5))))
  obtain ⟨ac53, aA53, aq53, aS53, aN53, aH53, aG53⟩ := id J54
  obtain ⟨T55, h55, X55, e55, W55, st55⟩ := stI X50 hx hZ e50 aA53 (j := (1 : Int32)) (inb_of aS53 ⟨by decide, by decide⟩) (g := (mkF m 68 #[.val (.ref ob0), .val (.ref ob1), .val (.int (4 : Int32)), .val (.int (2 : Int32)), .val (.int (1 : Int32))] [(.int (2 : Int32)), (.int (1 : Int32)), (.ref b5)])) rfl rfl (hb hby d2_68)
  have V_b5_55 : Arv Z h55 b5 k5 .int (4 : Int32) [(.int (2 : Int32)), (.int (2 : Int32)), (.int (0 : Int32)), (.int (0 : Int32))] (.int (0 : Int32)) := Arv.set aA53 aq53 aS53 aN53 aH53 aG53 rfl W55 1 rfl (Nat.le_of_ble_eq_true rfl)
  have N55 := Fr.snoc X55 N47 g_b5
  have O55 := O47.wr W55 g_b5
  have KK55 : Keep h0 h55 [ob0] := KK47.wr W55 (Or.inr sz_b5)
  obtain ⟨T56, X56, e56, st56⟩ := getF X55 hx hZ hown (host := "") (Or.inl (hw _ (List.mem_of_getElem? (i := 18) rfl))) Via.refl e55 (J48.other W55 (Or.inl (Nat.ne_of_lt (Nat.lt_of_lt_of_le (Nat.lt_of_lt_of_le (Nat.lt_of_lt_of_le PE_ob0.lt E3.1) (Keep.of_wr W4).1) bo_b5)))) (g := (mkF m 71 #[.val (.ref ob0), .val (.ref ob1), .val (.int (4 : Int32)), .val (.int (2 : Int32)), .val (.int (1 : Int32))] [(.ref ob0), (.int (2 : Int32))])) rfl rfl (hb hby d2_71)
  obtain ⟨ac57, aA57, aq57, aS57, aN57, aH57, aG57⟩ := id V_b5_55
  obtain ⟨T58, X58, e58, st58⟩ := getF X56 hx hZ hown (host := "") (Or.inl (hw _ (List.mem_of_getElem? (i := 18) rfl))) Via.refl e56 (J48.other W55 (Or.inl (Nat.ne_of_lt (Nat.lt_of_lt_of_le (Nat.lt_of_lt_of_le (Nat.lt_of_lt_of_le PE_ob0.lt E3.1) (Keep.of_wr W4).1) bo_b5)))) (g := (mkF m 80 #[.val (.ref ob0), .val (.ref ob1), .val (.int (4 : Int32)), .val (.int (4 : Int32)), .val (.int (1 : Int32))] [(.ref ob0)])) rfl rfl (hb hby d2_80)
  obtain ⟨ac59, aA59, aq59, aS59, aN59, aH59, aG59⟩ := id V_b5_55
  have J60 := ((((J32.other W39 (Or.inl (Nat.ne_of_lt (Nat.lt_of_lt_of_le (Nat.lt_of_lt_of_le (Nat.lt_of_lt_of_le (Nat.lt_of_lt_of_le (Nat.lt_of_lt_of_le PE_ob0.lt E3.1) (Keep.of_wr W4).1) E5.1) (Keep.of_wr W8).1) bo_b9)))).ext E44).other W47 (Or.inl (Nat.ne_of_lt (Nat.lt_of_lt_of_le PE_ob0.lt bo_b3)))).other W55 (Or.inl (Nat.ne_of_lt (Nat.lt_of_lt_of_le (Nat.lt_of_lt_of_le (Nat.lt_of_lt_of_le PE_ob0.lt E3.1) (Keep.of_wr W4).1) bo_b5))))
  obtain ⟨T61, X61, e61, st61⟩ := getF X58 hx hZ hown (host := "") (Or.inl (hw _ (List.mem_of_getElem? (i := 21) rfl))) Via.refl e58 J60 (g := (mkF m 92 #[.val (.ref ob0), .val (.ref ob1), .val (.int (4 : Int32)), .val (.int (4 : Int32)), .val (.int (1 : Int32))] [(.ref ob0)])) rfl rfl (hb hby d2_92)
  obtain ⟨T62, X62, e62, st62⟩ := getF X61 hx hZ hown (host := "") (Or.inl (hw _ (List.mem_of_getElem? (i := 18) rfl))) Via.refl e61 (J48.other W55 (Or.inl (Nat.ne_of_lt (Nat.lt_of_lt_of_le (Nat.lt_of_lt_of_le (Nat.lt_of_lt_of_le PE_ob0.lt E3.1) (Keep.of_wr W4).1) bo_b5)))) (g := (mkF m 98 #[.val (.ref ob0), .val (.ref ob1), .val (.int (4 : Int32)), .val (.int (4 : Int32)), .val (.int (1 : Int32))] [(.ref ob0), (.int (1 : Int32)), (.ref b9)])) rfl rfl (hb hby d2_98)
  obtain ⟨ac63, aA63, aq63, aS63, aN63, aH63, aG63⟩ := id V_b5_55
  obtain ⟨_, _, ⟨T64, L64, k64, n64⟩, -, X64, ⟨Lc64, hQ64, l64, y64, z64⟩, st64⟩ := Jvm.LawKit.callS X62 hx (y := (⟨"com/example/caprice/caprice/solver/Domains", "every", "(I)J"⟩ : MethodName)) hown (mvT hZ (hw _ (List.mem_of_getElem? (i := 26) rfl))) (mvT hZ (hw _ (List.mem_of_getElem? (i := 27) rfl))) (mvT hZ (hw _ (List.mem_of_getElem? (i := 7) rfl))) (mvT hZ (hw _ (List.mem_of_getElem? (i := 28) rfl))) (by decide) (backOf (W := 2) (rm4_0 l Z a0 hw []  h55 n0 (own_n0 O55) O55) hZ (hw _ (List.mem_of_getElem? (i := 28) rfl)) (hw _ (List.mem_of_getElem? (i := 7) rfl)) (by decide) (by decide)) (g := (mkF m 104 #[.val (.ref ob0), .val (.ref ob1), .val (.int (4 : Int32)), .val (.int (4 : Int32)), .val (.int (1 : Int32))] [(.int (2 : Int32)), (.int (1 : Int32)), (.ref b9)])) rfl (by rw [hml]; rfl) (argsL := [(.int (2 : Int32))]) (rest := [(.int (1 : Int32)), (.ref b9)]) (lenOf pd73 rfl) rfl (by show 2 * 0 + _ ≤ _; exact Nat.le_of_eq rfl) (hb hby d2_104) (fun _ _ => ⟨rfl, e62, (by decide : 5 + 0 ≤ _), (by decide : 16 + 0 ≤ _)⟩)
  dsimp only [Pt.U, Pt.locs, Pt.cells, Pt.slots] at X64 l64 y64 z64 st64 hQ64
  subst l64 y64 z64
  obtain ⟨rfl, N64q, e64⟩ := hQ64
  have N64 := Fr.app N55 N64q
  have J66 := (((V_b9_39.ext E44).other W47 (Ne.symm (Nat.ne_of_lt (Nat.lt_of_lt_of_le (Nat.lt_of_lt_of_le (Nat.lt_of_lt_of_le (Nat.lt_of_lt_of_le lb_b3 (Keep.of_wr W4).1) E5.1) (Keep.of_wr W8).1) bo_b9)))).other W55 (Ne.symm (Nat.ne_of_lt (Nat.lt_of_lt_of_le (Nat.lt_of_lt_of_le lb_b5 (Keep.of_wr W8).1) bo_b9))))
  obtain ⟨ac65, aA65, aq65, aS65, aN65, aH65, aG65⟩ := id J66
  obtain ⟨T67, h67, X67, e67, W67, st67⟩ := stJ X64 hx hZ e64 aA65 (j := (1 : Int32)) (inb_of aS65 ⟨by decide, by decide⟩) (g := (mkF m 107 #[.val (.ref ob0), .val (.ref ob1), .val (.int (4 : Int32)), .val (.int (4 : Int32)), .val (.int (1 : Int32))] [(.long (3 : Int64)), (.int (1 : Int32)), (.ref b9)])) rfl rfl (hb hby d2_107)
  have V_b9_67 : Arv Z h67 b9 k9 .long (4 : Int32) [(.long (3 : Int64)), (.long (3 : Int64)), (.long (0 : Int64)), (.long (0 : Int64))] (.long (0 : Int64)) := Arv.set aA65 aq65 aS65 aN65 aH65 aG65 rfl W67 1 rfl (Nat.le_of_ble_eq_true rfl)
  have N67 := Fr.snoc X67 N64 g_b9
  have O67 := O55.wr W67 g_b9
  have KK67 : Keep h0 h67 [ob0] := KK55.wr W67 (Or.inr sz_b9)
  have J68 := ((((J40.ext E44).other W47 (Or.inl (Nat.ne_of_lt (Nat.lt_of_lt_of_le PE_ob0.lt bo_b3)))).other W55 (Or.inl (Nat.ne_of_lt (Nat.lt_of_lt_of_le (Nat.lt_of_lt_of_le (Nat.lt_of_lt_of_le PE_ob0.lt E3.1) (Keep.of_wr W4).1) bo_b5)))).other W67 (Or.inl (Nat.ne_of_lt (Nat.lt_of_lt_of_le (Nat.lt_of_lt_of_le (Nat.lt_of_lt_of_le (Nat.lt_of_lt_of_le (Nat.lt_of_lt_of_le PE_ob0.lt E3.1) (Keep.of_wr W4).1) E5.1) (Keep.of_wr W8).1) bo_b9))))
  obtain ⟨T69, X69, e69, st69⟩ := getF X67 hx hZ hown (host := "") (Or.inl (hw _ (List.mem_of_getElem? (i := 16) rfl))) Via.refl e67 J68 (g := (mkF m 41 #[.val (.ref ob0), .val (.ref ob1), .val (.int (4 : Int32)), .val (.int (4 : Int32)), .val (.int (2 : Int32))] [(.ref ob0)])) rfl rfl (hb hby d2_41)
  have J71 := ((((J43.ext E44).other W47 (Nat.ne_of_lt (Nat.lt_of_lt_of_le PV_ob1.lt bo_b3))).other W55 (Nat.ne_of_lt (Nat.lt_of_lt_of_le (Nat.lt_of_lt_of_le (Nat.lt_of_lt_of_le PV_ob1.lt E3.1) (Keep.of_wr W4).1) bo_b5))).other W67 (Nat.ne_of_lt (Nat.lt_of_lt_of_le (Nat.lt_of_lt_of_le (Nat.lt_of_lt_of_le (Nat.lt_of_lt_of_le (Nat.lt_of_lt_of_le PV_ob1.lt E3.1) (Keep.of_wr W4).1) E5.1) (Keep.of_wr W8).1) bo_b9)))
  obtain ⟨ac70, aA70, aq70, aS70, aN70, aH70, aG70⟩ := id J71
  obtain ⟨T72, h72, k72, X72, e72, E72, A72, B72, OV72, st72⟩ := newRA X69 hx hZ hown (C := "[I") (by decide) (hw _ (List.mem_of_getElem? (i := 23) rfl)) (hw _ (List.mem_of_getElem? (i := 24) rfl)) e69 (g := (mkF m 50 #[.val (.ref ob0), .val (.ref ob1), .val (.int (4 : Int32)), .val (.int (4 : Int32)), .val (.int (2 : Int32))] [(.int (2 : Int32)), (.int (2 : Int32)), (.ref b3)])) rfl (hb hby d2_50) rfl (by decide) (cap := 2) (by decide) (by decide) (by decide) (by decide) (ad := "[[I") (by decide)
  obtain ⟨b72, gg72⟩ : ∃ z, z = h67.size := ⟨_, rfl⟩
  rw [← gg72] at A72 B72 st72
  have bo_b72 : h67.size ≤ b72 := Nat.le_of_eq gg72.symm
  have g_b72 : n0 ≤ b72 := Nat.le_trans (own_n0 O67) bo_b72
  have sz_b72 : h0.size ≤ b72 := Nat.le_trans KK67.1 bo_b72
  have V_b72 : Arv Z h72 b72 k72 (.array .int) (2 : Int32) [.null, .null] .null := (Arv.new A72 (by decide)).pad (pad_rep [] .null 2)
  have lb_b72 : b72 < h72.size := A72.lt
  have KK72 : Keep h0 h72 [ob0] := KK67.ext E72
  have O72 := O67.ext E72
  have J74 := (((V_b3_47.other W55 (Nat.ne_of_lt (Nat.lt_of_lt_of_le (Nat.lt_of_lt_of_le lb_b3 (Keep.of_wr W4).1) bo_b5))).other W67 (Nat.ne_of_lt (Nat.lt_of_lt_of_le (Nat.lt_of_lt_of_le (Nat.lt_of_lt_of_le (Nat.lt_of_lt_of_le lb_b3 (Keep.of_wr W4).1) E5.1) (Keep.of_wr W8).1) bo_b9))).ext E72)
  obtain ⟨ac73, aA73, aq73, aS73, aN73, aH73, aG73⟩ := id J74
  obtain ⟨T75, h75, X75, e75, W75, st75⟩ := stR X72 hx hZ e72 aA73 (j := (2 : Int32)) (inb_of aS73 ⟨by decide, by decide⟩) rfl (Sto.ofVA aA73 aq73 OV3 (Ins.self B72)) (g := (mkF m 53 #[.val (.ref ob0), .val (.ref ob1), .val (.int (4 : Int32)), .val (.int (4 : Int32)), .val (.int (2 : Int32))] [(.ref b72), (.int (2 : Int32)), (.ref b3)])) rfl rfl (hb hby d2_53)
  have V_b3_75 : Arv Z h75 b3 k3 (.array (.array .int)) (4 : Int32) [(.ref b16), (.ref b44), (.ref b72), .null] .null := Arv.set aA73 aq73 aS73 aN73 aH73 aG73 rfl W75 2 rfl (Nat.le_of_ble_eq_true rfl)
  have N75 := Fr.snoc X75 N67 g_b3
  have O75 := O72.wr W75 g_b3
  have KK75 : Keep h0 h75 [ob0] := KK72.wr W75 (Or.inr sz_b3)
  have J76 := ((((J48.other W55 (Or.inl (Nat.ne_of_lt (Nat.lt_of_lt_of_le (Nat.lt_of_lt_of_le (Nat.lt_of_lt_of_le PE_ob0.lt E3.1) (Keep.of_wr W4).1) bo_b5)))).other W67 (Or.inl (Nat.ne_of_lt (Nat.lt_of_lt_of_le (Nat.lt_of_lt_of_le (Nat.lt_of_lt_of_le (Nat.lt_of_lt_of_le (Nat.lt_of_lt_of_le PE_ob0.lt E3.1) (Keep.of_wr W4).1) E5.1) (Keep.of_wr W8).1) bo_b9)))).ext E72).other W75 (Or.inl (Nat.ne_of_lt (Nat.lt_of_lt_of_le PE_ob0.lt bo_b3))))
  obtain ⟨T77, X77, e77, st77⟩ := getF X75 hx hZ hown (host := "") (Or.inl (hw _ (List.mem_of_getElem? (i := 18) rfl))) Via.refl e75 J76 (g := (mkF m 55 #[.val (.ref ob0), .val (.ref ob1), .val (.int (4 : Int32)), .val (.int (4 : Int32)), .val (.int (2 : Int32))] [(.ref ob0)])) rfl rfl (hb hby d2_55)
  obtain ⟨T78, X78, e78, st78⟩ := getF X77 hx hZ hown (host := "") (Or.inl (hw _ (List.mem_of_getElem? (i := 16) rfl))) Via.refl e77 ((J68.ext E72).other W75 (Or.inl (Nat.ne_of_lt (Nat.lt_of_lt_of_le PE_ob0.lt bo_b3)))) (g := (mkF m 61 #[.val (.ref ob0), .val (.ref ob1), .val (.int (4 : Int32)), .val (.int (4 : Int32)), .val (.int (2 : Int32))] [(.ref ob0), (.int (2 : Int32)), (.ref b5)])) rfl rfl (hb hby d2_61)
  obtain ⟨ac79, aA79, aq79, aS79, aN79, aH79, aG79⟩ := id V_b3_75
  obtain ⟨ac80, aA80, aq80, aS80, aN80, aH80, aG80⟩ := id (V_b72.other W75 (Ne.symm (Nat.ne_of_lt (Nat.lt_of_lt_of_le (Nat.lt_of_lt_of_le (Nat.lt_of_lt_of_le (Nat.lt_of_lt_of_le (Nat.lt_of_lt_of_le (Nat.lt_of_lt_of_le (Nat.lt_of_lt_of_le (Nat.lt_of_lt_of_le (Nat.lt_of_lt_of_le (Nat.lt_of_lt_of_le (Nat.lt_of_lt_of_le (Nat.lt_of_lt_of_le (Nat.lt_of_lt_of_le (Nat.lt_of_lt_of_le lb_b3 (Keep.of_wr W4).1) E5.1) (Keep.of_wr W8).1) E9.1) (Keep.of_wr W11).1) E16.1) (Keep.of_wr W19).1) (Keep.of_wr W27).1) (Keep.of_wr W39).1) E44.1) (Keep.of_wr W47).1) (Keep.of_wr W55).1) (Keep.of_wr W67).1) bo_b72))))
  have J82 := (((V_b5_55.other W67 (Nat.ne_of_lt (Nat.lt_of_lt_of_le (Nat.lt_of_lt_of_le lb_b5 (Keep.of_wr W8).1) bo_b9))).ext E72).other W75 (Ne.symm (Nat.ne_of_lt (Nat.lt_of_lt_of_le (Nat.lt_of_lt_of_le lb_b3 (Keep.of_wr W4).1) bo_b5))))
  obtain ⟨ac81, aA81, aq81, aS81, aN81, aH81, aG81⟩ := id J82
  obtain ⟨T83, h83, X83, e83, W83, st83⟩ := stI X78 hx hZ e78 aA81 (j := (2 : Int32)) (inb_of aS81 ⟨by decide, by decide⟩) (g := (mkF m 68 #[.val (.ref ob0), .val (.ref ob1), .val (.int (4 : Int32)), .val (.int (4 : Int32)), .val (.int (2 : Int32))] [(.int (2 : Int32)), (.int (2 : Int32)), (.ref b5)])) rfl rfl (hb hby d2_68)
  have V_b5_83 : Arv Z h83 b5 k5 .int (4 : Int32) [(.int (2 : Int32)), (.int (2 : Int32)), (.int (2 : Int32)), (.int (0 : Int32))] (.int (0 : Int32)) := Arv.set aA81 aq81 aS81 aN81 aH81 aG81 rfl W83 2 rfl (Nat.le_of_ble_eq_true rfl)
  have N83 := Fr.snoc X83 N75 g_b5
  have O83 := O75.wr W83 g_b5
  have KK83 : Keep h0 h83 [ob0] := KK75.wr W83 (Or.inr sz_b5)
  obtain ⟨T84, X84, e84, st84⟩ := getF X83 hx hZ hown (host := "") (Or.inl (hw _ (List.mem_of_getElem? (i := 18) rfl))) Via.refl e83 (J76.other W83 (Or.inl (Nat.ne_of_lt (Nat.lt_of_lt_of_le (Nat.lt_of_lt_of_le (Nat.lt_of_lt_of_le PE_ob0.lt E3.1) (Keep.of_wr W4).1) bo_b5)))) (g := (mkF m 71 #[.val (.ref ob0), .val (.ref ob1), .val (.int (4 : Int32)), .val (.int (4 : Int32)), .val (.int (2 : Int32))] [(.ref ob0), (.int (4 : Int32))])) rfl rfl (hb hby d2_71)
  obtain ⟨ac85, aA85, aq85, aS85, aN85, aH85, aG85⟩ := id V_b5_83
  obtain ⟨T86, X86, e86, st86⟩ := getF X84 hx hZ hown (host := "") (Or.inl (hw _ (List.mem_of_getElem? (i := 18) rfl))) Via.refl e84 (J76.other W83 (Or.inl (Nat.ne_of_lt (Nat.lt_of_lt_of_le (Nat.lt_of_lt_of_le (Nat.lt_of_lt_of_le PE_ob0.lt E3.1) (Keep.of_wr W4).1) bo_b5)))) (g := (mkF m 80 #[.val (.ref ob0), .val (.ref ob1), .val (.int (4 : Int32)), .val (.int (6 : Int32)), .val (.int (2 : Int32))] [(.ref ob0)])) rfl rfl (hb hby d2_80)
  obtain ⟨ac87, aA87, aq87, aS87, aN87, aH87, aG87⟩ := id V_b5_83
  have J88 := ((((J60.other W67 (Or.inl (Nat.ne_of_lt (Nat.lt_of_lt_of_le (Nat.lt_of_lt_of_le (Nat.lt_of_lt_of_le (Nat.lt_of_lt_of_le (Nat.lt_of_lt_of_le PE_ob0.lt E3.1) (Keep.of_wr W4).1) E5.1) (Keep.of_wr W8).1) bo_b9)))).ext E72).other W75 (Or.inl (Nat.ne_of_lt (Nat.lt_of_lt_of_le PE_ob0.lt bo_b3)))).other W83 (Or.inl (Nat.ne_of_lt (Nat.lt_of_lt_of_le (Nat.lt_of_lt_of_le (Nat.lt_of_lt_of_le PE_ob0.lt E3.1) (Keep.of_wr W4).1) bo_b5))))
  obtain ⟨T89, X89, e89, st89⟩ := getF X86 hx hZ hown (host := "") (Or.inl (hw _ (List.mem_of_getElem? (i := 21) rfl))) Via.refl e86 J88 (g := (mkF m 92 #[.val (.ref ob0), .val (.ref ob1), .val (.int (4 : Int32)), .val (.int (6 : Int32)), .val (.int (2 : Int32))] [(.ref ob0)])) rfl rfl (hb hby d2_92)
  obtain ⟨T90, X90, e90, st90⟩ := getF X89 hx hZ hown (host := "") (Or.inl (hw _ (List.mem_of_getElem? (i := 18) rfl))) Via.refl e89 (J76.other W83 (Or.inl (Nat.ne_of_lt (Nat.lt_of_lt_of_le (Nat.lt_of_lt_of_le (Nat.lt_of_lt_of_le PE_ob0.lt E3.1) (Keep.of_wr W4).1) bo_b5)))) (g := (mkF m 98 #[.val (.ref ob0), .val (.ref ob1), .val (.int (4 : Int32)), .val (.int (6 : Int32)), .val (.int (2 : Int32))] [(.ref ob0), (.int (2 : Int32)), (.ref b9)])) rfl rfl (hb hby d2_98)
  obtain ⟨ac91, aA91, aq91, aS91, aN91, aH91, aG91⟩ := id V_b5_83
  obtain ⟨_, _, ⟨T92, L92, k92, n92⟩, -, X92, ⟨Lc92, hQ92, l92, y92, z92⟩, st92⟩ := Jvm.LawKit.callS X90 hx (y := (⟨"com/example/caprice/caprice/solver/Domains", "every", "(I)J"⟩ : MethodName)) hown (mvT hZ (hw _ (List.mem_of_getElem? (i := 26) rfl))) (mvT hZ (hw _ (List.mem_of_getElem? (i := 27) rfl))) (mvT hZ (hw _ (List.mem_of_getElem? (i := 7) rfl))) (mvT hZ (hw _ (List.mem_of_getElem? (i := 28) rfl))) (by decide) (backOf (W := 2) (rm4_0 l Z a0 hw []  h83 n0 (own_n0 O83) O83) hZ (hw _ (List.mem_of_getElem? (i := 28) rfl)) (hw _ (List.mem_of_getElem? (i := 7) rfl)) (by decide) (by decide)) (g := (mkF m 104 #[.val (.ref ob0), .val (.ref ob1), .val (.int (4 : Int32)), .val (.int (6 : Int32)), .val (.int (2 : Int32))] [(.int (2 : Int32)), (.int (2 : Int32)), (.ref b9)])) rfl (by rw [hml]; rfl) (argsL := [(.int (2 : Int32))]) (rest := [(.int (2 : Int32)), (.ref b9)]) (lenOf pd73 rfl) rfl (by show 2 * 0 + _ ≤ _; exact Nat.le_of_eq rfl) (hb hby d2_104) (fun _ _ => ⟨rfl, e90, (by decide : 6 + 0 ≤ _), (by decide : 18 + 0 ≤ _)⟩)
  dsimp only [Pt.U, Pt.locs, Pt.cells, Pt.slots] at X92 l92 y92 z92 st92 hQ92
  subst l92 y92 z92
  obtain ⟨rfl, N92q, e92⟩ := hQ92
  have N92 := Fr.app N83 N92q
  have J94 := (((V_b9_67.ext E72).other W75 (Ne.symm (Nat.ne_of_lt (Nat.lt_of_lt_of_le (Nat.lt_of_lt_of_le (Nat.lt_of_lt_of_le (Nat.lt_of_lt_of_le lb_b3 (Keep.of_wr W4).1) E5.1) (Keep.of_wr W8).1) bo_b9)))).other W83 (Ne.symm (Nat.ne_of_lt (Nat.lt_of_lt_of_le (Nat.lt_of_lt_of_le lb_b5 (Keep.of_wr W8).1) bo_b9))))
  obtain ⟨ac93, aA93, aq93, aS93, aN93, aH93, aG93⟩ := id J94
  obtain ⟨T95, h95, X95, e95, W95, st95⟩ := stJ X92 hx hZ e92 aA93 (j := (2 : Int32)) (inb_of aS93 ⟨by decide, by decide⟩) (g := (mkF m 107 #[.val (.ref ob0), .val (.ref ob1), .val (.int (4 : Int32)), .val (.int (6 : Int32)), .val (.int (2 : Int32))] [(.long (3 : Int64)), (.int (2 : Int32)), (.ref b9)])) rfl rfl (hb hby d2_107)
  have V_b9_95 : Arv Z h95 b9 k9 .long (4 : Int32) [(.long (3 : Int64)), (.long (3 : Int64)), (.long (3 : Int64)), (.long (0 : Int64))] (.long (0 : Int64)) := Arv.set aA93 aq93 aS93 aN93 aH93 aG93 rfl W95 2 rfl (Nat.le_of_ble_eq_true rfl)
  have N95 := Fr.snoc X95 N92 g_b9
  have O95 := O83.wr W95 g_b9
  have KK95 : Keep h0 h95 [ob0] := KK83.wr W95 (Or.inr sz_b9)
  have J96 := ((((J68.ext E72).other W75 (Or.inl (Nat.ne_of_lt (Nat.lt_of_lt_of_le PE_ob0.lt bo_b3)))).other W83 (Or.inl (Nat.ne_of_lt (Nat.lt_of_lt_of_le (Nat.lt_of_lt_of_le (Nat.lt_of_lt_of_le PE_ob0.lt E3.1) (Keep.of_wr W4).1) bo_b5)))).other W95 (Or.inl (Nat.ne_of_lt (Nat.lt_of_lt_of_le (Nat.lt_of_lt_of_le (Nat.lt_of_lt_of_le (Nat.lt_of_lt_of_le (Nat.lt_of_lt_of_le PE_ob0.lt E3.1) (Keep.of_wr W4).1) E5.1) (Keep.of_wr W8).1) bo_b9))))
  obtain ⟨T97, X97, e97, st97⟩ := getF X95 hx hZ hown (host := "") (Or.inl (hw _ (List.mem_of_getElem? (i := 16) rfl))) Via.refl e95 J96 (g := (mkF m 41 #[.val (.ref ob0), .val (.ref ob1), .val (.int (4 : Int32)), .val (.int (6 : Int32)), .val (.int (3 : Int32))] [(.ref ob0)])) rfl rfl (hb hby d2_41)
  have J99 := ((((J71.ext E72).other W75 (Nat.ne_of_lt (Nat.lt_of_lt_of_le PV_ob1.lt bo_b3))).other W83 (Nat.ne_of_lt (Nat.lt_of_lt_of_le (Nat.lt_of_lt_of_le (Nat.lt_of_lt_of_le PV_ob1.lt E3.1) (Keep.of_wr W4).1) bo_b5))).other W95 (Nat.ne_of_lt (Nat.lt_of_lt_of_le (Nat.lt_of_lt_of_le (Nat.lt_of_lt_of_le (Nat.lt_of_lt_of_le (Nat.lt_of_lt_of_le PV_ob1.lt E3.1) (Keep.of_wr W4).1) E5.1) (Keep.of_wr W8).1) bo_b9)))
  obtain ⟨ac98, aA98, aq98, aS98, aN98, aH98, aG98⟩ := id J99
  obtain ⟨T100, h100, k100, X100, e100, E100, A100, B100, OV100, st100⟩ := newRA X97 hx hZ hown (C := "[I") (by decide) (hw _ (List.mem_of_getElem? (i := 23) rfl)) (hw _ (List.mem_of_getElem? (i := 24) rfl)) e97 (g := (mkF m 50 #[.val (.ref ob0), .val (.ref ob1), .val (.int (4 : Int32)), .val (.int (6 : Int32)), .val (.int (3 : Int32))] [(.int (2 : Int32)), (.int (3 : Int32)), (.ref b3)])) rfl (hb hby d2_50) rfl (by decide) (cap := 2) (by decide) (by decide) (by decide) (by decide) (ad := "[[I") (by decide)
  obtain ⟨b100, gg100⟩ : ∃ z, z = h95.size := ⟨_, rfl⟩
  rw [← gg100] at A100 B100 st100
  have bo_b100 : h95.size ≤ b100 := Nat.le_of_eq gg100.symm
  have g_b100 : n0 ≤ b100 := Nat.le_trans (own_n0 O95) bo_b100
  have sz_b100 : h0.size ≤ b100 := Nat.le_trans KK95.1 bo_b100
  have V_b100 : Arv Z h100 b100 k100 (.array .int) (2 : Int32) [.null, .null] .null := (Arv.new A100 (by decide)).pad (pad_rep [] .null 2)
  have lb_b100 : b100 < h100.size := A100.lt
  have KK100 : Keep h0 h100 [ob0] := KK95.ext E100
  have O100 := O95.ext E100
  have J102 := (((V_b3_75.other W83 (Nat.ne_of_lt (Nat.lt_of_lt_of_le (Nat.lt_of_lt_of_le lb_b3 (Keep.of_wr W4).1) bo_b5))).other W95 (Nat.ne_of_lt (Nat.lt_of_lt_of_le (Nat.lt_of_lt_of_le (Nat.lt_of_lt_of_le (Nat.lt_of_lt_of_le lb_b3 (Keep.of_wr W4).1) E5.1) (Keep.of_wr W8).1) bo_b9))).ext E100)
  obtain ⟨ac101, aA101, aq101, aS101, aN101, aH101, aG101⟩ := id J102
  obtain ⟨T103, h103, X103, e103, W103, st103⟩ := stR X100 hx hZ e100 aA101 (j := (3 : Int32)) (inb_of aS101 ⟨by decide, by decide⟩) rfl (Sto.ofVA aA101 aq101 OV3 (Ins.self B100)) (g := (mkF m 53 #[.val (.ref ob0), .val (.ref ob1), .val (.int (4 : Int32)), .val (.int (6 : Int32)), .val (.int (3 : Int32))] [(.ref b100), (.int (3 : Int32)), (.ref b3)])) rfl rfl (hb hby d2_53)
  have V_b3_103 : Arv Z h103 b3 k3 (.array (.array .int)) (4 : Int32) [(.ref b16), (.ref b44), (.ref b72), (.ref b100)] .null := Arv.set aA101 aq101 aS101 aN101 aH101 aG101 rfl W103 3 rfl (Nat.le_of_ble_eq_true rfl)
  have N103 := Fr.snoc X103 N95 g_b3
  have O103 := O100.wr W103 g_b3
  have KK103 : Keep h0 h103 [ob0] := KK100.wr W103 (Or.inr sz_b3)
  have J104 := ((((J76.other W83 (Or.inl (Nat.ne_of_lt (Nat.lt_of_lt_of_le (Nat.lt_of_lt_of_le (Nat.lt_of_lt_of_le PE_ob0.lt E3.1) (Keep.of_wr W4).1) bo_b5)))).other W95 (Or.inl (Nat.ne_of_lt (Nat.lt_of_lt_of_le (Nat.lt_of_lt_of_le (Nat.lt_of_lt_of_le (Nat.lt_of_lt_of_le (Nat.lt_of_lt_of_le PE_ob0.lt E3.1) (Keep.of_wr W4).1) E5.1) (Keep.of_wr W8).1) bo_b9)))).ext E100).other W103 (Or.inl (Nat.ne_of_lt (Nat.lt_of_lt_of_le PE_ob0.lt bo_b3))))
  obtain ⟨T105, X105, e105, st105⟩ := getF X103 hx hZ hown (host := "") (Or.inl (hw _ (List.mem_of_getElem? (i := 18) rfl))) Via.refl e103 J104 (g := (mkF m 55 #[.val (.ref ob0), .val (.ref ob1), .val (.int (4 : Int32)), .val (.int (6 : Int32)), .val (.int (3 : Int32))] [(.ref ob0)])) rfl rfl (hb hby d2_55)
  obtain ⟨T106, X106, e106, st106⟩ := getF X105 hx hZ hown (host := "") (Or.inl (hw _ (List.mem_of_getElem? (i := 16) rfl))) Via.refl e105 ((J96.ext E100).other W103 (Or.inl (Nat.ne_of_lt (Nat.lt_of_lt_of_le PE_ob0.lt bo_b3)))) (g := (mkF m 61 #[.val (.ref ob0), .val (.ref ob1), .val (.int (4 : Int32)), .val (.int (6 : Int32)), .val (.int (3 : Int32))] [(.ref ob0), (.int (3 : Int32)), (.ref b5)])) rfl rfl (hb hby d2_61)
  obtain ⟨ac107, aA107, aq107, aS107, aN107, aH107, aG107⟩ := id V_b3_103
  obtain ⟨ac108, aA108, aq108, aS108, aN108, aH108, aG108⟩ := id (V_b100.other W103 (Ne.symm (Nat.ne_of_lt (Nat.lt_of_lt_of_le (Nat.lt_of_lt_of_le (Nat.lt_of_lt_of_le (Nat.lt_of_lt_of_le (Nat.lt_of_lt_of_le (Nat.lt_of_lt_of_le (Nat.lt_of_lt_of_le (Nat.lt_of_lt_of_le (Nat.lt_of_lt_of_le (Nat.lt_of_lt_of_le (Nat.lt_of_lt_of_le (Nat.lt_of_lt_of_le (Nat.lt_of_lt_of_le (Nat.lt_of_lt_of_le (Nat.lt_of_lt_of_le (Nat.lt_of_lt_of_le (Nat.lt_of_lt_of_le (Nat.lt_of_lt_of_le lb_b3 (Keep.of_wr W4).1) E5.1) (Keep.of_wr W8).1) E9.1) (Keep.of_wr W11).1) E16.1) (Keep.of_wr W19).1) (Keep.of_wr W27).1) (Keep.of_wr W39).1) E44.1) (Keep.of_wr W47).1) (Keep.of_wr W55).1) (Keep.of_wr W67).1) E72.1) (Keep.of_wr W75).1) (Keep.of_wr W83).1) (Keep.of_wr W95).1) bo_b100))))
  have J110 := (((V_b5_83.other W95 (Nat.ne_of_lt (Nat.lt_of_lt_of_le (Nat.lt_of_lt_of_le lb_b5 (Keep.of_wr W8).1) bo_b9))).ext E100).other W103 (Ne.symm (Nat.ne_of_lt (Nat.lt_of_lt_of_le (Nat.lt_of_lt_of_le lb_b3 (Keep.of_wr W4).1) bo_b5))))
  obtain ⟨ac109, aA109, aq109, aS109, aN109, aH109, aG109⟩ := id J110
  obtain ⟨T111, h111, X111, e111, W111, st111⟩ := stI X106 hx hZ e106 aA109 (j := (3 : Int32)) (inb_of aS109 ⟨by decide, by decide⟩) (g := (mkF m 68 #[.val (.ref ob0), .val (.ref ob1), .val (.int (4 : Int32)), .val (.int (6 : Int32)), .val (.int (3 : Int32))] [(.int (2 : Int32)), (.int (3 : Int32)), (.ref b5)])) rfl rfl (hb hby d2_68)
  have V_b5_111 : Arv Z h111 b5 k5 .int (4 : Int32) [(.int (2 : Int32)), (.int (2 : Int32)), (.int (2 : Int32)), (.int (2 : Int32))] (.int (0 : Int32)) := Arv.set aA109 aq109 aS109 aN109 aH109 aG109 rfl W111 3 rfl (Nat.le_of_ble_eq_true rfl)
  have N111 := Fr.snoc X111 N103 g_b5
  have O111 := O103.wr W111 g_b5
  have KK111 : Keep h0 h111 [ob0] := KK103.wr W111 (Or.inr sz_b5)
  obtain ⟨T112, X112, e112, st112⟩ := getF X111 hx hZ hown (host := "") (Or.inl (hw _ (List.mem_of_getElem? (i := 18) rfl))) Via.refl e111 (J104.other W111 (Or.inl (Nat.ne_of_lt (Nat.lt_of_lt_of_le (Nat.lt_of_lt_of_le (Nat.lt_of_lt_of_le PE_ob0.lt E3.1) (Keep.of_wr W4).1) bo_b5)))) (g := (mkF m 71 #[.val (.ref ob0), .val (.ref ob1), .val (.int (4 : Int32)), .val (.int (6 : Int32)), .val (.int (3 : Int32))] [(.ref ob0), (.int (6 : Int32))])) rfl rfl (hb hby d2_71)
  obtain ⟨ac113, aA113, aq113, aS113, aN113, aH113, aG113⟩ := id V_b5_111
  obtain ⟨T114, X114, e114, st114⟩ := getF X112 hx hZ hown (host := "") (Or.inl (hw _ (List.mem_of_getElem? (i := 18) rfl))) Via.refl e112 (J104.other W111 (Or.inl (Nat.ne_of_lt (Nat.lt_of_lt_of_le (Nat.lt_of_lt_of_le (Nat.lt_of_lt_of_le PE_ob0.lt E3.1) (Keep.of_wr W4).1) bo_b5)))) (g := (mkF m 80 #[.val (.ref ob0), .val (.ref ob1), .val (.int (4 : Int32)), .val (.int (8 : Int32)), .val (.int (3 : Int32))] [(.ref ob0)])) rfl rfl (hb hby d2_80)
  obtain ⟨ac115, aA115, aq115, aS115, aN115, aH115, aG115⟩ := id V_b5_111
  have J116 := ((((J88.other W95 (Or.inl (Nat.ne_of_lt (Nat.lt_of_lt_of_le (Nat.lt_of_lt_of_le (Nat.lt_of_lt_of_le (Nat.lt_of_lt_of_le (Nat.lt_of_lt_of_le PE_ob0.lt E3.1) (Keep.of_wr W4).1) E5.1) (Keep.of_wr W8).1) bo_b9)))).ext E100).other W103 (Or.inl (Nat.ne_of_lt (Nat.lt_of_lt_of_le PE_ob0.lt bo_b3)))).other W111 (Or.inl (Nat.ne_of_lt (Nat.lt_of_lt_of_le (Nat.lt_of_lt_of_le (Nat.lt_of_lt_of_le PE_ob0.lt E3.1) (Keep.of_wr W4).1) bo_b5))))
  obtain ⟨T117, X117, e117, st117⟩ := getF X114 hx hZ hown (host := "") (Or.inl (hw _ (List.mem_of_getElem? (i := 21) rfl))) Via.refl e114 J116 (g := (mkF m 92 #[.val (.ref ob0), .val (.ref ob1), .val (.int (4 : Int32)), .val (.int (8 : Int32)), .val (.int (3 : Int32))] [(.ref ob0)])) rfl rfl (hb hby d2_92)
  obtain ⟨T118, X118, e118, st118⟩ := getF X117 hx hZ hown (host := "") (Or.inl (hw _ (List.mem_of_getElem? (i := 18) rfl))) Via.refl e117 (J104.other W111 (Or.inl (Nat.ne_of_lt (Nat.lt_of_lt_of_le (Nat.lt_of_lt_of_le (Nat.lt_of_lt_of_le PE_ob0.lt E3.1) (Keep.of_wr W4).1) bo_b5)))) (g := (mkF m 98 #[.val (.ref ob0), .val (.ref ob1), .val (.int (4 : Int32)), .val (.int (8 : Int32)), .val (.int (3 : Int32))] [(.ref ob0), (.int (3 : Int32)), (.ref b9)])) rfl rfl (hb hby d2_98)
  obtain ⟨ac119, aA119, aq119, aS119, aN119, aH119, aG119⟩ := id V_b5_111
  obtain ⟨_, _, ⟨T120, L120, k120, n120⟩, -, X120, ⟨Lc120, hQ120, l120, y120, z120⟩, st120⟩ := Jvm.LawKit.callS X118 hx (y := (⟨"com/example/caprice/caprice/solver/Domains", "every", "(I)J"⟩ : MethodName)) hown (mvT hZ (hw _ (List.mem_of_getElem? (i := 26) rfl))) (mvT hZ (hw _ (List.mem_of_getElem? (i := 27) rfl))) (mvT hZ (hw _ (List.mem_of_getElem? (i := 7) rfl))) (mvT hZ (hw _ (List.mem_of_getElem? (i := 28) rfl))) (by decide) (backOf (W := 2) (rm4_0 l Z a0 hw []  h111 n0 (own_n0 O111) O111) hZ (hw _ (List.mem_of_getElem? (i := 28) rfl)) (hw _ (List.mem_of_getElem? (i := 7) rfl)) (by decide) (by decide)) (g := (mkF m 104 #[.val (.ref ob0), .val (.ref ob1), .val (.int (4 : Int32)), .val (.int (8 : Int32)), .val (.int (3 : Int32))] [(.int (2 : Int32)), (.int (3 : Int32)), (.ref b9)])) rfl (by rw [hml]; rfl) (argsL := [(.int (2 : Int32))]) (rest := [(.int (3 : Int32)), (.ref b9)]) (lenOf pd73 rfl) rfl (by show 2 * 0 + _ ≤ _; exact Nat.le_of_eq rfl) (hb hby d2_104) (fun _ _ => ⟨rfl, e118, (by decide : 7 + 0 ≤ _), (by decide : 20 + 0 ≤ _)⟩)
  dsimp only [Pt.U, Pt.locs, Pt.cells, Pt.slots] at X120 l120 y120 z120 st120 hQ120
  subst l120 y120 z120
  obtain ⟨rfl, N120q, e120⟩ := hQ120
  have N120 := Fr.app N111 N120q
  have J122 := (((V_b9_95.ext E100).other W103 (Ne.symm (Nat.ne_of_lt (Nat.lt_of_lt_of_le (Nat.lt_of_lt_of_le (Nat.lt_of_lt_of_le (Nat.lt_of_lt_of_le lb_b3 (Keep.of_wr W4).1) E5.1) (Keep.of_wr W8).1) bo_b9)))).other W111 (Ne.symm (Nat.ne_of_lt (Nat.lt_of_lt_of_le (Nat.lt_of_lt_of_le lb_b5 (Keep.of_wr W8).1) bo_b9))))
  obtain ⟨ac121, aA121, aq121, aS121, aN121, aH121, aG121⟩ := id J122
  obtain ⟨T123, h123, X123, e123, W123, st123⟩ := stJ X120 hx hZ e120 aA121 (j := (3 : Int32)) (inb_of aS121 ⟨by decide, by decide⟩) (g := (mkF m 107 #[.val (.ref ob0), .val (.ref ob1), .val (.int (4 : Int32)), .val (.int (8 : Int32)), .val (.int (3 : Int32))] [(.long (3 : Int64)), (.int (3 : Int32)), (.ref b9)])) rfl rfl (hb hby d2_107)
  have V_b9_123 : Arv Z h123 b9 k9 .long (4 : Int32) [(.long (3 : Int64)), (.long (3 : Int64)), (.long (3 : Int64)), (.long (3 : Int64))] (.long (0 : Int64)) := Arv.set aA121 aq121 aS121 aN121 aH121 aG121 rfl W123 3 rfl (Nat.le_of_ble_eq_true rfl)
  have N123 := Fr.snoc X123 N120 g_b9
  have O123 := O111.wr W123 g_b9
  have KK123 : Keep h0 h123 [ob0] := KK111.wr W123 (Or.inr sz_b9)
  obtain ⟨T124, h124, k124, X124, e124, E124, A124, B124, st124⟩ := newPE X123 hx hZ (hw _ (List.mem_of_getElem? (i := 4) rfl)) e123 (g := (mkF m 118 #[.val (.ref ob0), .val (.ref ob1), .val (.int (4 : Int32)), .val (.int (8 : Int32)), .val (.int (4 : Int32))] [(.int (16 : Int32)), (.ref ob0)])) rfl (hb hby d2_118) rfl (by decide) (cap := 16) (by decide) (by decide) (by decide) (by decide) (ad := "[I") (by decide)
  obtain ⟨b124, gg124⟩ : ∃ z, z = h123.size := ⟨_, rfl⟩
  rw [← gg124] at A124 B124 st124
  have bo_b124 : h123.size ≤ b124 := Nat.le_of_eq gg124.symm
  have g_b124 : n0 ≤ b124 := Nat.le_trans (own_n0 O123) bo_b124
  have sz_b124 : h0.size ≤ b124 := Nat.le_trans KK123.1 bo_b124
  have V_b124 : Arv Z h124 b124 k124 .int (16 : Int32) [(.int (0 : Int32)), (.int (0 : Int32)), (.int (0 : Int32)), (.int (0 : Int32)), (.int (0 : Int32)), (.int (0 : Int32)), (.int (0 : Int32)), (.int (0 : Int32)), (.int (0 : Int32)), (.int (0 : Int32)), (.int (0 : Int32)), (.int (0 : Int32)), (.int (0 : Int32)), (.int (0 : Int32)), (.int (0 : Int32)), (.int (0 : Int32))] (.int (0 : Int32)) := (Arv.new A124 (by decide)).pad (pad_rep [] (.int (0 : Int32)) 16)
  have lb_b124 : b124 < h124.size := A124.lt
  have KK124 : Keep h0 h124 [ob0] := KK123.ext E124
  have O124 := O123.ext E124
  have J125 := (((((((((((((((((((((((PF_ob0_trail.ext E3).other W4 (Or.inr (slot_ne (Or.inr (hw _ (List.mem_of_getElem? (i := 30) rfl))) (Or.inr (hw _ (List.mem_of_getElem? (i := 17) rfl))) (by decide) (t := (.array .int)) (t' := (.array (.array (.array .int)))) (by decide) (by decide)))).ext E5).other W8 (Or.inr (slot_ne (Or.inr (hw _ (List.mem_of_getElem? (i := 30) rfl))) (Or.inr (hw _ (List.mem_of_getElem? (i := 19) rfl))) (by decide) (t := (.array .int)) (t' := (.array .int)) (by decide) (by decide)))).ext E9).other W11 (Or.inr (slot_ne (Or.inr (hw _ (List.mem_of_getElem? (i := 30) rfl))) (Or.inr (hw _ (List.mem_of_getElem? (i := 22) rfl))) (by decide) (t := (.array .int)) (t' := (.array .long)) (by decide) (by decide)))).ext E16).other W19 (Or.inl (Nat.ne_of_lt (Nat.lt_of_lt_of_le PE_ob0.lt bo_b3)))).other W27 (Or.inl (Nat.ne_of_lt (Nat.lt_of_lt_of_le (Nat.lt_of_lt_of_le (Nat.lt_of_lt_of_le PE_ob0.lt E3.1) (Keep.of_wr W4).1) bo_b5)))).other W39 (Or.inl (Nat.ne_of_lt (Nat.lt_of_lt_of_le (Nat.lt_of_lt_of_le (Nat.lt_of_lt_of_le (Nat.lt_of_lt_of_le (Nat.lt_of_lt_of_le PE_ob0.lt E3.1) (Keep.of_wr W4).1) E5.1) (Keep.of_wr W8).1) bo_b9)))).ext E44).other W47 (Or.inl (Nat.ne_of_lt (Nat.lt_of_lt_of_le PE_ob0.lt bo_b3)))).other W55 (Or.inl (Nat.ne_of_lt (Nat.lt_of_lt_of_le (Nat.lt_of_lt_of_le (Nat.lt_of_lt_of_le PE_ob0.lt E3.1) (Keep.of_wr W4).1) bo_b5)))).other W67 (Or.inl (Nat.ne_of_lt (Nat.lt_of_lt_of_le (Nat.lt_of_lt_of_le (Nat.lt_of_lt_of_le (Nat.lt_of_lt_of_le (Nat.lt_of_lt_of_le PE_ob0.lt E3.1) (Keep.of_wr W4).1) E5.1) (Keep.of_wr W8).1) bo_b9)))).ext E72).other W75 (Or.inl (Nat.ne_of_lt (Nat.lt_of_lt_of_le PE_ob0.lt bo_b3)))).other W83 (Or.inl (Nat.ne_of_lt (Nat.lt_of_lt_of_le (Nat.lt_of_lt_of_le (Nat.lt_of_lt_of_le PE_ob0.lt E3.1) (Keep.of_wr W4).1) bo_b5)))).other W95 (Or.inl (Nat.ne_of_lt (Nat.lt_of_lt_of_le (Nat.lt_of_lt_of_le (Nat.lt_of_lt_of_le (Nat.lt_of_lt_of_le (Nat.lt_of_lt_of_le PE_ob0.lt E3.1) (Keep.of_wr W4).1) E5.1) (Keep.of_wr W8).1) bo_b9)))).ext E100).other W103 (Or.inl (Nat.ne_of_lt (Nat.lt_of_lt_of_le PE_ob0.lt bo_b3)))).other W111 (Or.inl (Nat.ne_of_lt (Nat.lt_of_lt_of_le (Nat.lt_of_lt_of_le (Nat.lt_of_lt_of_le PE_ob0.lt E3.1) (Keep.of_wr W4).1) bo_b5)))).other W123 (Or.inl (Nat.ne_of_lt (Nat.lt_of_lt_of_le (Nat.lt_of_lt_of_le (Nat.lt_of_lt_of_le (Nat.lt_of_lt_of_le (Nat.lt_of_lt_of_le PE_ob0.lt E3.1) (Keep.of_wr W4).1) E5.1) (Keep.of_wr W8).1) bo_b9)))).ext E124)
  have J126 := ((((((((((((((((((((J7.wr W8).ext E9).wr W11).ext E16).wr W19).wr W27).wr W39).ext E44).wr W47).wr W55).wr W67).ext E72).wr W75).wr W83).wr W95).ext E100).wr W103).wr W111).wr W123).ext E124)
  obtain ⟨T127, h127, X127, e127, W127, st127⟩ := putF X124 hx hZ hown (host := "") (Or.inl (hw _ (List.mem_of_getElem? (i := 29) rfl))) Via.refl e124 J125 J126 (Or.inr ⟨(hw _ (List.mem_of_getElem? (i := 30) rfl)), rfl, hnm⟩) (hw _ (List.mem_of_getElem? (i := 6) rfl)) (ty := (.array .int)) (by decide) rfl rfl (g := (mkF m 120 #[.val (.ref ob0), .val (.ref ob1), .val (.int (4 : Int32)), .val (.int (8 : Int32)), .val (.int (4 : Int32))] [(.ref b124), (.ref ob0)])) rfl rfl (hb hby d2_120)
  have Fw127 := J125.same W127
  have N127 := Fr.snoc X127 N123 g_ob0
  have O127 := O124.wr W127 g_ob0
  have KK127 : Keep h0 h127 [ob0] := KK124.wr W127 (Or.inl (List.mem_of_getElem? (i := 0) rfl))
  obtain ⟨T128, h128, k128, X128, e128, E128, A128, B128, st128⟩ := newPE X127 hx hZ (hw _ (List.mem_of_getElem? (i := 4) rfl)) e127 (g := (mkF m 125 #[.val (.ref ob0), .val (.ref ob1), .val (.int (4 : Int32)), .val (.int (8 : Int32)), .val (.int (4 : Int32))] [(.int (4 : Int32)), (.ref ob0)])) rfl (hb hby d2_125) rfl (by decide) (cap := 4) (by decide) (by decide) (by decide) (by decide) (ad := "[I") (by decide)
  obtain ⟨b128, gg128⟩ : ∃ z, z = h127.size := ⟨_, rfl⟩
  rw [← gg128] at A128 B128 st128
  have bo_b128 : h127.size ≤ b128 := Nat.le_of_eq gg128.symm
  have g_b128 : n0 ≤ b128 := Nat.le_trans (own_n0 O127) bo_b128
  have sz_b128 : h0.size ≤ b128 := Nat.le_trans KK127.1 bo_b128
  have V_b128 : Arv Z h128 b128 k128 .int (4 : Int32) [(.int (0 : Int32)), (.int (0 : Int32)), (.int (0 : Int32)), (.int (0 : Int32))] (.int (0 : Int32)) := (Arv.new A128 (by decide)).pad (pad_rep [] (.int (0 : Int32)) 4)
  have lb_b128 : b128 < h128.size := A128.lt
  have KK128 : Keep h0 h128 [ob0] := KK127.ext E128
  have O128 := O127.ext E128
  have J129 := (((((((((((((((((((((((((PF_ob0_gathered.ext E3).other W4 (Or.inr (slot_ne (Or.inr (hw _ (List.mem_of_getElem? (i := 32) rfl))) (Or.inr (hw _ (List.mem_of_getElem? (i := 17) rfl))) (by decide) (t := (.array .int)) (t' := (.array (.array (.array .int)))) (by decide) (by decide)))).ext E5).other W8 (Or.inr (slot_ne (Or.inr (hw _ (List.mem_of_getElem? (i := 32) rfl))) (Or.inr (hw _ (List.mem_of_getElem? (i := 19) rfl))) (by decide) (t := (.array .int)) (t' := (.array .int)) (by decide) (by decide)))).ext E9).other W11 (Or.inr (slot_ne (Or.inr (hw _ (List.mem_of_getElem? (i := 32) rfl))) (Or.inr (hw _ (List.mem_of_getElem? (i := 22) rfl))) (by decide) (t := (.array .int)) (t' := (.array .long)) (by decide) (by decide)))).ext E16).other W19 (Or.inl (Nat.ne_of_lt (Nat.lt_of_lt_of_le PE_ob0.lt bo_b3)))).other W27 (Or.inl (Nat.ne_of_lt (Nat.lt_of_lt_of_le (Nat.lt_of_lt_of_le (Nat.lt_of_lt_of_le PE_ob0.lt E3.1) (Keep.of_wr W4).1) bo_b5)))).other W39 (Or.inl (Nat.ne_of_lt (Nat.lt_of_lt_of_le (Nat.lt_of_lt_of_le (Nat.lt_of_lt_of_le (Nat.lt_of_lt_of_le (Nat.lt_of_lt_of_le PE_ob0.lt E3.1) (Keep.of_wr W4).1) E5.1) (Keep.of_wr W8).1) bo_b9)))).ext E44).other W47 (Or.inl (Nat.ne_of_lt (Nat.lt_of_lt_of_le PE_ob0.lt bo_b3)))).other W55 (Or.inl (Nat.ne_of_lt (Nat.lt_of_lt_of_le (Nat.lt_of_lt_of_le (Nat.lt_of_lt_of_le PE_ob0.lt E3.1) (Keep.of_wr W4).1) bo_b5)))).other W67 (Or.inl (Nat.ne_of_lt (Nat.lt_of_lt_of_le (Nat.lt_of_lt_of_le (Nat.lt_of_lt_of_le (Nat.lt_of_lt_of_le (Nat.lt_of_lt_of_le PE_ob0.lt E3.1) (Keep.of_wr W4).1) E5.1) (Keep.of_wr W8).1) bo_b9)))).ext E72).other W75 (Or.inl (Nat.ne_of_lt (Nat.lt_of_lt_of_le PE_ob0.lt bo_b3)))).other W83 (Or.inl (Nat.ne_of_lt (Nat.lt_of_lt_of_le (Nat.lt_of_lt_of_le (Nat.lt_of_lt_of_le PE_ob0.lt E3.1) (Keep.of_wr W4).1) bo_b5)))).other W95 (Or.inl (Nat.ne_of_lt (Nat.lt_of_lt_of_le (Nat.lt_of_lt_of_le (Nat.lt_of_lt_of_le (Nat.lt_of_lt_of_le (Nat.lt_of_lt_of_le PE_ob0.lt E3.1) (Keep.of_wr W4).1) E5.1) (Keep.of_wr W8).1) bo_b9)))).ext E100).other W103 (Or.inl (Nat.ne_of_lt (Nat.lt_of_lt_of_le PE_ob0.lt bo_b3)))).other W111 (Or.inl (Nat.ne_of_lt (Nat.lt_of_lt_of_le (Nat.lt_of_lt_of_le (Nat.lt_of_lt_of_le PE_ob0.lt E3.1) (Keep.of_wr W4).1) bo_b5)))).other W123 (Or.inl (Nat.ne_of_lt (Nat.lt_of_lt_of_le (Nat.lt_of_lt_of_le (Nat.lt_of_lt_of_le (Nat.lt_of_lt_of_le (Nat.lt_of_lt_of_le PE_ob0.lt E3.1) (Keep.of_wr W4).1) E5.1) (Keep.of_wr W8).1) bo_b9)))).ext E124).other W127 (Or.inr (slot_ne (Or.inr (hw _ (List.mem_of_getElem? (i := 32) rfl))) (Or.inr (hw _ (List.mem_of_getElem? (i := 30) rfl))) (by decide) (t := (.array .int)) (t' := (.array .int)) (by decide) (by decide)))).ext E128)
  obtain ⟨T130, h130, X130, e130, W130, st130⟩ := putF X128 hx hZ hown (host := "") (Or.inl (hw _ (List.mem_of_getElem? (i := 31) rfl))) Via.refl e128 J129 ((J126.wr W127).ext E128) (Or.inr ⟨(hw _ (List.mem_of_getElem? (i := 32) rfl)), rfl, hnm⟩) (hw _ (List.mem_of_getElem? (i := 6) rfl)) (ty := (.array .int)) (by decide) rfl rfl (g := (mkF m 127 #[.val (.ref ob0), .val (.ref ob1), .val (.int (4 : Int32)), .val (.int (8 : Int32)), .val (.int (4 : Int32))] [(.ref b128), (.ref ob0)])) rfl rfl (hb hby d2_127)
  have Fw130 := J129.same W130
  have N130 := Fr.snoc X130 N127 g_ob0
  have O130 := O128.wr W130 g_ob0
  have KK130 : Keep h0 h130 [ob0] := KK128.wr W130 (Or.inl (List.mem_of_getElem? (i := 0) rfl))
  obtain ⟨T131, h131, k131, X131, e131, E131, A131, B131, st131⟩ := newPE X130 hx hZ (hw _ (List.mem_of_getElem? (i := 33) rfl)) e130 (g := (mkF m 132 #[.val (.ref ob0), .val (.ref ob1), .val (.int (4 : Int32)), .val (.int (8 : Int32)), .val (.int (4 : Int32))] [(.int (4 : Int32)), (.ref ob0)])) rfl (hb hby d2_132) rfl (by decide) (cap := 4) (by decide) (by decide) (by decide) (by decide) (ad := "[Z") (by decide)
  obtain ⟨b131, gg131⟩ : ∃ z, z = h130.size := ⟨_, rfl⟩
  rw [← gg131] at A131 B131 st131
  have bo_b131 : h130.size ≤ b131 := Nat.le_of_eq gg131.symm
  have g_b131 : n0 ≤ b131 := Nat.le_trans (own_n0 O130) bo_b131
  have sz_b131 : h0.size ≤ b131 := Nat.le_trans KK130.1 bo_b131
  have V_b131 : Arv Z h131 b131 k131 .boolean (4 : Int32) [(.int (0 : Int32)), (.int (0 : Int32)), (.int (0 : Int32)), (.int (0 : Int32))] (.int (0 : Int32)) := (Arv.new A131 (by decide)).pad (pad_rep [] (.int (0 : Int32)) 4)
  have lb_b131 : b131 < h131.size := A131.lt
  have KK131 : Keep h0 h131 [ob0] := KK130.ext E131
  have O131 := O130.ext E131
  have J132 := (((((((((((((((((((((((((((PF_ob0_marked.ext E3).other W4 (Or.inr (slot_ne (Or.inr (hw _ (List.mem_of_getElem? (i := 35) rfl))) (Or.inr (hw _ (List.mem_of_getElem? (i := 17) rfl))) (by decide) (t := (.array .boolean)) (t' := (.array (.array (.array .int)))) (by decide) (by decide)))).ext E5).other W8 (Or.inr (slot_ne (Or.inr (hw _ (List.mem_of_getElem? (i := 35) rfl))) (Or.inr (hw _ (List.mem_of_getElem? (i := 19) rfl))) (by decide) (t := (.array .boolean)) (t' := (.array .int)) (by decide) (by decide)))).ext E9).other W11 (Or.inr (slot_ne (Or.inr (hw _ (List.mem_of_getElem? (i := 35) rfl))) (Or.inr (hw _ (List.mem_of_getElem? (i := 22) rfl))) (by decide) (t := (.array .boolean)) (t' := (.array .long)) (by decide) (by decide)))).ext E16).other W19 (Or.inl (Nat.ne_of_lt (Nat.lt_of_lt_of_le PE_ob0.lt bo_b3)))).other W27 (Or.inl (Nat.ne_of_lt (Nat.lt_of_lt_of_le (Nat.lt_of_lt_of_le (Nat.lt_of_lt_of_le PE_ob0.lt E3.1) (Keep.of_wr W4).1) bo_b5)))).other W39 (Or.inl (Nat.ne_of_lt (Nat.lt_of_lt_of_le (Nat.lt_of_lt_of_le (Nat.lt_of_lt_of_le (Nat.lt_of_lt_of_le (Nat.lt_of_lt_of_le PE_ob0.lt E3.1) (Keep.of_wr W4).1) E5.1) (Keep.of_wr W8).1) bo_b9)))).ext E44).other W47 (Or.inl (Nat.ne_of_lt (Nat.lt_of_lt_of_le PE_ob0.lt bo_b3)))).other W55 (Or.inl (Nat.ne_of_lt (Nat.lt_of_lt_of_le (Nat.lt_of_lt_of_le (Nat.lt_of_lt_of_le PE_ob0.lt E3.1) (Keep.of_wr W4).1) bo_b5)))).other W67 (Or.inl (Nat.ne_of_lt (Nat.lt_of_lt_of_le (Nat.lt_of_lt_of_le (Nat.lt_of_lt_of_le (Nat.lt_of_lt_of_le (Nat.lt_of_lt_of_le PE_ob0.lt E3.1) (Keep.of_wr W4).1) E5.1) (Keep.of_wr W8).1) bo_b9)))).ext E72).other W75 (Or.inl (Nat.ne_of_lt (Nat.lt_of_lt_of_le PE_ob0.lt bo_b3)))).other W83 (Or.inl (Nat.ne_of_lt (Nat.lt_of_lt_of_le (Nat.lt_of_lt_of_le (Nat.lt_of_lt_of_le PE_ob0.lt E3.1) (Keep.of_wr W4).1) bo_b5)))).other W95 (Or.inl (Nat.ne_of_lt (Nat.lt_of_lt_of_le (Nat.lt_of_lt_of_le (Nat.lt_of_lt_of_le (Nat.lt_of_lt_of_le (Nat.lt_of_lt_of_le PE_ob0.lt E3.1) (Keep.of_wr W4).1) E5.1) (Keep.of_wr W8).1) bo_b9)))).ext E100).other W103 (Or.inl (Nat.ne_of_lt (Nat.lt_of_lt_of_le PE_ob0.lt bo_b3)))).other W111 (Or.inl (Nat.ne_of_lt (Nat.lt_of_lt_of_le (Nat.lt_of_lt_of_le (Nat.lt_of_lt_of_le PE_ob0.lt E3.1) (Keep.of_wr W4).1) bo_b5)))).other W123 (Or.inl (Nat.ne_of_lt (Nat.lt_of_lt_of_le (Nat.lt_of_lt_of_le (Nat.lt_of_lt_of_le (Nat.lt_of_lt_of_le (Nat.lt_of_lt_of_le PE_ob0.lt E3.1) (Keep.of_wr W4).1) E5.1) (Keep.of_wr W8).1) bo_b9)))).ext E124).other W127 (Or.inr (slot_ne (Or.inr (hw _ (List.mem_of_getElem? (i := 35) rfl))) (Or.inr (hw _ (List.mem_of_getElem? (i := 30) rfl))) (by decide) (t := (.array .boolean)) (t' := (.array .int)) (by decide) (by decide)))).ext E128).other W130 (Or.inr (slot_ne (Or.inr (hw _ (List.mem_of_getElem? (i := 35) rfl))) (Or.inr (hw _ (List.mem_of_getElem? (i := 32) rfl))) (by decide) (t := (.array .boolean)) (t' := (.array .int)) (by decide) (by decide)))).ext E131)
  have J133 := ((((J126.wr W127).ext E128).wr W130).ext E131)
  obtain ⟨T134, h134, X134, e134, W134, st134⟩ := putF X131 hx hZ hown (host := "") (Or.inl (hw _ (List.mem_of_getElem? (i := 34) rfl))) Via.refl e131 J132 J133 (Or.inr ⟨(hw _ (List.mem_of_getElem? (i := 35) rfl)), rfl, hnm⟩) (hw _ (List.mem_of_getElem? (i := 6) rfl)) (ty := (.array .boolean)) (by decide) rfl rfl (g := (mkF m 134 #[.val (.ref ob0), .val (.ref ob1), .val (.int (4 : Int32)), .val (.int (8 : Int32)), .val (.int (4 : Int32))] [(.ref b131), (.ref ob0)])) rfl rfl (hb hby d2_134)
  have Fw134 := J132.same W134
  have N134 := Fr.snoc X134 N130 g_ob0
  have O134 := O131.wr W134 g_ob0
  have KK134 : Keep h0 h134 [ob0] := KK131.wr W134 (Or.inl (List.mem_of_getElem? (i := 0) rfl))
  have J135 := ((((((((((J96.ext E100).other W103 (Or.inl (Nat.ne_of_lt (Nat.lt_of_lt_of_le PE_ob0.lt bo_b3)))).other W111 (Or.inl (Nat.ne_of_lt (Nat.lt_of_lt_of_le (Nat.lt_of_lt_of_le (Nat.lt_of_lt_of_le PE_ob0.lt E3.1) (Keep.of_wr W4).1) bo_b5)))).other W123 (Or.inl (Nat.ne_of_lt (Nat.lt_of_lt_of_le (Nat.lt_of_lt_of_le (Nat.lt_of_lt_of_le (Nat.lt_of_lt_of_le (Nat.lt_of_lt_of_le PE_ob0.lt E3.1) (Keep.of_wr W4).1) E5.1) (Keep.of_wr W8).1) bo_b9)))).ext E124).other W127 (Or.inr (slot_ne (Or.inr (hw _ (List.mem_of_getElem? (i := 17) rfl))) (Or.inr (hw _ (List.mem_of_getElem? (i := 30) rfl))) (by decide) (t := (.array (.array (.array .int)))) (t' := (.array .int)) (by decide) (by decide)))).ext E128).other W130 (Or.inr (slot_ne (Or.inr (hw _ (List.mem_of_getElem? (i := 17) rfl))) (Or.inr (hw _ (List.mem_of_getElem? (i := 32) rfl))) (by decide) (t := (.array (.array (.array .int)))) (t' := (.array .int)) (by decide) (by decide)))).ext E131).other W134 (Or.inr (slot_ne (Or.inr (hw _ (List.mem_of_getElem? (i := 17) rfl))) (Or.inr (hw _ (List.mem_of_getElem? (i := 35) rfl))) (by decide) (t := (.array (.array (.array .int)))) (t' := (.array .boolean)) (by decide) (by decide))))
  have J136 := ((((((((J104.other W111 (Or.inl (Nat.ne_of_lt (Nat.lt_of_lt_of_le (Nat.lt_of_lt_of_le (Nat.lt_of_lt_of_le PE_ob0.lt E3.1) (Keep.of_wr W4).1) bo_b5)))).other W123 (Or.inl (Nat.ne_of_lt (Nat.lt_of_lt_of_le (Nat.lt_of_lt_of_le (Nat.lt_of_lt_of_le (Nat.lt_of_lt_of_le (Nat.lt_of_lt_of_le PE_ob0.lt E3.1) (Keep.of_wr W4).1) E5.1) (Keep.of_wr W8).1) bo_b9)))).ext E124).other W127 (Or.inr (slot_ne (Or.inr (hw _ (List.mem_of_getElem? (i := 19) rfl))) (Or.inr (hw _ (List.mem_of_getElem? (i := 30) rfl))) (by decide) (t := (.array .int)) (t' := (.array .int)) (by decide) (by decide)))).ext E128).other W130 (Or.inr (slot_ne (Or.inr (hw _ (List.mem_of_getElem? (i := 19) rfl))) (Or.inr (hw _ (List.mem_of_getElem? (i := 32) rfl))) (by decide) (t := (.array .int)) (t' := (.array .int)) (by decide) (by decide)))).ext E131).other W134 (Or.inr (slot_ne (Or.inr (hw _ (List.mem_of_getElem? (i := 19) rfl))) (Or.inr (hw _ (List.mem_of_getElem? (i := 35) rfl))) (by decide) (t := (.array .int)) (t' := (.array .boolean)) (by decide) (by decide))))
  have J137 := (((((((J116.other W123 (Or.inl (Nat.ne_of_lt (Nat.lt_of_lt_of_le (Nat.lt_of_lt_of_le (Nat.lt_of_lt_of_le (Nat.lt_of_lt_of_le (Nat.lt_of_lt_of_le PE_ob0.lt E3.1) (Keep.of_wr W4).1) E5.1) (Keep.of_wr W8).1) bo_b9)))).ext E124).other W127 (Or.inr (slot_ne (Or.inr (hw _ (List.mem_of_getElem? (i := 22) rfl))) (Or.inr (hw _ (List.mem_of_getElem? (i := 30) rfl))) (by decide) (t := (.array .long)) (t' := (.array .int)) (by decide) (by decide)))).ext E128).other W130 (Or.inr (slot_ne (Or.inr (hw _ (List.mem_of_getElem? (i := 22) rfl))) (Or.inr (hw _ (List.mem_of_getElem? (i := 32) rfl))) (by decide) (t := (.array .long)) (t' := (.array .int)) (by decide) (by decide)))).ext E131).other W134 (Or.inr (slot_ne (Or.inr (hw _ (List.mem_of_getElem? (i := 22) rfl))) (Or.inr (hw _ (List.mem_of_getElem? (i := 35) rfl))) (by decide) (t := (.array .long)) (t' := (.array .boolean)) (by decide) (by decide))))
  have J138 := ((((Fw127.ext E128).other W130 (Or.inr (slot_ne (Or.inr (hw _ (List.mem_of_getElem? (i := 30) rfl))) (Or.inr (hw _ (List.mem_of_getElem? (i := 32) rfl))) (by decide) (t := (.array .int)) (t' := (.array .int)) (by decide) (by decide)))).ext E131).other W134 (Or.inr (slot_ne (Or.inr (hw _ (List.mem_of_getElem? (i := 30) rfl))) (Or.inr (hw _ (List.mem_of_getElem? (i := 35) rfl))) (by decide) (t := (.array .int)) (t' := (.array .boolean)) (by decide) (by decide))))
  have J139 := ((((((((((((((((((((((((((((PF_ob0_trailSize.ext E3).other W4 (Or.inr (slot_ne (Or.inl (hw _ (List.mem_of_getElem? (i := 44) rfl))) (Or.inr (hw _ (List.mem_of_getElem? (i := 17) rfl))) (by decide) (t := .int) (t' := (.array (.array (.array .int)))) (by decide) (by decide)))).ext E5).other W8 (Or.inr (slot_ne (Or.inl (hw _ (List.mem_of_getElem? (i := 44) rfl))) (Or.inr (hw _ (List.mem_of_getElem? (i := 19) rfl))) (by decide) (t := .int) (t' := (.array .int)) (by decide) (by decide)))).ext E9).other W11 (Or.inr (slot_ne (Or.inl (hw _ (List.mem_of_getElem? (i := 44) rfl))) (Or.inr (hw _ (List.mem_of_getElem? (i := 22) rfl))) (by decide) (t := .int) (t' := (.array .long)) (by decide) (by decide)))).ext E16).other W19 (Or.inl (Nat.ne_of_lt (Nat.lt_of_lt_of_le PE_ob0.lt bo_b3)))).other W27 (Or.inl (Nat.ne_of_lt (Nat.lt_of_lt_of_le (Nat.lt_of_lt_of_le (Nat.lt_of_lt_of_le PE_ob0.lt E3.1) (Keep.of_wr W4).1) bo_b5)))).other W39 (Or.inl (Nat.ne_of_lt (Nat.lt_of_lt_of_le (Nat.lt_of_lt_of_le (Nat.lt_of_lt_of_le (Nat.lt_of_lt_of_le (Nat.lt_of_lt_of_le PE_ob0.lt E3.1) (Keep.of_wr W4).1) E5.1) (Keep.of_wr W8).1) bo_b9)))).ext E44).other W47 (Or.inl (Nat.ne_of_lt (Nat.lt_of_lt_of_le PE_ob0.lt bo_b3)))).other W55 (Or.inl (Nat.ne_of_lt (Nat.lt_of_lt_of_le (Nat.lt_of_lt_of_le (Nat.lt_of_lt_of_le PE_ob0.lt E3.1) (Keep.of_wr W4).1) bo_b5)))).other W67 (Or.inl (Nat.ne_of_lt (Nat.lt_of_lt_of_le (Nat.lt_of_lt_of_le (Nat.lt_of_lt_of_le (Nat.lt_of_lt_of_le (Nat.lt_of_lt_of_le PE_ob0.lt E3.1) (Keep.of_wr W4).1) E5.1) (Keep.of_wr W8).1) bo_b9)))).ext E72).other W75 (Or.inl (Nat.ne_of_lt (Nat.lt_of_lt_of_le PE_ob0.lt bo_b3)))).other W83 (Or.inl (Nat.ne_of_lt (Nat.lt_of_lt_of_le (Nat.lt_of_lt_of_le (Nat.lt_of_lt_of_le PE_ob0.lt E3.1) (Keep.of_wr W4).1) bo_b5)))).other W95 (Or.inl (Nat.ne_of_lt (Nat.lt_of_lt_of_le (Nat.lt_of_lt_of_le (Nat.lt_of_lt_of_le (Nat.lt_of_lt_of_le (Nat.lt_of_lt_of_le PE_ob0.lt E3.1) (Keep.of_wr W4).1) E5.1) (Keep.of_wr W8).1) bo_b9)))).ext E100).other W103 (Or.inl (Nat.ne_of_lt (Nat.lt_of_lt_of_le PE_ob0.lt bo_b3)))).other W111 (Or.inl (Nat.ne_of_lt (Nat.lt_of_lt_of_le (Nat.lt_of_lt_of_le (Nat.lt_of_lt_of_le PE_ob0.lt E3.1) (Keep.of_wr W4).1) bo_b5)))).other W123 (Or.inl (Nat.ne_of_lt (Nat.lt_of_lt_of_le (Nat.lt_of_lt_of_le (Nat.lt_of_lt_of_le (Nat.lt_of_lt_of_le (Nat.lt_of_lt_of_le PE_ob0.lt E3.1) (Keep.of_wr W4).1) E5.1) (Keep.of_wr W8).1) bo_b9)))).ext E124).other W127 (Or.inr (slot_ne (Or.inl (hw _ (List.mem_of_getElem? (i := 44) rfl))) (Or.inr (hw _ (List.mem_of_getElem? (i := 30) rfl))) (by decide) (t := .int) (t' := (.array .int)) (by decide) (by decide)))).ext E128).other W130 (Or.inr (slot_ne (Or.inl (hw _ (List.mem_of_getElem? (i := 44) rfl))) (Or.inr (hw _ (List.mem_of_getElem? (i := 32) rfl))) (by decide) (t := .int) (t' := (.array .int)) (by decide) (by decide)))).ext E131).other W134 (Or.inr (slot_ne (Or.inl (hw _ (List.mem_of_getElem? (i := 44) rfl))) (Or.inr (hw _ (List.mem_of_getElem? (i := 35) rfl))) (by decide) (t := .int) (t' := (.array .boolean)) (by decide) (by decide))))
  have J140 := ((((((((((((((((((((((((((((PF_ob0_gatheredCount.ext E3).other W4 (Or.inr (slot_ne (Or.inl (hw _ (List.mem_of_getElem? (i := 56) rfl))) (Or.inr (hw _ (List.mem_of_getElem? (i := 17) rfl))) (by decide) (t := .int) (t' := (.array (.array (.array .int)))) (by decide) (by decide)))).ext E5).other W8 (Or.inr (slot_ne (Or.inl (hw _ (List.mem_of_getElem? (i := 56) rfl))) (Or.inr (hw _ (List.mem_of_getElem? (i := 19) rfl))) (by decide) (t := .int) (t' := (.array .int)) (by decide) (by decide)))).ext E9).other W11 (Or.inr (slot_ne (Or.inl (hw _ (List.mem_of_getElem? (i := 56) rfl))) (Or.inr (hw _ (List.mem_of_getElem? (i := 22) rfl))) (by decide) (t := .int) (t' := (.array .long)) (by decide) (by decide)))).ext E16).other W19 (Or.inl (Nat.ne_of_lt (Nat.lt_of_lt_of_le PE_ob0.lt bo_b3)))).other W27 (Or.inl (Nat.ne_of_lt (Nat.lt_of_lt_of_le (Nat.lt_of_lt_of_le (Nat.lt_of_lt_of_le PE_ob0.lt E3.1) (Keep.of_wr W4).1) bo_b5)))).other W39 (Or.inl (Nat.ne_of_lt (Nat.lt_of_lt_of_le (Nat.lt_of_lt_of_le (Nat.lt_of_lt_of_le (Nat.lt_of_lt_of_le (Nat.lt_of_lt_of_le PE_ob0.lt E3.1) (Keep.of_wr W4).1) E5.1) (Keep.of_wr W8).1) bo_b9)))).ext E44).other W47 (Or.inl (Nat.ne_of_lt (Nat.lt_of_lt_of_le PE_ob0.lt bo_b3)))).other W55 (Or.inl (Nat.ne_of_lt (Nat.lt_of_lt_of_le (Nat.lt_of_lt_of_le (Nat.lt_of_lt_of_le PE_ob0.lt E3.1) (Keep.of_wr W4).1) bo_b5)))).other W67 (Or.inl (Nat.ne_of_lt (Nat.lt_of_lt_of_le (Nat.lt_of_lt_of_le (Nat.lt_of_lt_of_le (Nat.lt_of_lt_of_le (Nat.lt_of_lt_of_le PE_ob0.lt E3.1) (Keep.of_wr W4).1) E5.1) (Keep.of_wr W8).1) bo_b9)))).ext E72).other W75 (Or.inl (Nat.ne_of_lt (Nat.lt_of_lt_of_le PE_ob0.lt bo_b3)))).other W83 (Or.inl (Nat.ne_of_lt (Nat.lt_of_lt_of_le (Nat.lt_of_lt_of_le (Nat.lt_of_lt_of_le PE_ob0.lt E3.1) (Keep.of_wr W4).1) bo_b5)))).other W95 (Or.inl (Nat.ne_of_lt (Nat.lt_of_lt_of_le (Nat.lt_of_lt_of_le (Nat.lt_of_lt_of_le (Nat.lt_of_lt_of_le (Nat.lt_of_lt_of_le PE_ob0.lt E3.1) (Keep.of_wr W4).1) E5.1) (Keep.of_wr W8).1) bo_b9)))).ext E100).other W103 (Or.inl (Nat.ne_of_lt (Nat.lt_of_lt_of_le PE_ob0.lt bo_b3)))).other W111 (Or.inl (Nat.ne_of_lt (Nat.lt_of_lt_of_le (Nat.lt_of_lt_of_le (Nat.lt_of_lt_of_le PE_ob0.lt E3.1) (Keep.of_wr W4).1) bo_b5)))).other W123 (Or.inl (Nat.ne_of_lt (Nat.lt_of_lt_of_le (Nat.lt_of_lt_of_le (Nat.lt_of_lt_of_le (Nat.lt_of_lt_of_le (Nat.lt_of_lt_of_le PE_ob0.lt E3.1) (Keep.of_wr W4).1) E5.1) (Keep.of_wr W8).1) bo_b9)))).ext E124).other W127 (Or.inr (slot_ne (Or.inl (hw _ (List.mem_of_getElem? (i := 56) rfl))) (Or.inr (hw _ (List.mem_of_getElem? (i := 30) rfl))) (by decide) (t := .int) (t' := (.array .int)) (by decide) (by decide)))).ext E128).other W130 (Or.inr (slot_ne (Or.inl (hw _ (List.mem_of_getElem? (i := 56) rfl))) (Or.inr (hw _ (List.mem_of_getElem? (i := 32) rfl))) (by decide) (t := .int) (t' := (.array .int)) (by decide) (by decide)))).ext E131).other W134 (Or.inr (slot_ne (Or.inl (hw _ (List.mem_of_getElem? (i := 56) rfl))) (Or.inr (hw _ (List.mem_of_getElem? (i := 35) rfl))) (by decide) (t := .int) (t' := (.array .boolean)) (by decide) (by decide))))
  have J141 := ((((((((V_b3_103.other W111 (Nat.ne_of_lt (Nat.lt_of_lt_of_le (Nat.lt_of_lt_of_le lb_b3 (Keep.of_wr W4).1) bo_b5))).other W123 (Nat.ne_of_lt (Nat.lt_of_lt_of_le (Nat.lt_of_lt_of_le (Nat.lt_of_lt_of_le (Nat.lt_of_lt_of_le lb_b3 (Keep.of_wr W4).1) E5.1) (Keep.of_wr W8).1) bo_b9))).ext E124).other W127 (Ne.symm (Nat.ne_of_lt (Nat.lt_of_lt_of_le PE_ob0.lt bo_b3)))).ext E128).other W130 (Ne.symm (Nat.ne_of_lt (Nat.lt_of_lt_of_le PE_ob0.lt bo_b3)))).ext E131).other W134 (Ne.symm (Nat.ne_of_lt (Nat.lt_of_lt_of_le PE_ob0.lt bo_b3))))
  have J142 := (((((((((((((((((((((((((((B3.wr W4).ext E5).wr W8).ext E9).wr W11).ext E16).wr W19).wr W27).wr W39).ext E44).wr W47).wr W55).wr W67).ext E72).wr W75).wr W83).wr W95).ext E100).wr W103).wr W111).wr W123).ext E124).wr W127).ext E128).wr W130).ext E131).wr W134)
  have J143 := (((((((V_b5_111.other W123 (Nat.ne_of_lt (Nat.lt_of_lt_of_le (Nat.lt_of_lt_of_le lb_b5 (Keep.of_wr W8).1) bo_b9))).ext E124).other W127 (Ne.symm (Nat.ne_of_lt (Nat.lt_of_lt_of_le (Nat.lt_of_lt_of_le (Nat.lt_of_lt_of_le PE_ob0.lt E3.1) (Keep.of_wr W4).1) bo_b5)))).ext E128).other W130 (Ne.symm (Nat.ne_of_lt (Nat.lt_of_lt_of_le (Nat.lt_of_lt_of_le (Nat.lt_of_lt_of_le PE_ob0.lt E3.1) (Keep.of_wr W4).1) bo_b5)))).ext E131).other W134 (Ne.symm (Nat.ne_of_lt (Nat.lt_of_lt_of_le (Nat.lt_of_lt_of_le (Nat.lt_of_lt_of_le PE_ob0.lt E3.1) (Keep.of_wr W4).1) bo_b5))))
  have J144 := (((((((((((((((((((((((((B5.wr W8).ext E9).wr W11).ext E16).wr W19).wr W27).wr W39).ext E44).wr W47).wr W55).wr W67).ext E72).wr W75).wr W83).wr W95).ext E100).wr W103).wr W111).wr W123).ext E124).wr W127).ext E128).wr W130).ext E131).wr W134)
  have J145 := ((((((V_b9_123.ext E124).other W127 (Ne.symm (Nat.ne_of_lt (Nat.lt_of_lt_of_le (Nat.lt_of_lt_of_le (Nat.lt_of_lt_of_le (Nat.lt_of_lt_of_le (Nat.lt_of_lt_of_le PE_ob0.lt E3.1) (Keep.of_wr W4).1) E5.1) (Keep.of_wr W8).1) bo_b9)))).ext E128).other W130 (Ne.symm (Nat.ne_of_lt (Nat.lt_of_lt_of_le (Nat.lt_of_lt_of_le (Nat.lt_of_lt_of_le (Nat.lt_of_lt_of_le (Nat.lt_of_lt_of_le PE_ob0.lt E3.1) (Keep.of_wr W4).1) E5.1) (Keep.of_wr W8).1) bo_b9)))).ext E131).other W134 (Ne.symm (Nat.ne_of_lt (Nat.lt_of_lt_of_le (Nat.lt_of_lt_of_le (Nat.lt_of_lt_of_le (Nat.lt_of_lt_of_le (Nat.lt_of_lt_of_le PE_ob0.lt E3.1) (Keep.of_wr W4).1) E5.1) (Keep.of_wr W8).1) bo_b9))))
  have J146 := (((((((((((((((((((((((B9.wr W11).ext E16).wr W19).wr W27).wr W39).ext E44).wr W47).wr W55).wr W67).ext E72).wr W75).wr W83).wr W95).ext E100).wr W103).wr W111).wr W123).ext E124).wr W127).ext E128).wr W130).ext E131).wr W134)
  have J147 := (((((V_b124.other W127 (Ne.symm (Nat.ne_of_lt (Nat.lt_of_lt_of_le (Nat.lt_of_lt_of_le (Nat.lt_of_lt_of_le (Nat.lt_of_lt_of_le (Nat.lt_of_lt_of_le (Nat.lt_of_lt_of_le (Nat.lt_of_lt_of_le (Nat.lt_of_lt_of_le (Nat.lt_of_lt_of_le (Nat.lt_of_lt_of_le (Nat.lt_of_lt_of_le (Nat.lt_of_lt_of_le (Nat.lt_of_lt_of_le (Nat.lt_of_lt_of_le (Nat.lt_of_lt_of_le (Nat.lt_of_lt_of_le (Nat.lt_of_lt_of_le (Nat.lt_of_lt_of_le (Nat.lt_of_lt_of_le (Nat.lt_of_lt_of_le (Nat.lt_of_lt_of_le (Nat.lt_of_lt_of_le (Nat.lt_of_lt_of_le PE_ob0.lt E3.1) (Keep.of_wr W4).1) E5.1) (Keep.of_wr W8).1) E9.1) (Keep.of_wr W11).1) E16.1) (Keep.of_wr W19).1) (Keep.of_wr W27).1) (Keep.of_wr W39).1) E44.1) (Keep.of_wr W47).1) (Keep.of_wr W55).1) (Keep.of_wr W67).1) E72.1) (Keep.of_wr W75).1) (Keep.of_wr W83).1) (Keep.of_wr W95).1) E100.1) (Keep.of_wr W103).1) (Keep.of_wr W111).1) (Keep.of_wr W123).1) bo_b124)))).ext E128).other W130 (Ne.symm (Nat.ne_of_lt (Nat.lt_of_lt_of_le (Nat.lt_of_lt_of_le (Nat.lt_of_lt_of_le (Nat.lt_of_lt_of_le (Nat.lt_of_lt_of_le (Nat.lt_of_lt_of_le (Nat.lt_of_lt_of_le (Nat.lt_of_lt_of_le (Nat.lt_of_lt_of_le (Nat.lt_of_lt_of_le (Nat.lt_of_lt_of_le (Nat.lt_of_lt_of_le (Nat.lt_of_lt_of_le (Nat.lt_of_lt_of_le (Nat.lt_of_lt_of_le (Nat.lt_of_lt_of_le (Nat.lt_of_lt_of_le (Nat.lt_of_lt_of_le (Nat.lt_of_lt_of_le (Nat.lt_of_lt_of_le (Nat.lt_of_lt_of_le (Nat.lt_of_lt_of_le (Nat.lt_of_lt_of_le PE_ob0.lt E3.1) (Keep.of_wr W4).1) E5.1) (Keep.of_wr W8).1) E9.1) (Keep.of_wr W11).1) E16.1) (Keep.of_wr W19).1) (Keep.of_wr W27).1) (Keep.of_wr W39).1) E44.1) (Keep.of_wr W47).1) (Keep.of_wr W55).1) (Keep.of_wr W67).1) E72.1) (Keep.of_wr W75).1) (Keep.of_wr W83).1) (Keep.of_wr W95).1) E100.1) (Keep.of_wr W103).1) (Keep.of_wr W111).1) (Keep.of_wr W123).1) bo_b124)))).ext E131).other W134 (Ne.symm (Nat.ne_of_lt (Nat.lt_of_lt_of_le (Nat.lt_of_lt_of_le (Nat.lt_of_lt_of_le (Nat.lt_of_lt_of_le (Nat.lt_of_lt_of_le (Nat.lt_of_lt_of_le (Nat.lt_of_lt_of_le (Nat.lt_of_lt_of_le (Nat.lt_of_lt_of_le (Nat.lt_of_lt_of_le (Nat.lt_of_lt_of_le (Nat.lt_of_lt_of_le (Nat.lt_of_lt_of_le (Nat.lt_of_lt_of_le (Nat.lt_of_lt_of_le (Nat.lt_of_lt_of_le (Nat.lt_of_lt_of_le (Nat.lt_of_lt_of_le (Nat.lt_of_lt_of_le (Nat.lt_of_lt_of_le (Nat.lt_of_lt_of_le (Nat.lt_of_lt_of_le (Nat.lt_of_lt_of_le PE_ob0.lt E3.1) (Keep.of_wr W4).1) E5.1) (Keep.of_wr W8).1) E9.1) (Keep.of_wr W11).1) E16.1) (Keep.of_wr W19).1) (Keep.of_wr W27).1) (Keep.of_wr W39).1) E44.1) (Keep.of_wr W47).1) (Keep.of_wr W55).1) (Keep.of_wr W67).1) E72.1) (Keep.of_wr W75).1) (Keep.of_wr W83).1) (Keep.of_wr W95).1) E100.1) (Keep.of_wr W103).1) (Keep.of_wr W111).1) (Keep.of_wr W123).1) bo_b124))))
  have J148 := (((((B124.wr W127).ext E128).wr W130).ext E131).wr W134)
  have J149 := (((V_b128.other W130 (Ne.symm (Nat.ne_of_lt (Nat.lt_of_lt_of_le (Nat.lt_of_lt_of_le (Nat.lt_of_lt_of_le (Nat.lt_of_lt_of_le (Nat.lt_of_lt_of_le (Nat.lt_of_lt_of_le (Nat.lt_of_lt_of_le (Nat.lt_of_lt_of_le (Nat.lt_of_lt_of_le (Nat.lt_of_lt_of_le (Nat.lt_of_lt_of_le (Nat.lt_of_lt_of_le (Nat.lt_of_lt_of_le (Nat.lt_of_lt_of_le (Nat.lt_of_lt_of_le (Nat.lt_of_lt_of_le (Nat.lt_of_lt_of_le (Nat.lt_of_lt_of_le (Nat.lt_of_lt_of_le (Nat.lt_of_lt_of_le (Nat.lt_of_lt_of_le (Nat.lt_of_lt_of_le (Nat.lt_of_lt_of_le (Nat.lt_of_lt_of_le (Nat.lt_of_lt_of_le PE_ob0.lt E3.1) (Keep.of_wr W4).1) E5.1) (Keep.of_wr W8).1) E9.1) (Keep.of_wr W11).1) E16.1) (Keep.of_wr W19).1) (Keep.of_wr W27).1) (Keep.of_wr W39).1) E44.1) (Keep.of_wr W47).1) (Keep.of_wr W55).1) (Keep.of_wr W67).1) E72.1) (Keep.of_wr W75).1) (Keep.of_wr W83).1) (Keep.of_wr W95).1) E100.1) (Keep.of_wr W103).1) (Keep.of_wr W111).1) (Keep.of_wr W123).1) E124.1) (Keep.of_wr W127).1) bo_b128)))).ext E131).other W134 (Ne.symm (Nat.ne_of_lt (Nat.lt_of_lt_of_le (Nat.lt_of_lt_of_le (Nat.lt_of_lt_of_le (Nat.lt_of_lt_of_le (Nat.lt_of_lt_of_le (Nat.lt_of_lt_of_le (Nat.lt_of_lt_of_le (Nat.lt_of_lt_of_le (Nat.lt_of_lt_of_le (Nat.lt_of_lt_of_le (Nat.lt_of_lt_of_le (Nat.lt_of_lt_of_le (Nat.lt_of_lt_of_le (Nat.lt_of_lt_of_le (Nat.lt_of_lt_of_le (Nat.lt_of_lt_of_le (Nat.lt_of_lt_of_le (Nat.lt_of_lt_of_le (Nat.lt_of_lt_of_le (Nat.lt_of_lt_of_le (Nat.lt_of_lt_of_le (Nat.lt_of_lt_of_le (Nat.lt_of_lt_of_le (Nat.lt_of_lt_of_le (Nat.lt_of_lt_of_le PE_ob0.lt E3.1) (Keep.of_wr W4).1) E5.1) (Keep.of_wr W8).1) E9.1) (Keep.of_wr W11).1) E16.1) (Keep.of_wr W19).1) (Keep.of_wr W27).1) (Keep.of_wr W39).1) E44.1) (Keep.of_wr W47).1) (Keep.of_wr W55).1) (Keep.of_wr W67).1) E72.1) (Keep.of_wr W75).1) (Keep.of_wr W83).1) (Keep.of_wr W95).1) E100.1) (Keep.of_wr W103).1) (Keep.of_wr W111).1) (Keep.of_wr W123).1) E124.1) (Keep.of_wr W127).1) bo_b128))))
  have J150 := (((B128.wr W130).ext E131).wr W134)
  have J151 := (((((((((((((((((((((V_b16.other W19 (Ne.symm (Nat.ne_of_lt (Nat.lt_of_lt_of_le (Nat.lt_of_lt_of_le (Nat.lt_of_lt_of_le (Nat.lt_of_lt_of_le (Nat.lt_of_lt_of_le (Nat.lt_of_lt_of_le lb_b3 (Keep.of_wr W4).1) E5.1) (Keep.of_wr W8).1) E9.1) (Keep.of_wr W11).1) bo_b16)))).other W27 (Ne.symm (Nat.ne_of_lt (Nat.lt_of_lt_of_le (Nat.lt_of_lt_of_le (Nat.lt_of_lt_of_le (Nat.lt_of_lt_of_le lb_b5 (Keep.of_wr W8).1) E9.1) (Keep.of_wr W11).1) bo_b16)))).other W39 (Ne.symm (Nat.ne_of_lt (Nat.lt_of_lt_of_le (Nat.lt_of_lt_of_le lb_b9 (Keep.of_wr W11).1) bo_b16)))).ext E44).other W47 (Ne.symm (Nat.ne_of_lt (Nat.lt_of_lt_of_le (Nat.lt_of_lt_of_le (Nat.lt_of_lt_of_le (Nat.lt_of_lt_of_le (Nat.lt_of_lt_of_le (Nat.lt_of_lt_of_le lb_b3 (Keep.of_wr W4).1) E5.1) (Keep.of_wr W8).1) E9.1) (Keep.of_wr W11).1) bo_b16)))).other W55 (Ne.symm (Nat.ne_of_lt (Nat.lt_of_lt_of_le (Nat.lt_of_lt_of_le (Nat.lt_of_lt_of_le (Nat.lt_of_lt_of_le lb_b5 (Keep.of_wr W8).1) E9.1) (Keep.of_wr W11).1) bo_b16)))).other W67 (Ne.symm (Nat.ne_of_lt (Nat.lt_of_lt_of_le (Nat.lt_of_lt_of_le lb_b9 (Keep.of_wr W11).1) bo_b16)))).ext E72).other W75 (Ne.symm (Nat.ne_of_lt (Nat.lt_of_lt_of_le (Nat.lt_of_lt_of_le (Nat.lt_of_lt_of_le (Nat.lt_of_lt_of_le (Nat.lt_of_lt_of_le (Nat.lt_of_lt_of_le lb_b3 (Keep.of_wr W4).1) E5.1) (Keep.of_wr W8).1) E9.1) (Keep.of_wr W11).1) bo_b16)))).other W83 (Ne.symm (Nat.ne_of_lt (Nat.lt_of_lt_of_le (Nat.lt_of_lt_of_le (Nat.lt_of_lt_of_le (Nat.lt_of_lt_of_le lb_b5 (Keep.of_wr W8).1) E9.1) (Keep.of_wr W11).1) bo_b16)))).other W95 (Ne.symm (Nat.ne_of_lt (Nat.lt_of_lt_of_le (Nat.lt_of_lt_of_le lb_b9 (Keep.of_wr W11).1) bo_b16)))).ext E100).other W103 (Ne.symm (Nat.ne_of_lt (Nat.lt_of_lt_of_le (Nat.lt_of_lt_of_le (Nat.lt_of_lt_of_le (Nat.lt_of_lt_of_le (Nat.lt_of_lt_of_le (Nat.lt_of_lt_of_le lb_b3 (Keep.of_wr W4).1) E5.1) (Keep.of_wr W8).1) E9.1) (Keep.of_wr W11).1) bo_b16)))).other W111 (Ne.symm (Nat.ne_of_lt (Nat.lt_of_lt_of_le (Nat.lt_of_lt_of_le (Nat.lt_of_lt_of_le (Nat.lt_of_lt_of_le lb_b5 (Keep.of_wr W8).1) E9.1) (Keep.of_wr W11).1) bo_b16)))).other W123 (Ne.symm (Nat.ne_of_lt (Nat.lt_of_lt_of_le (Nat.lt_of_lt_of_le lb_b9 (Keep.of_wr W11).1) bo_b16)))).ext E124).other W127 (Ne.symm (Nat.ne_of_lt (Nat.lt_of_lt_of_le (Nat.lt_of_lt_of_le (Nat.lt_of_lt_of_le (Nat.lt_of_lt_of_le (Nat.lt_of_lt_of_le (Nat.lt_of_lt_of_le (Nat.lt_of_lt_of_le PE_ob0.lt E3.1) (Keep.of_wr W4).1) E5.1) (Keep.of_wr W8).1) E9.1) (Keep.of_wr W11).1) bo_b16)))).ext E128).other W130 (Ne.symm (Nat.ne_of_lt (Nat.lt_of_lt_of_le (Nat.lt_of_lt_of_le (Nat.lt_of_lt_of_le (Nat.lt_of_lt_of_le (Nat.lt_of_lt_of_le (Nat.lt_of_lt_of_le (Nat.lt_of_lt_of_le PE_ob0.lt E3.1) (Keep.of_wr W4).1) E5.1) (Keep.of_wr W8).1) E9.1) (Keep.of_wr W11).1) bo_b16)))).ext E131).other W134 (Ne.symm (Nat.ne_of_lt (Nat.lt_of_lt_of_le (Nat.lt_of_lt_of_le (Nat.lt_of_lt_of_le (Nat.lt_of_lt_of_le (Nat.lt_of_lt_of_le (Nat.lt_of_lt_of_le (Nat.lt_of_lt_of_le PE_ob0.lt E3.1) (Keep.of_wr W4).1) E5.1) (Keep.of_wr W8).1) E9.1) (Keep.of_wr W11).1) bo_b16))))
  have J152 := (((((((((((((((((((((B16.wr W19).wr W27).wr W39).ext E44).wr W47).wr W55).wr W67).ext E72).wr W75).wr W83).wr W95).ext E100).wr W103).wr W111).wr W123).ext E124).wr W127).ext E128).wr W130).ext E131).wr W134)
  have J153 := (((((((((((((((((V_b44.other W47 (Ne.symm (Nat.ne_of_lt (Nat.lt_of_lt_of_le (Nat.lt_of_lt_of_le (Nat.lt_of_lt_of_le (Nat.lt_of_lt_of_le (Nat.lt_of_lt_of_le (Nat.lt_of_lt_of_le (Nat.lt_of_lt_of_le (Nat.lt_of_lt_of_le (Nat.lt_of_lt_of_le (Nat.lt_of_lt_of_le lb_b3 (Keep.of_wr W4).1) E5.1) (Keep.of_wr W8).1) E9.1) (Keep.of_wr W11).1) E16.1) (Keep.of_wr W19).1) (Keep.of_wr W27).1) (Keep.of_wr W39).1) bo_b44)))).other W55 (Ne.symm (Nat.ne_of_lt (Nat.lt_of_lt_of_le (Nat.lt_of_lt_of_le (Nat.lt_of_lt_of_le (Nat.lt_of_lt_of_le (Nat.lt_of_lt_of_le (Nat.lt_of_lt_of_le (Nat.lt_of_lt_of_le (Nat.lt_of_lt_of_le lb_b5 (Keep.of_wr W8).1) E9.1) (Keep.of_wr W11).1) E16.1) (Keep.of_wr W19).1) (Keep.of_wr W27).1) (Keep.of_wr W39).1) bo_b44)))).other W67 (Ne.symm (Nat.ne_of_lt (Nat.lt_of_lt_of_le (Nat.lt_of_lt_of_le (Nat.lt_of_lt_of_le (Nat.lt_of_lt_of_le (Nat.lt_of_lt_of_le (Nat.lt_of_lt_of_le lb_b9 (Keep.of_wr W11).1) E16.1) (Keep.of_wr W19).1) (Keep.of_wr W27).1) (Keep.of_wr W39).1) bo_b44)))).ext E72).other W75 (Ne.symm (Nat.ne_of_lt (Nat.lt_of_lt_of_le (Nat.lt_of_lt_of_le (Nat.lt_of_lt_of_le (Nat.lt_of_lt_of_le (Nat.lt_of_lt_of_le (Nat.lt_of_lt_of_le (Nat.lt_of_lt_of_le (Nat.lt_of_lt_of_le (Nat.lt_of_lt_of_le (Nat.lt_of_lt_of_le lb_b3 (Keep.of_wr W4).1) E5.1) (Keep.of_wr W8).1) E9.1) (Keep.of_wr W11).1) E16.1) (Keep.of_wr W19).1) (Keep.of_wr W27).1) (Keep.of_wr W39).1) bo_b44)))).other W83 (Ne.symm (Nat.ne_of_lt (Nat.lt_of_lt_of_le (Nat.lt_of_lt_of_le (Nat.lt_of_lt_of_le (Nat.lt_of_lt_of_le (Nat.lt_of_lt_of_le (Nat.lt_of_lt_of_le (Nat.lt_of_lt_of_le (Nat.lt_of_lt_of_le lb_b5 (Keep.of_wr W8).1) E9.1) (Keep.of_wr W11).1) E16.1) (Keep.of_wr W19).1) (Keep.of_wr W27).1) (Keep.of_wr W39).1) bo_b44)))).other W95 (Ne.symm (Nat.ne_of_lt (Nat.lt_of_lt_of_le (Nat.lt_of_lt_of_le (Nat.lt_of_lt_of_le (Nat.lt_of_lt_of_le (Nat.lt_of_lt_of_le (Nat.lt_of_lt_of_le lb_b9 (Keep.of_wr W11).1) E16.1) (Keep.of_wr W19).1) (Keep.of_wr W27).1) (Keep.of_wr W39).1) bo_b44)))).ext E100).other W103 (Ne.symm (Nat.ne_of_lt (Nat.lt_of_lt_of_le (Nat.lt_of_lt_of_le (Nat.lt_of_lt_of_le (Nat.lt_of_lt_of_le (Nat.lt_of_lt_of_le (Nat.lt_of_lt_of_le (Nat.lt_of_lt_of_le (Nat.lt_of_lt_of_le (Nat.lt_of_lt_of_le (Nat.lt_of_lt_of_le lb_b3 (Keep.of_wr W4).1) E5.1) (Keep.of_wr W8).1) E9.1) (Keep.of_wr W11).1) E16.1) (Keep.of_wr W19).1) (Keep.of_wr W27).1) (Keep.of_wr W39).1) bo_b44)))).other W111 (Ne.symm (Nat.ne_of_lt (Nat.lt_of_lt_of_le (Nat.lt_of_lt_of_le (Nat.lt_of_lt_of_le (Nat.lt_of_lt_of_le (Nat.lt_of_lt_of_le (Nat.lt_of_lt_of_le (Nat.lt_of_lt_of_le (Nat.lt_of_lt_of_le lb_b5 (Keep.of_wr W8).1) E9.1) (Keep.of_wr W11).1) E16.1) (Keep.of_wr W19).1) (Keep.of_wr W27).1) (Keep.of_wr W39).1) bo_b44)))).other W123 (Ne.symm (Nat.ne_of_lt (Nat.lt_of_lt_of_le (Nat.lt_of_lt_of_le (Nat.lt_of_lt_of_le (Nat.lt_of_lt_of_le (Nat.lt_of_lt_of_le (Nat.lt_of_lt_of_le lb_b9 (Keep.of_wr W11).1) E16.1) (Keep.of_wr W19).1) (Keep.of_wr W27).1) (Keep.of_wr W39).1) bo_b44)))).ext E124).other W127 (Ne.symm (Nat.ne_of_lt (Nat.lt_of_lt_of_le (Nat.lt_of_lt_of_le (Nat.lt_of_lt_of_le (Nat.lt_of_lt_of_le (Nat.lt_of_lt_of_le (Nat.lt_of_lt_of_le (Nat.lt_of_lt_of_le (Nat.lt_of_lt_of_le (Nat.lt_of_lt_of_le (Nat.lt_of_lt_of_le (Nat.lt_of_lt_of_le PE_ob0.lt E3.1) (Keep.of_wr W4).1) E5.1) (Keep.of_wr W8).1) E9.1) (Keep.of_wr W11).1) E16.1) (Keep.of_wr W19).1) (Keep.of_wr W27).1) (Keep.of_wr W39).1) bo_b44)))).ext E128).other W130 (Ne.symm (Nat.ne_of_lt (Nat.lt_of_lt_of_le (Nat.lt_of_lt_of_le (Nat.lt_of_lt_of_le (Nat.lt_of_lt_of_le (Nat.lt_of_lt_of_le (Nat.lt_of_lt_of_le (Nat.lt_of_lt_of_le (Nat.lt_of_lt_of_le (Nat.lt_of_lt_of_le (Nat.lt_of_lt_of_le (Nat.lt_of_lt_of_le PE_ob0.lt E3.1) (Keep.of_wr W4).1) E5.1) (Keep.of_wr W8).1) E9.1) (Keep.of_wr W11).1) E16.1) (Keep.of_wr W19).1) (Keep.of_wr W27).1) (Keep.of_wr W39).1) bo_b44)))).ext E131).other W134 (Ne.symm (Nat.ne_of_lt (Nat.lt_of_lt_of_le (Nat.lt_of_lt_of_le (Nat.lt_of_lt_of_le (Nat.lt_of_lt_of_le (Nat.lt_of_lt_of_le (Nat.lt_of_lt_of_le (Nat.lt_of_lt_of_le (Nat.lt_of_lt_of_le (Nat.lt_of_lt_of_le (Nat.lt_of_lt_of_le (Nat.lt_of_lt_of_le PE_ob0.lt E3.1) (Keep.of_wr W4).1) E5.1) (Keep.of_wr W8).1) E9.1) (Keep.of_wr W11).1) E16.1) (Keep.of_wr W19).1) (Keep.of_wr W27).1) (Keep.of_wr W39).1) bo_b44))))
  have J154 := (((((((((((((((((B44.wr W47).wr W55).wr W67).ext E72).wr W75).wr W83).wr W95).ext E100).wr W103).wr W111).wr W123).ext E124).wr W127).ext E128).wr W130).ext E131).wr W134)
  have J155 := (((((((((((((V_b72.other W75 (Ne.symm (Nat.ne_of_lt (Nat.lt_of_lt_of_le (Nat.lt_of_lt_of_le (Nat.lt_of_lt_of_le (Nat.lt_of_lt_of_le (Nat.lt_of_lt_of_le (Nat.lt_of_lt_of_le (Nat.lt_of_lt_of_le (Nat.lt_of_lt_of_le (Nat.lt_of_lt_of_le (Nat.lt_of_lt_of_le (Nat.lt_of_lt_of_le (Nat.lt_of_lt_of_le (Nat.lt_of_lt_of_le (Nat.lt_of_lt_of_le lb_b3 (Keep.of_wr W4).1) E5.1) (Keep.of_wr W8).1) E9.1) (Keep.of_wr W11).1) E16.1) (Keep.of_wr W19).1) (Keep.of_wr W27).1) (Keep.of_wr W39).1) E44.1) (Keep.of_wr W47).1) (Keep.of_wr W55).1) (Keep.of_wr W67).1) bo_b72)))).other W83 (Ne.symm (Nat.ne_of_lt (Nat.lt_of_lt_of_le (Nat.lt_of_lt_of_le (Nat.lt_of_lt_of_le (Nat.lt_of_lt_of_le (Nat.lt_of_lt_of_le (Nat.lt_of_lt_of_le (Nat.lt_of_lt_of_le (Nat.lt_of_lt_of_le (Nat.lt_of_lt_of_le (Nat.lt_of_lt_of_le (Nat.lt_of_lt_of_le (Nat.lt_of_lt_of_le lb_b5 (Keep.of_wr W8).1) E9.1) (Keep.of_wr W11).1) E16.1) (Keep.of_wr W19).1) (Keep.of_wr W27).1) (Keep.of_wr W39).1) E44.1) (Keep.of_wr W47).1) (Keep.of_wr W55).1) (Keep.of_wr W67).1) bo_b72)))).other W95 (Ne.symm (Nat.ne_of_lt (Nat.lt_of_lt_of_le (Nat.lt_of_lt_of_le (Nat.lt_of_lt_of_le (Nat.lt_of_lt_of_le (Nat.lt_of_lt_of_le (Nat.lt_of_lt_of_le (Nat.lt_of_lt_of_le (Nat.lt_of_lt_of_le (Nat.lt_of_lt_of_le (Nat.lt_of_lt_of_le lb_b9 (Keep.of_wr W11).1) E16.1) (Keep.of_wr W19).1) (Keep.of_wr W27).1) (Keep.of_wr W39).1) E44.1) (Keep.of_wr W47).1) (Keep.of_wr W55).1) (Keep.of_wr W67).1) bo_b72)))).ext E100).other W103 (Ne.symm (Nat.ne_of_lt (Nat.lt_of_lt_of_le (Nat.lt_of_lt_of_le (Nat.lt_of_lt_of_le (Nat.lt_of_lt_of_le (Nat.lt_of_lt_of_le (Nat.lt_of_lt_of_le (Nat.lt_of_lt_of_le (Nat.lt_of_lt_of_le (Nat.lt_of_lt_of_le (Nat.lt_of_lt_of_le (Nat.lt_of_lt_of_le (Nat.lt_of_lt_of_le (Nat.lt_of_lt_of_le (Nat.lt_of_lt_of_le lb_b3 (Keep.of_wr W4).1) E5.1) (Keep.of_wr W8).1) E9.1) (Keep.of_wr W11).1) E16.1) (Keep.of_wr W19).1) (Keep.of_wr W27).1) (Keep.of_wr W39).1) E44.1) (Keep.of_wr W47).1) (Keep.of_wr W55).1) (Keep.of_wr W67).1) bo_b72)))).other W111 (Ne.symm (Nat.ne_of_lt (Nat.lt_of_lt_of_le (Nat.lt_of_lt_of_le (Nat.lt_of_lt_of_le (Nat.lt_of_lt_of_le (Nat.lt_of_lt_of_le (Nat.lt_of_lt_of_le (Nat.lt_of_lt_of_le (Nat.lt_of_lt_of_le (Nat.lt_of_lt_of_le (Nat.lt_of_lt_of_le (Nat.lt_of_lt_of_le (Nat.lt_of_lt_of_le lb_b5 (Keep.of_wr W8).1) E9.1) (Keep.of_wr W11).1) E16.1) (Keep.of_wr W19).1) (Keep.of_wr W27).1) (Keep.of_wr W39).1) E44.1) (Keep.of_wr W47).1) (Keep.of_wr W55).1) (Keep.of_wr W67).1) bo_b72)))).other W123 (Ne.symm (Nat.ne_of_lt (Nat.lt_of_lt_of_le (Nat.lt_of_lt_of_le (Nat.lt_of_lt_of_le (Nat.lt_of_lt_of_le (Nat.lt_of_lt_of_le (Nat.lt_of_lt_of_le (Nat.lt_of_lt_of_le (Nat.lt_of_lt_of_le (Nat.lt_of_lt_of_le (Nat.lt_of_lt_of_le lb_b9 (Keep.of_wr W11).1) E16.1) (Keep.of_wr W19).1) (Keep.of_wr W27).1) (Keep.of_wr W39).1) E44.1) (Keep.of_wr W47).1) (Keep.of_wr W55).1) (Keep.of_wr W67).1) bo_b72)))).ext E124).other W127 (Ne.symm (Nat.ne_of_lt (Nat.lt_of_lt_of_le (Nat.lt_of_lt_of_le (Nat.lt_of_lt_of_le (Nat.lt_of_lt_of_le (Nat.lt_of_lt_of_le (Nat.lt_of_lt_of_le (Nat.lt_of_lt_of_le (Nat.lt_of_lt_of_le (Nat.lt_of_lt_of_le (Nat.lt_of_lt_of_le (Nat.lt_of_lt_of_le (Nat.lt_of_lt_of_le (Nat.lt_of_lt_of_le (Nat.lt_of_lt_of_le (Nat.lt_of_lt_of_le PE_ob0.lt E3.1) (Keep.of_wr W4).1) E5.1) (Keep.of_wr W8).1) E9.1) (Keep.of_wr W11).1) E16.1) (Keep.of_wr W19).1) (Keep.of_wr W27).1) (Keep.of_wr W39).1) E44.1) (Keep.of_wr W47).1) (Keep.of_wr W55).1) (Keep.of_wr W67).1) bo_b72)))).ext E128).other W130 (Ne.symm (Nat.ne_of_lt (Nat.lt_of_lt_of_le (Nat.lt_of_lt_of_le (Nat.lt_of_lt_of_le (Nat.lt_of_lt_of_le (Nat.lt_of_lt_of_le (Nat.lt_of_lt_of_le (Nat.lt_of_lt_of_le (Nat.lt_of_lt_of_le (Nat.lt_of_lt_of_le (Nat.lt_of_lt_of_le (Nat.lt_of_lt_of_le (Nat.lt_of_lt_of_le (Nat.lt_of_lt_of_le (Nat.lt_of_lt_of_le (Nat.lt_of_lt_of_le PE_ob0.lt E3.1) (Keep.of_wr W4).1) E5.1) (Keep.of_wr W8).1) E9.1) (Keep.of_wr W11).1) E16.1) (Keep.of_wr W19).1) (Keep.of_wr W27).1) (Keep.of_wr W39).1) E44.1) (Keep.of_wr W47).1) (Keep.of_wr W55).1) (Keep.of_wr W67).1) bo_b72)))).ext E131).other W134 (Ne.symm (Nat.ne_of_lt (Nat.lt_of_lt_of_le (Nat.lt_of_lt_of_le (Nat.lt_of_lt_of_le (Nat.lt_of_lt_of_le (Nat.lt_of_lt_of_le (Nat.lt_of_lt_of_le (Nat.lt_of_lt_of_le (Nat.lt_of_lt_of_le (Nat.lt_of_lt_of_le (Nat.lt_of_lt_of_le (Nat.lt_of_lt_of_le (Nat.lt_of_lt_of_le (Nat.lt_of_lt_of_le (Nat.lt_of_lt_of_le (Nat.lt_of_lt_of_le PE_ob0.lt E3.1) (Keep.of_wr W4).1) E5.1) (Keep.of_wr W8).1) E9.1) (Keep.of_wr W11).1) E16.1) (Keep.of_wr W19).1) (Keep.of_wr W27).1) (Keep.of_wr W39).1) E44.1) (Keep.of_wr W47).1) (Keep.of_wr W55).1) (Keep.of_wr W67).1) bo_b72))))
  have J156 := (((((((((((((B72.wr W75).wr W83).wr W95).ext E100).wr W103).wr W111).wr W123).ext E124).wr W127).ext E128).wr W130).ext E131).wr W134)
  have J157 := (((((((((V_b100.other W103 (Ne.symm (Nat.ne_of_lt (Nat.lt_of_lt_of_le (Nat.lt_of_lt_of_le (Nat.lt_of_lt_of_le (Nat.lt_of_lt_of_le (Nat.lt_of_lt_of_le (Nat.lt_of_lt_of_le (Nat.lt_of_lt_of_le (Nat.lt_of_lt_of_le (Nat.lt_of_lt_of_le (Nat.lt_of_lt_of_le (Nat.lt_of_lt_of_le (Nat.lt_of_lt_of_le (Nat.lt_of_lt_of_le (Nat.lt_of_lt_of_le (Nat.lt_of_lt_of_le (Nat.lt_of_lt_of_le (Nat.lt_of_lt_of_le (Nat.lt_of_lt_of_le lb_b3 (Keep.of_wr W4).1) E5.1) (Keep.of_wr W8).1) E9.1) (Keep.of_wr W11).1) E16.1) (Keep.of_wr W19).1) (Keep.of_wr W27).1) (Keep.of_wr W39).1) E44.1) (Keep.of_wr W47).1) (Keep.of_wr W55).1) (Keep.of_wr W67).1) E72.1) (Keep.of_wr W75).1) (Keep.of_wr W83).1) (Keep.of_wr W95).1) bo_b100)))).other W111 (Ne.symm (Nat.ne_of_lt (Nat.lt_of_lt_of_le (Nat.lt_of_lt_of_le (Nat.lt_of_lt_of_le (Nat.lt_of_lt_of_le (Nat.lt_of_lt_of_le (Nat.lt_of_lt_of_le (Nat.lt_of_lt_of_le (Nat.lt_of_lt_of_le (Nat.lt_of_lt_of_le (Nat.lt_of_lt_of_le (Nat.lt_of_lt_of_le (Nat.lt_of_lt_of_le (Nat.lt_of_lt_of_le (Nat.lt_of_lt_of_le (Nat.lt_of_lt_of_le (Nat.lt_of_lt_of_le lb_b5 (Keep.of_wr W8).1) E9.1) (Keep.of_wr W11).1) E16.1) (Keep.of_wr W19).1) (Keep.of_wr W27).1) (Keep.of_wr W39).1) E44.1) (Keep.of_wr W47).1) (Keep.of_wr W55).1) (Keep.of_wr W67).1) E72.1) (Keep.of_wr W75).1) (Keep.of_wr W83).1) (Keep.of_wr W95).1) bo_b100)))).other W123 (Ne.symm (Nat.ne_of_lt (Nat.lt_of_lt_of_le (Nat.lt_of_lt_of_le (Nat.lt_of_lt_of_le (Nat.lt_of_lt_of_le (Nat.lt_of_lt_of_le (Nat.lt_of_lt_of_le (Nat.lt_of_lt_of_le (Nat.lt_of_lt_of_le (Nat.lt_of_lt_of_le (Nat.lt_of_lt_of_le (Nat.lt_of_lt_of_le (Nat.lt_of_lt_of_le (Nat.lt_of_lt_of_le (Nat.lt_of_lt_of_le lb_b9 (Keep.of_wr W11).1) E16.1) (Keep.of_wr W19).1) (Keep.of_wr W27).1) (Keep.of_wr W39).1) E44.1) (Keep.of_wr W47).1) (Keep.of_wr W55).1) (Keep.of_wr W67).1) E72.1) (Keep.of_wr W75).1) (Keep.of_wr W83).1) (Keep.of_wr W95).1) bo_b100)))).ext E124).other W127 (Ne.symm (Nat.ne_of_lt (Nat.lt_of_lt_of_le (Nat.lt_of_lt_of_le (Nat.lt_of_lt_of_le (Nat.lt_of_lt_of_le (Nat.lt_of_lt_of_le (Nat.lt_of_lt_of_le (Nat.lt_of_lt_of_le (Nat.lt_of_lt_of_le (Nat.lt_of_lt_of_le (Nat.lt_of_lt_of_le (Nat.lt_of_lt_of_le (Nat.lt_of_lt_of_le (Nat.lt_of_lt_of_le (Nat.lt_of_lt_of_le (Nat.lt_of_lt_of_le (Nat.lt_of_lt_of_le (Nat.lt_of_lt_of_le (Nat.lt_of_lt_of_le (Nat.lt_of_lt_of_le PE_ob0.lt E3.1) (Keep.of_wr W4).1) E5.1) (Keep.of_wr W8).1) E9.1) (Keep.of_wr W11).1) E16.1) (Keep.of_wr W19).1) (Keep.of_wr W27).1) (Keep.of_wr W39).1) E44.1) (Keep.of_wr W47).1) (Keep.of_wr W55).1) (Keep.of_wr W67).1) E72.1) (Keep.of_wr W75).1) (Keep.of_wr W83).1) (Keep.of_wr W95).1) bo_b100)))).ext E128).other W130 (Ne.symm (Nat.ne_of_lt (Nat.lt_of_lt_of_le (Nat.lt_of_lt_of_le (Nat.lt_of_lt_of_le (Nat.lt_of_lt_of_le (Nat.lt_of_lt_of_le (Nat.lt_of_lt_of_le (Nat.lt_of_lt_of_le (Nat.lt_of_lt_of_le (Nat.lt_of_lt_of_le (Nat.lt_of_lt_of_le (Nat.lt_of_lt_of_le (Nat.lt_of_lt_of_le (Nat.lt_of_lt_of_le (Nat.lt_of_lt_of_le (Nat.lt_of_lt_of_le (Nat.lt_of_lt_of_le (Nat.lt_of_lt_of_le (Nat.lt_of_lt_of_le (Nat.lt_of_lt_of_le PE_ob0.lt E3.1) (Keep.of_wr W4).1) E5.1) (Keep.of_wr W8).1) E9.1) (Keep.of_wr W11).1) E16.1) (Keep.of_wr W19).1) (Keep.of_wr W27).1) (Keep.of_wr W39).1) E44.1) (Keep.of_wr W47).1) (Keep.of_wr W55).1) (Keep.of_wr W67).1) E72.1) (Keep.of_wr W75).1) (Keep.of_wr W83).1) (Keep.of_wr W95).1) bo_b100)))).ext E131).other W134 (Ne.symm (Nat.ne_of_lt (Nat.lt_of_lt_of_le (Nat.lt_of_lt_of_le (Nat.lt_of_lt_of_le (Nat.lt_of_lt_of_le (Nat.lt_of_lt_of_le (Nat.lt_of_lt_of_le (Nat.lt_of_lt_of_le (Nat.lt_of_lt_of_le (Nat.lt_of_lt_of_le (Nat.lt_of_lt_of_le (Nat.lt_of_lt_of_le (Nat.lt_of_lt_of_le (Nat.lt_of_lt_of_le (Nat.lt_of_lt_of_le (Nat.lt_of_lt_of_le (Nat.lt_of_lt_of_le (Nat.lt_of_lt_of_le (Nat.lt_of_lt_of_le (Nat.lt_of_lt_of_le PE_ob0.lt E3.1) (Keep.of_wr W4).1) E5.1) (Keep.of_wr W8).1) E9.1) (Keep.of_wr W11).1) E16.1) (Keep.of_wr W19).1) (Keep.of_wr W27).1) (Keep.of_wr W39).1) E44.1) (Keep.of_wr W47).1) (Keep.of_wr W55).1) (Keep.of_wr W67).1) E72.1) (Keep.of_wr W75).1) (Keep.of_wr W83).1) (Keep.of_wr W95).1) bo_b100))))
  have J158 := (((((((((B100.wr W103).wr W111).wr W123).ext E124).wr W127).ext E128).wr W130).ext E131).wr W134)
  obtain ⟨fs, hr, hrun, hended, hW, hsame⟩ := X134.leave (v := none) (fun _ => rfl)
  refine ⟨_, _, pre0 _ ?_, hrun, hended, _, _, rfl, ?_, ⟨_, rfl⟩, hW, hsame.mono (by decide) (by decide)⟩
  · show Steps p.tables e below (s₁.setTop (mkF m 0 #[.val (.ref ob0), .val (.ref ob1), .unset, .unset, .unset] [])) _
    refine XS.aloadN X0.here hx rfl (hb hby d2_0) rfl rfl ?_
    show Steps p.tables e below (s₁.setTop (mkF m 1 #[.val (.ref ob0), .val (.ref ob1), .unset, .unset, .unset] [(.ref ob0)])) _
    refine st1 _ ?_
    show Steps p.tables e below (T1.setTop (mkF m 4 #[.val (.ref ob0), .val (.ref ob1), .unset, .unset, .unset] [])) _
    refine XS.aloadN X1.here hx rfl (hb hby d2_4) rfl rfl ?_
    show Steps p.tables e below (T1.setTop (mkF m 5 #[.val (.ref ob0), .val (.ref ob1), .unset, .unset, .unset] [(.ref ob1)])) _
    refine X1.arraylength hx (by rw [e1]; exact aA2.1) (State.isArrayOf_alike hZ.alike aA2.2.1) (g := (mkF m 5 #[.val (.ref ob0), .val (.ref ob1), .unset, .unset, .unset] [(.ref ob1)])) rfl rfl (hb hby d2_5) _ ?_
    rw [len_of aS2 aN2]
    show Steps p.tables e below (T1.setTop (mkF m 6 #[.val (.ref ob0), .val (.ref ob1), .unset, .unset, .unset] [(.int (4 : Int32))])) _
    refine XS.istoreN X1.here hx rfl (hb hby d2_6) rfl (l' := #[.val (.ref ob0), .val (.ref ob1), .val (.int (4 : Int32)), .unset, .unset]) rfl ?_
    show Steps p.tables e below (T1.setTop (mkF m 7 #[.val (.ref ob0), .val (.ref ob1), .val (.int (4 : Int32)), .unset, .unset] [])) _
    refine XS.aloadN X1.here hx rfl (hb hby d2_7) rfl rfl ?_
    show Steps p.tables e below (T1.setTop (mkF m 8 #[.val (.ref ob0), .val (.ref ob1), .val (.int (4 : Int32)), .unset, .unset] [(.ref ob0)])) _
    refine XS.iloadN X1.here hx rfl (hb hby d2_8) rfl ?_
    show Steps p.tables e below (T1.setTop (mkF m 9 #[.val (.ref ob0), .val (.ref ob1), .val (.int (4 : Int32)), .unset, .unset] [(.int (4 : Int32)), (.ref ob0)])) _
    refine st3 _ ?_
    show Steps p.tables e below (T3.setTop (mkF m 12 #[.val (.ref ob0), .val (.ref ob1), .val (.int (4 : Int32)), .unset, .unset] [(.ref b3), (.ref ob0)])) _
    refine st4 _ ?_
    show Steps p.tables e below (T4.setTop (mkF m 15 #[.val (.ref ob0), .val (.ref ob1), .val (.int (4 : Int32)), .unset, .unset] [])) _
    refine XS.aloadN X4.here hx rfl (hb hby d2_15) rfl rfl ?_
    show Steps p.tables e below (T4.setTop (mkF m 16 #[.val (.ref ob0), .val (.ref ob1), .val (.int (4 : Int32)), .unset, .unset] [(.ref ob0)])) _
    refine XS.iloadN X4.here hx rfl (hb hby d2_16) rfl ?_
    show Steps p.tables e below (T4.setTop (mkF m 17 #[.val (.ref ob0), .val (.ref ob1), .val (.int (4 : Int32)), .unset, .unset] [(.int (4 : Int32)), (.ref ob0)])) _
    refine st5 _ ?_
    show Steps p.tables e below (T5.setTop (mkF m 19 #[.val (.ref ob0), .val (.ref ob1), .val (.int (4 : Int32)), .unset, .unset] [(.ref b5), (.ref ob0)])) _
    refine st8 _ ?_
    show Steps p.tables e below (T8.setTop (mkF m 22 #[.val (.ref ob0), .val (.ref ob1), .val (.int (4 : Int32)), .unset, .unset] [])) _
    refine XS.aloadN X8.here hx rfl (hb hby d2_22) rfl rfl ?_
    show Steps p.tables e below (T8.setTop (mkF m 23 #[.val (.ref ob0), .val (.ref ob1), .val (.int (4 : Int32)), .unset, .unset] [(.ref ob0)])) _
    refine XS.iloadN X8.here hx rfl (hb hby d2_23) rfl ?_
    show Steps p.tables e below (T8.setTop (mkF m 24 #[.val (.ref ob0), .val (.ref ob1), .val (.int (4 : Int32)), .unset, .unset] [(.int (4 : Int32)), (.ref ob0)])) _
    refine st9 _ ?_
    show Steps p.tables e below (T9.setTop (mkF m 26 #[.val (.ref ob0), .val (.ref ob1), .val (.int (4 : Int32)), .unset, .unset] [(.ref b9), (.ref ob0)])) _
    refine st11 _ ?_
    show Steps p.tables e below (T11.setTop (mkF m 29 #[.val (.ref ob0), .val (.ref ob1), .val (.int (4 : Int32)), .unset, .unset] [])) _
    refine XS.iconst X11.here hx rfl (hb hby d2_29) ?_
    show Steps p.tables e below (T11.setTop (mkF m 30 #[.val (.ref ob0), .val (.ref ob1), .val (.int (4 : Int32)), .unset, .unset] [(.int (0 : Int32))])) _
    refine XS.istoreN X11.here hx rfl (hb hby d2_30) rfl (l' := #[.val (.ref ob0), .val (.ref ob1), .val (.int (4 : Int32)), .val (.int (0 : Int32)), .unset]) rfl ?_
    show Steps p.tables e below (T11.setTop (mkF m 31 #[.val (.ref ob0), .val (.ref ob1), .val (.int (4 : Int32)), .val (.int (0 : Int32)), .unset] [])) _
    refine XS.iconst X11.here hx rfl (hb hby d2_31) ?_
    show Steps p.tables e below (T11.setTop (mkF m 32 #[.val (.ref ob0), .val (.ref ob1), .val (.int (4 : Int32)), .val (.int (0 : Int32)), .unset] [(.int (0 : Int32))])) _
    refine XS.istore X11.here hx rfl (hb hby d2_32) rfl (l' := #[.val (.ref ob0), .val (.ref ob1), .val (.int (4 : Int32)), .val (.int (0 : Int32)), .val (.int (0 : Int32))]) rfl ?_
    show Steps p.tables e below (T11.setTop (mkF m 34 #[.val (.ref ob0), .val (.ref ob1), .val (.int (4 : Int32)), .val (.int (0 : Int32)), .val (.int (0 : Int32))] [])) _
    refine XS.iload X11.here hx rfl (hb hby d2_34) rfl ?_
    show Steps p.tables e below (T11.setTop (mkF m 36 #[.val (.ref ob0), .val (.ref ob1), .val (.int (4 : Int32)), .val (.int (0 : Int32)), .val (.int (0 : Int32))] [(.int (0 : Int32))])) _
    refine XS.iloadN X11.here hx rfl (hb hby d2_36) rfl ?_
    show Steps p.tables e below (T11.setTop (mkF m 37 #[.val (.ref ob0), .val (.ref ob1), .val (.int (4 : Int32)), .val (.int (0 : Int32)), .val (.int (0 : Int32))] [(.int (4 : Int32)), (.int (0 : Int32))])) _
    refine XS.icmpNo X11.here hx rfl (hb hby d2_37) rfl (tlt (by decide : (0 : Int32) < (4 : Int32))).2.1 ?_
    show Steps p.tables e below (T11.setTop (mkF m 40 #[.val (.ref ob0), .val (.ref ob1), .val (.int (4 : Int32)), .val (.int (0 : Int32)), .val (.int (0 : Int32))] [])) _
    refine XS.aloadN X11.here hx rfl (hb hby d2_40) rfl rfl ?_
    show Steps p.tables e below (T11.setTop (mkF m 41 #[.val (.ref ob0), .val (.ref ob1), .val (.int (4 : Int32)), .val (.int (0 : Int32)), .val (.int (0 : Int32))] [(.ref ob0)])) _
    refine st13 _ ?_
    show Steps p.tables e below (T13.setTop (mkF m 44 #[.val (.ref ob0), .val (.ref ob1), .val (.int (4 : Int32)), .val (.int (0 : Int32)), .val (.int (0 : Int32))] [(.ref b3)])) _
    refine XS.iload X13.here hx rfl (hb hby d2_44) rfl ?_
    show Steps p.tables e below (T13.setTop (mkF m 46 #[.val (.ref ob0), .val (.ref ob1), .val (.int (4 : Int32)), .val (.int (0 : Int32)), .val (.int (0 : Int32))] [(.int (0 : Int32)), (.ref b3)])) _
    refine XS.aloadN X13.here hx rfl (hb hby d2_46) rfl rfl ?_
    show Steps p.tables e below (T13.setTop (mkF m 47 #[.val (.ref ob0), .val (.ref ob1), .val (.int (4 : Int32)), .val (.int (0 : Int32)), .val (.int (0 : Int32))] [(.ref ob1), (.int (0 : Int32)), (.ref b3)])) _
    refine XS.iload X13.here hx rfl (hb hby d2_47) rfl ?_
    show Steps p.tables e below (T13.setTop (mkF m 49 #[.val (.ref ob0), .val (.ref ob1), .val (.int (4 : Int32)), .val (.int (0 : Int32)), .val (.int (0 : Int32))] [(.int (0 : Int32)), (.ref ob1), (.int (0 : Int32)), (.ref b3)])) _
    refine X13.iaload hx (j := (0 : Int32)) (v := (.int (2 : Int32))) (by rw [e13]; exact aA14.1) (State.isArrayOf_alike hZ.alike aA14.2.1) aA14.2.2 (inb_of aS14 ⟨by decide, by decide⟩) (aH14.at (inb_of aS14 ⟨by decide, by decide⟩) rfl) (g := (mkF m 49 #[.val (.ref ob0), .val (.ref ob1), .val (.int (4 : Int32)), .val (.int (0 : Int32)), .val (.int (0 : Int32))] [(.int (0 : Int32)), (.ref ob1), (.int (0 : Int32)), (.ref b3)])) rfl rfl (hb hby d2_49) _ ?_
    show Steps p.tables e below (T13.setTop (mkF m 50 #[.val (.ref ob0), .val (.ref ob1), .val (.int (4 : Int32)), .val (.int (0 : Int32)), .val (.int (0 : Int32))] [(.int (2 : Int32)), (.int (0 : Int32)), (.ref b3)])) _
    refine st16 _ ?_
    show Steps p.tables e below (T16.setTop (mkF m 53 #[.val (.ref ob0), .val (.ref ob1), .val (.int (4 : Int32)), .val (.int (0 : Int32)), .val (.int (0 : Int32))] [(.ref b16), (.int (0 : Int32)), (.ref b3)])) _
    refine st19 _ ?_
    show Steps p.tables e below (T19.setTop (mkF m 54 #[.val (.ref ob0), .val (.ref ob1), .val (.int (4 : Int32)), .val (.int (0 : Int32)), .val (.int (0 : Int32))] [])) _
    refine XS.aloadN X19.here hx rfl (hb hby d2_54) rfl rfl ?_
    show Steps p.tables e below (T19.setTop (mkF m 55 #[.val (.ref ob0), .val (.ref ob1), .val (.int (4 : Int32)), .val (.int (0 : Int32)), .val (.int (0 : Int32))] [(.ref ob0)])) _
    refine st21 _ ?_
    show Steps p.tables e below (T21.setTop (mkF m 58 #[.val (.ref ob0), .val (.ref ob1), .val (.int (4 : Int32)), .val (.int (0 : Int32)), .val (.int (0 : Int32))] [(.ref b5)])) _
    refine XS.iload X21.here hx rfl (hb hby d2_58) rfl ?_
    show Steps p.tables e below (T21.setTop (mkF m 60 #[.val (.ref ob0), .val (.ref ob1), .val (.int (4 : Int32)), .val (.int (0 : Int32)), .val (.int (0 : Int32))] [(.int (0 : Int32)), (.ref b5)])) _
    refine XS.aloadN X21.here hx rfl (hb hby d2_60) rfl rfl ?_
    show Steps p.tables e below (T21.setTop (mkF m 61 #[.val (.ref ob0), .val (.ref ob1), .val (.int (4 : Int32)), .val (.int (0 : Int32)), .val (.int (0 : Int32))] [(.ref ob0), (.int (0 : Int32)), (.ref b5)])) _
    refine st22 _ ?_
    show Steps p.tables e below (T22.setTop (mkF m 64 #[.val (.ref ob0), .val (.ref ob1), .val (.int (4 : Int32)), .val (.int (0 : Int32)), .val (.int (0 : Int32))] [(.ref b3), (.int (0 : Int32)), (.ref b5)])) _
    refine XS.iload X22.here hx rfl (hb hby d2_64) rfl ?_
    show Steps p.tables e below (T22.setTop (mkF m 66 #[.val (.ref ob0), .val (.ref ob1), .val (.int (4 : Int32)), .val (.int (0 : Int32)), .val (.int (0 : Int32))] [(.int (0 : Int32)), (.ref b3), (.int (0 : Int32)), (.ref b5)])) _
    refine X22.aaload hx (j := (0 : Int32)) (v := (.ref b16)) (by rw [e22]; exact aA23.1) (State.isArrayOf_alike hZ.alike aA23.2.1) rfl aA23.2.2 (inb_of aS23 ⟨by decide, by decide⟩) (aH23.at (inb_of aS23 ⟨by decide, by decide⟩) rfl) (g := (mkF m 66 #[.val (.ref ob0), .val (.ref ob1), .val (.int (4 : Int32)), .val (.int (0 : Int32)), .val (.int (0 : Int32))] [(.int (0 : Int32)), (.ref b3), (.int (0 : Int32)), (.ref b5)])) rfl rfl (hb hby d2_66) _ ?_
    show Steps p.tables e below (T22.setTop (mkF m 67 #[.val (.ref ob0), .val (.ref ob1), .val (.int (4 : Int32)), .val (.int (0 : Int32)), .val (.int (0 : Int32))] [(.ref b16), (.int (0 : Int32)), (.ref b5)])) _
    refine X22.arraylength hx (by rw [e22]; exact aA24.1) (State.isArrayOf_alike hZ.alike aA24.2.1) (g := (mkF m 67 #[.val (.ref ob0), .val (.ref ob1), .val (.int (4 : Int32)), .val (.int (0 : Int32)), .val (.int (0 : Int32))] [(.ref b16), (.int (0 : Int32)), (.ref b5)])) rfl rfl (hb hby d2_67) _ ?_
    rw [len_of aS24 aN24]
    show Steps p.tables e below (T22.setTop (mkF m 68 #[.val (.ref ob0), .val (.ref ob1), .val (.int (4 : Int32)), .val (.int (0 : Int32)), .val (.int (0 : Int32))] [(.int (2 : Int32)), (.int (0 : Int32)), (.ref b5)])) _
    refine st27 _ ?_
    show Steps p.tables e below (T27.setTop (mkF m 69 #[.val (.ref ob0), .val (.ref ob1), .val (.int (4 : Int32)), .val (.int (0 : Int32)), .val (.int (0 : Int32))] [])) _
    refine XS.iloadN X27.here hx rfl (hb hby d2_69) rfl ?_
    show Steps p.tables e below (T27.setTop (mkF m 70 #[.val (.ref ob0), .val (.ref ob1), .val (.int (4 : Int32)), .val (.int (0 : Int32)), .val (.int (0 : Int32))] [(.int (0 : Int32))])) _
    refine XS.aloadN X27.here hx rfl (hb hby d2_70) rfl rfl ?_
    show Steps p.tables e below (T27.setTop (mkF m 71 #[.val (.ref ob0), .val (.ref ob1), .val (.int (4 : Int32)), .val (.int (0 : Int32)), .val (.int (0 : Int32))] [(.ref ob0), (.int (0 : Int32))])) _
    refine st28 _ ?_
    show Steps p.tables e below (T28.setTop (mkF m 74 #[.val (.ref ob0), .val (.ref ob1), .val (.int (4 : Int32)), .val (.int (0 : Int32)), .val (.int (0 : Int32))] [(.ref b5), (.int (0 : Int32))])) _
    refine XS.iload X28.here hx rfl (hb hby d2_74) rfl ?_
    show Steps p.tables e below (T28.setTop (mkF m 76 #[.val (.ref ob0), .val (.ref ob1), .val (.int (4 : Int32)), .val (.int (0 : Int32)), .val (.int (0 : Int32))] [(.int (0 : Int32)), (.ref b5), (.int (0 : Int32))])) _
    refine X28.iaload hx (j := (0 : Int32)) (v := (.int (2 : Int32))) (by rw [e28]; exact aA29.1) (State.isArrayOf_alike hZ.alike aA29.2.1) aA29.2.2 (inb_of aS29 ⟨by decide, by decide⟩) (aH29.at (inb_of aS29 ⟨by decide, by decide⟩) rfl) (g := (mkF m 76 #[.val (.ref ob0), .val (.ref ob1), .val (.int (4 : Int32)), .val (.int (0 : Int32)), .val (.int (0 : Int32))] [(.int (0 : Int32)), (.ref b5), (.int (0 : Int32))])) rfl rfl (hb hby d2_76) _ ?_
    show Steps p.tables e below (T28.setTop (mkF m 77 #[.val (.ref ob0), .val (.ref ob1), .val (.int (4 : Int32)), .val (.int (0 : Int32)), .val (.int (0 : Int32))] [(.int (2 : Int32)), (.int (0 : Int32))])) _
    refine XS.iadd X28.here hx rfl (hb hby d2_77) rfl ?_
    rw [show ((0 : Int32) + (2 : Int32)) = (2 : Int32) from by decide]
    show Steps p.tables e below (T28.setTop (mkF m 78 #[.val (.ref ob0), .val (.ref ob1), .val (.int (4 : Int32)), .val (.int (0 : Int32)), .val (.int (0 : Int32))] [(.int (2 : Int32))])) _
    refine XS.istoreN X28.here hx rfl (hb hby d2_78) rfl (l' := #[.val (.ref ob0), .val (.ref ob1), .val (.int (4 : Int32)), .val (.int (2 : Int32)), .val (.int (0 : Int32))]) rfl ?_
    show Steps p.tables e below (T28.setTop (mkF m 79 #[.val (.ref ob0), .val (.ref ob1), .val (.int (4 : Int32)), .val (.int (2 : Int32)), .val (.int (0 : Int32))] [])) _
    refine XS.aloadN X28.here hx rfl (hb hby d2_79) rfl rfl ?_
    show Steps p.tables e below (T28.setTop (mkF m 80 #[.val (.ref ob0), .val (.ref ob1), .val (.int (4 : Int32)), .val (.int (2 : Int32)), .val (.int (0 : Int32))] [(.ref ob0)])) _
    refine st30 _ ?_
    show Steps p.tables e below (T30.setTop (mkF m 83 #[.val (.ref ob0), .val (.ref ob1), .val (.int (4 : Int32)), .val (.int (2 : Int32)), .val (.int (0 : Int32))] [(.ref b5)])) _
    refine XS.iload X30.here hx rfl (hb hby d2_83) rfl ?_
    show Steps p.tables e below (T30.setTop (mkF m 85 #[.val (.ref ob0), .val (.ref ob1), .val (.int (4 : Int32)), .val (.int (2 : Int32)), .val (.int (0 : Int32))] [(.int (0 : Int32)), (.ref b5)])) _
    refine X30.iaload hx (j := (0 : Int32)) (v := (.int (2 : Int32))) (by rw [e30]; exact aA31.1) (State.isArrayOf_alike hZ.alike aA31.2.1) aA31.2.2 (inb_of aS31 ⟨by decide, by decide⟩) (aH31.at (inb_of aS31 ⟨by decide, by decide⟩) rfl) (g := (mkF m 85 #[.val (.ref ob0), .val (.ref ob1), .val (.int (4 : Int32)), .val (.int (2 : Int32)), .val (.int (0 : Int32))] [(.int (0 : Int32)), (.ref b5)])) rfl rfl (hb hby d2_85) _ ?_
    show Steps p.tables e below (T30.setTop (mkF m 86 #[.val (.ref ob0), .val (.ref ob1), .val (.int (4 : Int32)), .val (.int (2 : Int32)), .val (.int (0 : Int32))] [(.int (2 : Int32))])) _
    refine XS.bipush X30.here hx rfl (hb hby d2_86) ?_
    show Steps p.tables e below (T30.setTop (mkF m 88 #[.val (.ref ob0), .val (.ref ob1), .val (.int (4 : Int32)), .val (.int (2 : Int32)), .val (.int (0 : Int32))] [(.int (64 : Int32)), (.int (2 : Int32))])) _
    refine XS.icmpNo X30.here hx rfl (hb hby d2_88) rfl (flt (by decide : ¬ ((64 : Int32) < (2 : Int32)))).2.2.1 ?_
    show Steps p.tables e below (T30.setTop (mkF m 91 #[.val (.ref ob0), .val (.ref ob1), .val (.int (4 : Int32)), .val (.int (2 : Int32)), .val (.int (0 : Int32))] [])) _
    refine XS.aloadN X30.here hx rfl (hb hby d2_91) rfl rfl ?_
    show Steps p.tables e below (T30.setTop (mkF m 92 #[.val (.ref ob0), .val (.ref ob1), .val (.int (4 : Int32)), .val (.int (2 : Int32)), .val (.int (0 : Int32))] [(.ref ob0)])) _
    refine st33 _ ?_
    show Steps p.tables e below (T33.setTop (mkF m 95 #[.val (.ref ob0), .val (.ref ob1), .val (.int (4 : Int32)), .val (.int (2 : Int32)), .val (.int (0 : Int32))] [(.ref b9)])) _
    refine XS.iload X33.here hx rfl (hb hby d2_95) rfl ?_
    show Steps p.tables e below (T33.setTop (mkF m 97 #[.val (.ref ob0), .val (.ref ob1), .val (.int (4 : Int32)), .val (.int (2 : Int32)), .val (.int (0 : Int32))] [(.int (0 : Int32)), (.ref b9)])) _
    refine XS.aloadN X33.here hx rfl (hb hby d2_97) rfl rfl ?_
    show Steps p.tables e below (T33.setTop (mkF m 98 #[.val (.ref ob0), .val (.ref ob1), .val (.int (4 : Int32)), .val (.int (2 : Int32)), .val (.int (0 : Int32))] [(.ref ob0), (.int (0 : Int32)), (.ref b9)])) _
    refine st34 _ ?_
    show Steps p.tables e below (T34.setTop (mkF m 101 #[.val (.ref ob0), .val (.ref ob1), .val (.int (4 : Int32)), .val (.int (2 : Int32)), .val (.int (0 : Int32))] [(.ref b5), (.int (0 : Int32)), (.ref b9)])) _
    refine XS.iload X34.here hx rfl (hb hby d2_101) rfl ?_
    show Steps p.tables e below (T34.setTop (mkF m 103 #[.val (.ref ob0), .val (.ref ob1), .val (.int (4 : Int32)), .val (.int (2 : Int32)), .val (.int (0 : Int32))] [(.int (0 : Int32)), (.ref b5), (.int (0 : Int32)), (.ref b9)])) _
    refine X34.iaload hx (j := (0 : Int32)) (v := (.int (2 : Int32))) (by rw [e34]; exact aA35.1) (State.isArrayOf_alike hZ.alike aA35.2.1) aA35.2.2 (inb_of aS35 ⟨by decide, by decide⟩) (aH35.at (inb_of aS35 ⟨by decide, by decide⟩) rfl) (g := (mkF m 103 #[.val (.ref ob0), .val (.ref ob1), .val (.int (4 : Int32)), .val (.int (2 : Int32)), .val (.int (0 : Int32))] [(.int (0 : Int32)), (.ref b5), (.int (0 : Int32)), (.ref b9)])) rfl rfl (hb hby d2_103) _ ?_
    show Steps p.tables e below (T34.setTop (mkF m 104 #[.val (.ref ob0), .val (.ref ob1), .val (.int (4 : Int32)), .val (.int (2 : Int32)), .val (.int (0 : Int32))] [(.int (2 : Int32)), (.int (0 : Int32)), (.ref b9)])) _
    refine st36 _ ?_
    show Steps p.tables e below (T36.setTop (mkF m 107 #[.val (.ref ob0), .val (.ref ob1), .val (.int (4 : Int32)), .val (.int (2 : Int32)), .val (.int (0 : Int32))] [(.long (3 : Int64)), (.int (0 : Int32)), (.ref b9)])) _
    refine st39 _ ?_
    show Steps p.tables e below (T39.setTop (mkF m 108 #[.val (.ref ob0), .val (.ref ob1), .val (.int (4 : Int32)), .val (.int (2 : Int32)), .val (.int (0 : Int32))] [])) _
    refine XS.iinc X39.here hx rfl (hb hby d2_108) rfl (l' := #[.val (.ref ob0), .val (.ref ob1), .val (.int (4 : Int32)), .val (.int (2 : Int32)), .val (.int ((0 : Int32) + (1 : Int32)))]) rfl ?_
    rw [show ((0 : Int32) + (1 : Int32)) = (1 : Int32) from by decide]
    show Steps p.tables e below (T39.setTop (mkF m 111 #[.val (.ref ob0), .val (.ref ob1), .val (.int (4 : Int32)), .val (.int (2 : Int32)), .val (.int (1 : Int32))] [])) _
    refine XS.goto X39.here hx rfl (pc0 := 111) (pc' := 34) rfl (hb hby d2_111) (by decide) (by decide) ?_
    show Steps p.tables e below (T39.setTop (mkF m 34 #[.val (.ref ob0), .val (.ref ob1), .val (.int (4 : Int32)), .val (.int (2 : Int32)), .val (.int (1 : Int32))] [])) _
    refine XS.iload X39.here hx rfl (hb hby d2_34) rfl ?_
    show Steps p.tables e below (T39.setTop (mkF m 36 #[.val (.ref ob0), .val (.ref ob1), .val (.int (4 : Int32)), .val (.int (2 : Int32)), .val (.int (1 : Int32))] [(.int (1 : Int32))])) _
    refine XS.iloadN X39.here hx rfl (hb hby d2_36) rfl ?_
    show Steps p.tables e below (T39.setTop (mkF m 37 #[.val (.ref ob0), .val (.ref ob1), .val (.int (4 : Int32)), .val (.int (2 : Int32)), .val (.int (1 : Int32))] [(.int (4 : Int32)), (.int (1 : Int32))])) _
    refine XS.icmpNo X39.here hx rfl (hb hby d2_37) rfl (tlt (by decide : (1 : Int32) < (4 : Int32))).2.1 ?_
    show Steps p.tables e below (T39.setTop (mkF m 40 #[.val (.ref ob0), .val (.ref ob1), .val (.int (4 : Int32)), .val (.int (2 : Int32)), .val (.int (1 : Int32))] [])) _
    refine XS.aloadN X39.here hx rfl (hb hby d2_40) rfl rfl ?_
    show Steps p.tables e below (T39.setTop (mkF m 41 #[.val (.ref ob0), .val (.ref ob1), .val (.int (4 : Int32)), .val (.int (2 : Int32)), .val (.int (1 : Int32))] [(.ref ob0)])) _
    refine st41 _ ?_
    show Steps p.tables e below (T41.setTop (mkF m 44 #[.val (.ref ob0), .val (.ref ob1), .val (.int (4 : Int32)), .val (.int (2 : Int32)), .val (.int (1 : Int32))] [(.ref b3)])) _
    refine XS.iload X41.here hx rfl (hb hby d2_44) rfl ?_
    show Steps p.tables e below (T41.setTop (mkF m 46 #[.val (.ref ob0), .val (.ref ob1), .val (.int (4 : Int32)), .val (.int (2 : Int32)), .val (.int (1 : Int32))] [(.int (1 : Int32)), (.ref b3)])) _
    refine XS.aloadN X41.here hx rfl (hb hby d2_46) rfl rfl ?_
    show Steps p.tables e below (T41.setTop (mkF m 47 #[.val (.ref ob0), .val (.ref ob1), .val (.int (4 : Int32)), .val (.int (2 : Int32)), .val (.int (1 : Int32))] [(.ref ob1), (.int (1 : Int32)), (.ref b3)])) _
    refine XS.iload X41.here hx rfl (hb hby d2_47) rfl ?_
    show Steps p.tables e below (T41.setTop (mkF m 49 #[.val (.ref ob0), .val (.ref ob1), .val (.int (4 : Int32)), .val (.int (2 : Int32)), .val (.int (1 : Int32))] [(.int (1 : Int32)), (.ref ob1), (.int (1 : Int32)), (.ref b3)])) _
    refine X41.iaload hx (j := (1 : Int32)) (v := (.int (2 : Int32))) (by rw [e41]; exact aA42.1) (State.isArrayOf_alike hZ.alike aA42.2.1) aA42.2.2 (inb_of aS42 ⟨by decide, by decide⟩) (aH42.at (inb_of aS42 ⟨by decide, by decide⟩) rfl) (g := (mkF m 49 #[.val (.ref ob0), .val (.ref ob1), .val (.int (4 : Int32)), .val (.int (2 : Int32)), .val (.int (1 : Int32))] [(.int (1 : Int32)), (.ref ob1), (.int (1 : Int32)), (.ref b3)])) rfl rfl (hb hby d2_49) _ ?_
    show Steps p.tables e below (T41.setTop (mkF m 50 #[.val (.ref ob0), .val (.ref ob1), .val (.int (4 : Int32)), .val (.int (2 : Int32)), .val (.int (1 : Int32))] [(.int (2 : Int32)), (.int (1 : Int32)), (.ref b3)])) _
    refine st44 _ ?_
    show Steps p.tables e below (T44.setTop (mkF m 53 #[.val (.ref ob0), .val (.ref ob1), .val (.int (4 : Int32)), .val (.int (2 : Int32)), .val (.int (1 : Int32))] [(.ref b44), (.int (1 : Int32)), (.ref b3)])) _
    refine st47 _ ?_
    show Steps p.tables e below (T47.setTop (mkF m 54 #[.val (.ref ob0), .val (.ref ob1), .val (.int (4 : Int32)), .val (.int (2 : Int32)), .val (.int (1 : Int32))] [])) _
    refine XS.aloadN X47.here hx rfl (hb hby d2_54) rfl rfl ?_
    show Steps p.tables e below (T47.setTop (mkF m 55 #[.val (.ref ob0), .val (.ref ob1), .val (.int (4 : Int32)), .val (.int (2 : Int32)), .val (.int (1 : Int32))] [(.ref ob0)])) _
    refine st49 _ ?_
    show Steps p.tables e below (T49.setTop (mkF m 58 #[.val (.ref ob0), .val (.ref ob1), .val (.int (4 : Int32)), .val (.int (2 : Int32)), .val (.int (1 : Int32))] [(.ref b5)])) _
    refine XS.iload X49.here hx rfl (hb hby d2_58) rfl ?_
    show Steps p.tables e below (T49.setTop (mkF m 60 #[.val (.ref ob0), .val (.ref ob1), .val (.int (4 : Int32)), .val (.int (2 : Int32)), .val (.int (1 : Int32))] [(.int (1 : Int32)), (.ref b5)])) _
    refine XS.aloadN X49.here hx rfl (hb hby d2_60) rfl rfl ?_
    show Steps p.tables e below (T49.setTop (mkF m 61 #[.val (.ref ob0), .val (.ref ob1), .val (.int (4 : Int32)), .val (.int (2 : Int32)), .val (.int (1 : Int32))] [(.ref ob0), (.int (1 : Int32)), (.ref b5)])) _
    refine st50 _ ?_
    show Steps p.tables e below (T50.setTop (mkF m 64 #[.val (.ref ob0), .val (.ref ob1), .val (.int (4 : Int32)), .val (.int (2 : Int32)), .val (.int (1 : Int32))] [(.ref b3), (.int (1 : Int32)), (.ref b5)])) _
    refine XS.iload X50.here hx rfl (hb hby d2_64) rfl ?_
    show Steps p.tables e below (T50.setTop (mkF m 66 #[.val (.ref ob0), .val (.ref ob1), .val (.int (4 : Int32)), .val (.int (2 : Int32)), .val (.int (1 : Int32))] [(.int (1 : Int32)), (.ref b3), (.int (1 : Int32)), (.ref b5)])) _
    refine X50.aaload hx (j := (1 : Int32)) (v := (.ref b44)) (by rw [e50]; exact aA51.1) (State.isArrayOf_alike hZ.alike aA51.2.1) rfl aA51.2.2 (inb_of aS51 ⟨by decide, by decide⟩) (aH51.at (inb_of aS51 ⟨by decide, by decide⟩) rfl) (g := (mkF m 66 #[.val (.ref ob0), .val (.ref ob1), .val (.int (4 : Int32)), .val (.int (2 : Int32)), .val (.int (1 : Int32))] [(.int (1 : Int32)), (.ref b3), (.int (1 : Int32)), (.ref b5)])) rfl rfl (hb hby d2_66) _ ?_
    show Steps p.tables e below (T50.setTop (mkF m 67 #[.val (.ref ob0), .val (.ref ob1), .val (.int (4 : Int32)), .val (.int (2 : Int32)), .val (.int (1 : Int32))] [(.ref b44), (.int (1 : Int32)), (.ref b5)])) _
    refine X50.arraylength hx (by rw [e50]; exact aA52.1) (State.isArrayOf_alike hZ.alike aA52.2.1) (g := (mkF m 67 #[.val (.ref ob0), .val (.ref ob1), .val (.int (4 : Int32)), .val (.int (2 : Int32)), .val (.int (1 : Int32))] [(.ref b44), (.int (1 : Int32)), (.ref b5)])) rfl rfl (hb hby d2_67) _ ?_
    rw [len_of aS52 aN52]
    show Steps p.tables e below (T50.setTop (mkF m 68 #[.val (.ref ob0), .val (.ref ob1), .val (.int (4 : Int32)), .val (.int (2 : Int32)), .val (.int (1 : Int32))] [(.int (2 : Int32)), (.int (1 : Int32)), (.ref b5)])) _
    refine st55 _ ?_
    show Steps p.tables e below (T55.setTop (mkF m 69 #[.val (.ref ob0), .val (.ref ob1), .val (.int (4 : Int32)), .val (.int (2 : Int32)), .val (.int (1 : Int32))] [])) _
    refine XS.iloadN X55.here hx rfl (hb hby d2_69) rfl ?_
    show Steps p.tables e below (T55.setTop (mkF m 70 #[.val (.ref ob0), .val (.ref ob1), .val (.int (4 : Int32)), .val (.int (2 : Int32)), .val (.int (1 : Int32))] [(.int (2 : Int32))])) _
    refine XS.aloadN X55.here hx rfl (hb hby d2_70) rfl rfl ?_
    show Steps p.tables e below (T55.setTop (mkF m 71 #[.val (.ref ob0), .val (.ref ob1), .val (.int (4 : Int32)), .val (.int (2 : Int32)), .val (.int (1 : Int32))] [(.ref ob0), (.int (2 : Int32))])) _
    refine st56 _ ?_
    show Steps p.tables e below (T56.setTop (mkF m 74 #[.val (.ref ob0), .val (.ref ob1), .val (.int (4 : Int32)), .val (.int (2 : Int32)), .val (.int (1 : Int32))] [(.ref b5), (.int (2 : Int32))])) _
    refine XS.iload X56.here hx rfl (hb hby d2_74) rfl ?_
    show Steps p.tables e below (T56.setTop (mkF m 76 #[.val (.ref ob0), .val (.ref ob1), .val (.int (4 : Int32)), .val (.int (2 : Int32)), .val (.int (1 : Int32))] [(.int (1 : Int32)), (.ref b5), (.int (2 : Int32))])) _
    refine X56.iaload hx (j := (1 : Int32)) (v := (.int (2 : Int32))) (by rw [e56]; exact aA57.1) (State.isArrayOf_alike hZ.alike aA57.2.1) aA57.2.2 (inb_of aS57 ⟨by decide, by decide⟩) (aH57.at (inb_of aS57 ⟨by decide, by decide⟩) rfl) (g := (mkF m 76 #[.val (.ref ob0), .val (.ref ob1), .val (.int (4 : Int32)), .val (.int (2 : Int32)), .val (.int (1 : Int32))] [(.int (1 : Int32)), (.ref b5), (.int (2 : Int32))])) rfl rfl (hb hby d2_76) _ ?_
    show Steps p.tables e below (T56.setTop (mkF m 77 #[.val (.ref ob0), .val (.ref ob1), .val (.int (4 : Int32)), .val (.int (2 : Int32)), .val (.int (1 : Int32))] [(.int (2 : Int32)), (.int (2 : Int32))])) _
    refine XS.iadd X56.here hx rfl (hb hby d2_77) rfl ?_
    rw [show ((2 : Int32) + (2 : Int32)) = (4 : Int32) from by decide]
    show Steps p.tables e below (T56.setTop (mkF m 78 #[.val (.ref ob0), .val (.ref ob1), .val (.int (4 : Int32)), .val (.int (2 : Int32)), .val (.int (1 : Int32))] [(.int (4 : Int32))])) _
    refine XS.istoreN X56.here hx rfl (hb hby d2_78) rfl (l' := #[.val (.ref ob0), .val (.ref ob1), .val (.int (4 : Int32)), .val (.int (4 : Int32)), .val (.int (1 : Int32))]) rfl ?_
    show Steps p.tables e below (T56.setTop (mkF m 79 #[.val (.ref ob0), .val (.ref ob1), .val (.int (4 : Int32)), .val (.int (4 : Int32)), .val (.int (1 : Int32))] [])) _
    refine XS.aloadN X56.here hx rfl (hb hby d2_79) rfl rfl ?_
    show Steps p.tables e below (T56.setTop (mkF m 80 #[.val (.ref ob0), .val (.ref ob1), .val (.int (4 : Int32)), .val (.int (4 : Int32)), .val (.int (1 : Int32))] [(.ref ob0)])) _
    refine st58 _ ?_
    show Steps p.tables e below (T58.setTop (mkF m 83 #[.val (.ref ob0), .val (.ref ob1), .val (.int (4 : Int32)), .val (.int (4 : Int32)), .val (.int (1 : Int32))] [(.ref b5)])) _
    refine XS.iload X58.here hx rfl (hb hby d2_83) rfl ?_
    show Steps p.tables e below (T58.setTop (mkF m 85 #[.val (.ref ob0), .val (.ref ob1), .val (.int (4 : Int32)), .val (.int (4 : Int32)), .val (.int (1 : Int32))] [(.int (1 : Int32)), (.ref b5)])) _
    refine X58.iaload hx (j := (1 : Int32)) (v := (.int (2 : Int32))) (by rw [e58]; exact aA59.1) (State.isArrayOf_alike hZ.alike aA59.2.1) aA59.2.2 (inb_of aS59 ⟨by decide, by decide⟩) (aH59.at (inb_of aS59 ⟨by decide, by decide⟩) rfl) (g := (mkF m 85 #[.val (.ref ob0), .val (.ref ob1), .val (.int (4 : Int32)), .val (.int (4 : Int32)), .val (.int (1 : Int32))] [(.int (1 : Int32)), (.ref b5)])) rfl rfl (hb hby d2_85) _ ?_
    show Steps p.tables e below (T58.setTop (mkF m 86 #[.val (.ref ob0), .val (.ref ob1), .val (.int (4 : Int32)), .val (.int (4 : Int32)), .val (.int (1 : Int32))] [(.int (2 : Int32))])) _
    refine XS.bipush X58.here hx rfl (hb hby d2_86) ?_
    show Steps p.tables e below (T58.setTop (mkF m 88 #[.val (.ref ob0), .val (.ref ob1), .val (.int (4 : Int32)), .val (.int (4 : Int32)), .val (.int (1 : Int32))] [(.int (64 : Int32)), (.int (2 : Int32))])) _
    refine XS.icmpNo X58.here hx rfl (hb hby d2_88) rfl (flt (by decide : ¬ ((64 : Int32) < (2 : Int32)))).2.2.1 ?_
    show Steps p.tables e below (T58.setTop (mkF m 91 #[.val (.ref ob0), .val (.ref ob1), .val (.int (4 : Int32)), .val (.int (4 : Int32)), .val (.int (1 : Int32))] [])) _
    refine XS.aloadN X58.here hx rfl (hb hby d2_91) rfl rfl ?_
    show Steps p.tables e below (T58.setTop (mkF m 92 #[.val (.ref ob0), .val (.ref ob1), .val (.int (4 : Int32)), .val (.int (4 : Int32)), .val (.int (1 : Int32))] [(.ref ob0)])) _
    refine st61 _ ?_
    show Steps p.tables e below (T61.setTop (mkF m 95 #[.val (.ref ob0), .val (.ref ob1), .val (.int (4 : Int32)), .val (.int (4 : Int32)), .val (.int (1 : Int32))] [(.ref b9)])) _
    refine XS.iload X61.here hx rfl (hb hby d2_95) rfl ?_
    show Steps p.tables e below (T61.setTop (mkF m 97 #[.val (.ref ob0), .val (.ref ob1), .val (.int (4 : Int32)), .val (.int (4 : Int32)), .val (.int (1 : Int32))] [(.int (1 : Int32)), (.ref b9)])) _
    refine XS.aloadN X61.here hx rfl (hb hby d2_97) rfl rfl ?_
    show Steps p.tables e below (T61.setTop (mkF m 98 #[.val (.ref ob0), .val (.ref ob1), .val (.int (4 : Int32)), .val (.int (4 : Int32)), .val (.int (1 : Int32))] [(.ref ob0), (.int (1 : Int32)), (.ref b9)])) _
    refine st62 _ ?_
    show Steps p.tables e below (T62.setTop (mkF m 101 #[.val (.ref ob0), .val (.ref ob1), .val (.int (4 : Int32)), .val (.int (4 : Int32)), .val (.int (1 : Int32))] [(.ref b5), (.int (1 : Int32)), (.ref b9)])) _
    refine XS.iload X62.here hx rfl (hb hby d2_101) rfl ?_
    show Steps p.tables e below (T62.setTop (mkF m 103 #[.val (.ref ob0), .val (.ref ob1), .val (.int (4 : Int32)), .val (.int (4 : Int32)), .val (.int (1 : Int32))] [(.int (1 : Int32)), (.ref b5), (.int (1 : Int32)), (.ref b9)])) _
    refine X62.iaload hx (j := (1 : Int32)) (v := (.int (2 : Int32))) (by rw [e62]; exact aA63.1) (State.isArrayOf_alike hZ.alike aA63.2.1) aA63.2.2 (inb_of aS63 ⟨by decide, by decide⟩) (aH63.at (inb_of aS63 ⟨by decide, by decide⟩) rfl) (g := (mkF m 103 #[.val (.ref ob0), .val (.ref ob1), .val (.int (4 : Int32)), .val (.int (4 : Int32)), .val (.int (1 : Int32))] [(.int (1 : Int32)), (.ref b5), (.int (1 : Int32)), (.ref b9)])) rfl rfl (hb hby d2_103) _ ?_
    show Steps p.tables e below (T62.setTop (mkF m 104 #[.val (.ref ob0), .val (.ref ob1), .val (.int (4 : Int32)), .val (.int (4 : Int32)), .val (.int (1 : Int32))] [(.int (2 : Int32)), (.int (1 : Int32)), (.ref b9)])) _
    refine st64 _ ?_
    show Steps p.tables e below (T64.setTop (mkF m 107 #[.val (.ref ob0), .val (.ref ob1), .val (.int (4 : Int32)), .val (.int (4 : Int32)), .val (.int (1 : Int32))] [(.long (3 : Int64)), (.int (1 : Int32)), (.ref b9)])) _
    refine st67 _ ?_
    show Steps p.tables e below (T67.setTop (mkF m 108 #[.val (.ref ob0), .val (.ref ob1), .val (.int (4 : Int32)), .val (.int (4 : Int32)), .val (.int (1 : Int32))] [])) _
    refine XS.iinc X67.here hx rfl (hb hby d2_108) rfl (l' := #[.val (.ref ob0), .val (.ref ob1), .val (.int (4 : Int32)), .val (.int (4 : Int32)), .val (.int ((1 : Int32) + (1 : Int32)))]) rfl ?_
    rw [show ((1 : Int32) + (1 : Int32)) = (2 : Int32) from by decide]
    show Steps p.tables e below (T67.setTop (mkF m 111 #[.val (.ref ob0), .val (.ref ob1), .val (.int (4 : Int32)), .val (.int (4 : Int32)), .val (.int (2 : Int32))] [])) _
    refine XS.goto X67.here hx rfl (pc0 := 111) (pc' := 34) rfl (hb hby d2_111) (by decide) (by decide) ?_
    show Steps p.tables e below (T67.setTop (mkF m 34 #[.val (.ref ob0), .val (.ref ob1), .val (.int (4 : Int32)), .val (.int (4 : Int32)), .val (.int (2 : Int32))] [])) _
    refine XS.iload X67.here hx rfl (hb hby d2_34) rfl ?_
    show Steps p.tables e below (T67.setTop (mkF m 36 #[.val (.ref ob0), .val (.ref ob1), .val (.int (4 : Int32)), .val (.int (4 : Int32)), .val (.int (2 : Int32))] [(.int (2 : Int32))])) _
    refine XS.iloadN X67.here hx rfl (hb hby d2_36) rfl ?_
    show Steps p.tables e below (T67.setTop (mkF m 37 #[.val (.ref ob0), .val (.ref ob1), .val (.int (4 : Int32)), .val (.int (4 : Int32)), .val (.int (2 : Int32))] [(.int (4 : Int32)), (.int (2 : Int32))])) _
    refine XS.icmpNo X67.here hx rfl (hb hby d2_37) rfl (tlt (by decide : (2 : Int32) < (4 : Int32))).2.1 ?_
    show Steps p.tables e below (T67.setTop (mkF m 40 #[.val (.ref ob0), .val (.ref ob1), .val (.int (4 : Int32)), .val (.int (4 : Int32)), .val (.int (2 : Int32))] [])) _
    refine XS.aloadN X67.here hx rfl (hb hby d2_40) rfl rfl ?_
    show Steps p.tables e below (T67.setTop (mkF m 41 #[.val (.ref ob0), .val (.ref ob1), .val (.int (4 : Int32)), .val (.int (4 : Int32)), .val (.int (2 : Int32))] [(.ref ob0)])) _
    refine st69 _ ?_
    show Steps p.tables e below (T69.setTop (mkF m 44 #[.val (.ref ob0), .val (.ref ob1), .val (.int (4 : Int32)), .val (.int (4 : Int32)), .val (.int (2 : Int32))] [(.ref b3)])) _
    refine XS.iload X69.here hx rfl (hb hby d2_44) rfl ?_
    show Steps p.tables e below (T69.setTop (mkF m 46 #[.val (.ref ob0), .val (.ref ob1), .val (.int (4 : Int32)), .val (.int (4 : Int32)), .val (.int (2 : Int32))] [(.int (2 : Int32)), (.ref b3)])) _
    refine XS.aloadN X69.here hx rfl (hb hby d2_46) rfl rfl ?_
    show Steps p.tables e below (T69.setTop (mkF m 47 #[.val (.ref ob0), .val (.ref ob1), .val (.int (4 : Int32)), .val (.int (4 : Int32)), .val (.int (2 : Int32))] [(.ref ob1), (.int (2 : Int32)), (.ref b3)])) _
    refine XS.iload X69.here hx rfl (hb hby d2_47) rfl ?_
    show Steps p.tables e below (T69.setTop (mkF m 49 #[.val (.ref ob0), .val (.ref ob1), .val (.int (4 : Int32)), .val (.int (4 : Int32)), .val (.int (2 : Int32))] [(.int (2 : Int32)), (.ref ob1), (.int (2 : Int32)), (.ref b3)])) _
    refine X69.iaload hx (j := (2 : Int32)) (v := (.int (2 : Int32))) (by rw [e69]; exact aA70.1) (State.isArrayOf_alike hZ.alike aA70.2.1) aA70.2.2 (inb_of aS70 ⟨by decide, by decide⟩) (aH70.at (inb_of aS70 ⟨by decide, by decide⟩) rfl) (g := (mkF m 49 #[.val (.ref ob0), .val (.ref ob1), .val (.int (4 : Int32)), .val (.int (4 : Int32)), .val (.int (2 : Int32))] [(.int (2 : Int32)), (.ref ob1), (.int (2 : Int32)), (.ref b3)])) rfl rfl (hb hby d2_49) _ ?_
    show Steps p.tables e below (T69.setTop (mkF m 50 #[.val (.ref ob0), .val (.ref ob1), .val (.int (4 : Int32)), .val (.int (4 : Int32)), .val (.int (2 : Int32))] [(.int (2 : Int32)), (.int (2 : Int32)), (.ref b3)])) _
    refine st72 _ ?_
    show Steps p.tables e below (T72.setTop (mkF m 53 #[.val (.ref ob0), .val (.ref ob1), .val (.int (4 : Int32)), .val (.int (4 : Int32)), .val (.int (2 : Int32))] [(.ref b72), (.int (2 : Int32)), (.ref b3)])) _
    refine st75 _ ?_
    show Steps p.tables e below (T75.setTop (mkF m 54 #[.val (.ref ob0), .val (.ref ob1), .val (.int (4 : Int32)), .val (.int (4 : Int32)), .val (.int (2 : Int32))] [])) _
    refine XS.aloadN X75.here hx rfl (hb hby d2_54) rfl rfl ?_
    show Steps p.tables e below (T75.setTop (mkF m 55 #[.val (.ref ob0), .val (.ref ob1), .val (.int (4 : Int32)), .val (.int (4 : Int32)), .val (.int (2 : Int32))] [(.ref ob0)])) _
    refine st77 _ ?_
    show Steps p.tables e below (T77.setTop (mkF m 58 #[.val (.ref ob0), .val (.ref ob1), .val (.int (4 : Int32)), .val (.int (4 : Int32)), .val (.int (2 : Int32))] [(.ref b5)])) _
    refine XS.iload X77.here hx rfl (hb hby d2_58) rfl ?_
    show Steps p.tables e below (T77.setTop (mkF m 60 #[.val (.ref ob0), .val (.ref ob1), .val (.int (4 : Int32)), .val (.int (4 : Int32)), .val (.int (2 : Int32))] [(.int (2 : Int32)), (.ref b5)])) _
    refine XS.aloadN X77.here hx rfl (hb hby d2_60) rfl rfl ?_
    show Steps p.tables e below (T77.setTop (mkF m 61 #[.val (.ref ob0), .val (.ref ob1), .val (.int (4 : Int32)), .val (.int (4 : Int32)), .val (.int (2 : Int32))] [(.ref ob0), (.int (2 : Int32)), (.ref b5)])) _
    refine st78 _ ?_
    show Steps p.tables e below (T78.setTop (mkF m 64 #[.val (.ref ob0), .val (.ref ob1), .val (.int (4 : Int32)), .val (.int (4 : Int32)), .val (.int (2 : Int32))] [(.ref b3), (.int (2 : Int32)), (.ref b5)])) _
    refine XS.iload X78.here hx rfl (hb hby d2_64) rfl ?_
    show Steps p.tables e below (T78.setTop (mkF m 66 #[.val (.ref ob0), .val (.ref ob1), .val (.int (4 : Int32)), .val (.int (4 : Int32)), .val (.int (2 : Int32))] [(.int (2 : Int32)), (.ref b3), (.int (2 : Int32)), (.ref b5)])) _
    refine X78.aaload hx (j := (2 : Int32)) (v := (.ref b72)) (by rw [e78]; exact aA79.1) (State.isArrayOf_alike hZ.alike aA79.2.1) rfl aA79.2.2 (inb_of aS79 ⟨by decide, by decide⟩) (aH79.at (inb_of aS79 ⟨by decide, by decide⟩) rfl) (g := (mkF m 66 #[.val (.ref ob0), .val (.ref ob1), .val (.int (4 : Int32)), .val (.int (4 : Int32)), .val (.int (2 : Int32))] [(.int (2 : Int32)), (.ref b3), (.int (2 : Int32)), (.ref b5)])) rfl rfl (hb hby d2_66) _ ?_
    show Steps p.tables e below (T78.setTop (mkF m 67 #[.val (.ref ob0), .val (.ref ob1), .val (.int (4 : Int32)), .val (.int (4 : Int32)), .val (.int (2 : Int32))] [(.ref b72), (.int (2 : Int32)), (.ref b5)])) _
    refine X78.arraylength hx (by rw [e78]; exact aA80.1) (State.isArrayOf_alike hZ.alike aA80.2.1) (g := (mkF m 67 #[.val (.ref ob0), .val (.ref ob1), .val (.int (4 : Int32)), .val (.int (4 : Int32)), .val (.int (2 : Int32))] [(.ref b72), (.int (2 : Int32)), (.ref b5)])) rfl rfl (hb hby d2_67) _ ?_
    rw [len_of aS80 aN80]
    show Steps p.tables e below (T78.setTop (mkF m 68 #[.val (.ref ob0), .val (.ref ob1), .val (.int (4 : Int32)), .val (.int (4 : Int32)), .val (.int (2 : Int32))] [(.int (2 : Int32)), (.int (2 : Int32)), (.ref b5)])) _
    refine st83 _ ?_
    show Steps p.tables e below (T83.setTop (mkF m 69 #[.val (.ref ob0), .val (.ref ob1), .val (.int (4 : Int32)), .val (.int (4 : Int32)), .val (.int (2 : Int32))] [])) _
    refine XS.iloadN X83.here hx rfl (hb hby d2_69) rfl ?_
    show Steps p.tables e below (T83.setTop (mkF m 70 #[.val (.ref ob0), .val (.ref ob1), .val (.int (4 : Int32)), .val (.int (4 : Int32)), .val (.int (2 : Int32))] [(.int (4 : Int32))])) _
    refine XS.aloadN X83.here hx rfl (hb hby d2_70) rfl rfl ?_
    show Steps p.tables e below (T83.setTop (mkF m 71 #[.val (.ref ob0), .val (.ref ob1), .val (.int (4 : Int32)), .val (.int (4 : Int32)), .val (.int (2 : Int32))] [(.ref ob0), (.int (4 : Int32))])) _
    refine st84 _ ?_
    show Steps p.tables e below (T84.setTop (mkF m 74 #[.val (.ref ob0), .val (.ref ob1), .val (.int (4 : Int32)), .val (.int (4 : Int32)), .val (.int (2 : Int32))] [(.ref b5), (.int (4 : Int32))])) _
    refine XS.iload X84.here hx rfl (hb hby d2_74) rfl ?_
    show Steps p.tables e below (T84.setTop (mkF m 76 #[.val (.ref ob0), .val (.ref ob1), .val (.int (4 : Int32)), .val (.int (4 : Int32)), .val (.int (2 : Int32))] [(.int (2 : Int32)), (.ref b5), (.int (4 : Int32))])) _
    refine X84.iaload hx (j := (2 : Int32)) (v := (.int (2 : Int32))) (by rw [e84]; exact aA85.1) (State.isArrayOf_alike hZ.alike aA85.2.1) aA85.2.2 (inb_of aS85 ⟨by decide, by decide⟩) (aH85.at (inb_of aS85 ⟨by decide, by decide⟩) rfl) (g := (mkF m 76 #[.val (.ref ob0), .val (.ref ob1), .val (.int (4 : Int32)), .val (.int (4 : Int32)), .val (.int (2 : Int32))] [(.int (2 : Int32)), (.ref b5), (.int (4 : Int32))])) rfl rfl (hb hby d2_76) _ ?_
    show Steps p.tables e below (T84.setTop (mkF m 77 #[.val (.ref ob0), .val (.ref ob1), .val (.int (4 : Int32)), .val (.int (4 : Int32)), .val (.int (2 : Int32))] [(.int (2 : Int32)), (.int (4 : Int32))])) _
    refine XS.iadd X84.here hx rfl (hb hby d2_77) rfl ?_
    rw [show ((4 : Int32) + (2 : Int32)) = (6 : Int32) from by decide]
    show Steps p.tables e below (T84.setTop (mkF m 78 #[.val (.ref ob0), .val (.ref ob1), .val (.int (4 : Int32)), .val (.int (4 : Int32)), .val (.int (2 : Int32))] [(.int (6 : Int32))])) _
    refine XS.istoreN X84.here hx rfl (hb hby d2_78) rfl (l' := #[.val (.ref ob0), .val (.ref ob1), .val (.int (4 : Int32)), .val (.int (6 : Int32)), .val (.int (2 : Int32))]) rfl ?_
    show Steps p.tables e below (T84.setTop (mkF m 79 #[.val (.ref ob0), .val (.ref ob1), .val (.int (4 : Int32)), .val (.int (6 : Int32)), .val (.int (2 : Int32))] [])) _
    refine XS.aloadN X84.here hx rfl (hb hby d2_79) rfl rfl ?_
    show Steps p.tables e below (T84.setTop (mkF m 80 #[.val (.ref ob0), .val (.ref ob1), .val (.int (4 : Int32)), .val (.int (6 : Int32)), .val (.int (2 : Int32))] [(.ref ob0)])) _
    refine st86 _ ?_
    show Steps p.tables e below (T86.setTop (mkF m 83 #[.val (.ref ob0), .val (.ref ob1), .val (.int (4 : Int32)), .val (.int (6 : Int32)), .val (.int (2 : Int32))] [(.ref b5)])) _
    refine XS.iload X86.here hx rfl (hb hby d2_83) rfl ?_
    show Steps p.tables e below (T86.setTop (mkF m 85 #[.val (.ref ob0), .val (.ref ob1), .val (.int (4 : Int32)), .val (.int (6 : Int32)), .val (.int (2 : Int32))] [(.int (2 : Int32)), (.ref b5)])) _
    refine X86.iaload hx (j := (2 : Int32)) (v := (.int (2 : Int32))) (by rw [e86]; exact aA87.1) (State.isArrayOf_alike hZ.alike aA87.2.1) aA87.2.2 (inb_of aS87 ⟨by decide, by decide⟩) (aH87.at (inb_of aS87 ⟨by decide, by decide⟩) rfl) (g := (mkF m 85 #[.val (.ref ob0), .val (.ref ob1), .val (.int (4 : Int32)), .val (.int (6 : Int32)), .val (.int (2 : Int32))] [(.int (2 : Int32)), (.ref b5)])) rfl rfl (hb hby d2_85) _ ?_
    show Steps p.tables e below (T86.setTop (mkF m 86 #[.val (.ref ob0), .val (.ref ob1), .val (.int (4 : Int32)), .val (.int (6 : Int32)), .val (.int (2 : Int32))] [(.int (2 : Int32))])) _
    refine XS.bipush X86.here hx rfl (hb hby d2_86) ?_
    show Steps p.tables e below (T86.setTop (mkF m 88 #[.val (.ref ob0), .val (.ref ob1), .val (.int (4 : Int32)), .val (.int (6 : Int32)), .val (.int (2 : Int32))] [(.int (64 : Int32)), (.int (2 : Int32))])) _
    refine XS.icmpNo X86.here hx rfl (hb hby d2_88) rfl (flt (by decide : ¬ ((64 : Int32) < (2 : Int32)))).2.2.1 ?_
    show Steps p.tables e below (T86.setTop (mkF m 91 #[.val (.ref ob0), .val (.ref ob1), .val (.int (4 : Int32)), .val (.int (6 : Int32)), .val (.int (2 : Int32))] [])) _
    refine XS.aloadN X86.here hx rfl (hb hby d2_91) rfl rfl ?_
    show Steps p.tables e below (T86.setTop (mkF m 92 #[.val (.ref ob0), .val (.ref ob1), .val (.int (4 : Int32)), .val (.int (6 : Int32)), .val (.int (2 : Int32))] [(.ref ob0)])) _
    refine st89 _ ?_
    show Steps p.tables e below (T89.setTop (mkF m 95 #[.val (.ref ob0), .val (.ref ob1), .val (.int (4 : Int32)), .val (.int (6 : Int32)), .val (.int (2 : Int32))] [(.ref b9)])) _
    refine XS.iload X89.here hx rfl (hb hby d2_95) rfl ?_
    show Steps p.tables e below (T89.setTop (mkF m 97 #[.val (.ref ob0), .val (.ref ob1), .val (.int (4 : Int32)), .val (.int (6 : Int32)), .val (.int (2 : Int32))] [(.int (2 : Int32)), (.ref b9)])) _
    refine XS.aloadN X89.here hx rfl (hb hby d2_97) rfl rfl ?_
    show Steps p.tables e below (T89.setTop (mkF m 98 #[.val (.ref ob0), .val (.ref ob1), .val (.int (4 : Int32)), .val (.int (6 : Int32)), .val (.int (2 : Int32))] [(.ref ob0), (.int (2 : Int32)), (.ref b9)])) _
    refine st90 _ ?_
    show Steps p.tables e below (T90.setTop (mkF m 101 #[.val (.ref ob0), .val (.ref ob1), .val (.int (4 : Int32)), .val (.int (6 : Int32)), .val (.int (2 : Int32))] [(.ref b5), (.int (2 : Int32)), (.ref b9)])) _
    refine XS.iload X90.here hx rfl (hb hby d2_101) rfl ?_
    show Steps p.tables e below (T90.setTop (mkF m 103 #[.val (.ref ob0), .val (.ref ob1), .val (.int (4 : Int32)), .val (.int (6 : Int32)), .val (.int (2 : Int32))] [(.int (2 : Int32)), (.ref b5), (.int (2 : Int32)), (.ref b9)])) _
    refine X90.iaload hx (j := (2 : Int32)) (v := (.int (2 : Int32))) (by rw [e90]; exact aA91.1) (State.isArrayOf_alike hZ.alike aA91.2.1) aA91.2.2 (inb_of aS91 ⟨by decide, by decide⟩) (aH91.at (inb_of aS91 ⟨by decide, by decide⟩) rfl) (g := (mkF m 103 #[.val (.ref ob0), .val (.ref ob1), .val (.int (4 : Int32)), .val (.int (6 : Int32)), .val (.int (2 : Int32))] [(.int (2 : Int32)), (.ref b5), (.int (2 : Int32)), (.ref b9)])) rfl rfl (hb hby d2_103) _ ?_
    show Steps p.tables e below (T90.setTop (mkF m 104 #[.val (.ref ob0), .val (.ref ob1), .val (.int (4 : Int32)), .val (.int (6 : Int32)), .val (.int (2 : Int32))] [(.int (2 : Int32)), (.int (2 : Int32)), (.ref b9)])) _
    refine st92 _ ?_
    show Steps p.tables e below (T92.setTop (mkF m 107 #[.val (.ref ob0), .val (.ref ob1), .val (.int (4 : Int32)), .val (.int (6 : Int32)), .val (.int (2 : Int32))] [(.long (3 : Int64)), (.int (2 : Int32)), (.ref b9)])) _
    refine st95 _ ?_
    show Steps p.tables e below (T95.setTop (mkF m 108 #[.val (.ref ob0), .val (.ref ob1), .val (.int (4 : Int32)), .val (.int (6 : Int32)), .val (.int (2 : Int32))] [])) _
    refine XS.iinc X95.here hx rfl (hb hby d2_108) rfl (l' := #[.val (.ref ob0), .val (.ref ob1), .val (.int (4 : Int32)), .val (.int (6 : Int32)), .val (.int ((2 : Int32) + (1 : Int32)))]) rfl ?_
    rw [show ((2 : Int32) + (1 : Int32)) = (3 : Int32) from by decide]
    show Steps p.tables e below (T95.setTop (mkF m 111 #[.val (.ref ob0), .val (.ref ob1), .val (.int (4 : Int32)), .val (.int (6 : Int32)), .val (.int (3 : Int32))] [])) _
    refine XS.goto X95.here hx rfl (pc0 := 111) (pc' := 34) rfl (hb hby d2_111) (by decide) (by decide) ?_
    show Steps p.tables e below (T95.setTop (mkF m 34 #[.val (.ref ob0), .val (.ref ob1), .val (.int (4 : Int32)), .val (.int (6 : Int32)), .val (.int (3 : Int32))] [])) _
    refine XS.iload X95.here hx rfl (hb hby d2_34) rfl ?_
    show Steps p.tables e below (T95.setTop (mkF m 36 #[.val (.ref ob0), .val (.ref ob1), .val (.int (4 : Int32)), .val (.int (6 : Int32)), .val (.int (3 : Int32))] [(.int (3 : Int32))])) _
    refine XS.iloadN X95.here hx rfl (hb hby d2_36) rfl ?_
    show Steps p.tables e below (T95.setTop (mkF m 37 #[.val (.ref ob0), .val (.ref ob1), .val (.int (4 : Int32)), .val (.int (6 : Int32)), .val (.int (3 : Int32))] [(.int (4 : Int32)), (.int (3 : Int32))])) _
    refine XS.icmpNo X95.here hx rfl (hb hby d2_37) rfl (tlt (by decide : (3 : Int32) < (4 : Int32))).2.1 ?_
    show Steps p.tables e below (T95.setTop (mkF m 40 #[.val (.ref ob0), .val (.ref ob1), .val (.int (4 : Int32)), .val (.int (6 : Int32)), .val (.int (3 : Int32))] [])) _
    refine XS.aloadN X95.here hx rfl (hb hby d2_40) rfl rfl ?_
    show Steps p.tables e below (T95.setTop (mkF m 41 #[.val (.ref ob0), .val (.ref ob1), .val (.int (4 : Int32)), .val (.int (6 : Int32)), .val (.int (3 : Int32))] [(.ref ob0)])) _
    refine st97 _ ?_
    show Steps p.tables e below (T97.setTop (mkF m 44 #[.val (.ref ob0), .val (.ref ob1), .val (.int (4 : Int32)), .val (.int (6 : Int32)), .val (.int (3 : Int32))] [(.ref b3)])) _
    refine XS.iload X97.here hx rfl (hb hby d2_44) rfl ?_
    show Steps p.tables e below (T97.setTop (mkF m 46 #[.val (.ref ob0), .val (.ref ob1), .val (.int (4 : Int32)), .val (.int (6 : Int32)), .val (.int (3 : Int32))] [(.int (3 : Int32)), (.ref b3)])) _
    refine XS.aloadN X97.here hx rfl (hb hby d2_46) rfl rfl ?_
    show Steps p.tables e below (T97.setTop (mkF m 47 #[.val (.ref ob0), .val (.ref ob1), .val (.int (4 : Int32)), .val (.int (6 : Int32)), .val (.int (3 : Int32))] [(.ref ob1), (.int (3 : Int32)), (.ref b3)])) _
    refine XS.iload X97.here hx rfl (hb hby d2_47) rfl ?_
    show Steps p.tables e below (T97.setTop (mkF m 49 #[.val (.ref ob0), .val (.ref ob1), .val (.int (4 : Int32)), .val (.int (6 : Int32)), .val (.int (3 : Int32))] [(.int (3 : Int32)), (.ref ob1), (.int (3 : Int32)), (.ref b3)])) _
    refine X97.iaload hx (j := (3 : Int32)) (v := (.int (2 : Int32))) (by rw [e97]; exact aA98.1) (State.isArrayOf_alike hZ.alike aA98.2.1) aA98.2.2 (inb_of aS98 ⟨by decide, by decide⟩) (aH98.at (inb_of aS98 ⟨by decide, by decide⟩) rfl) (g := (mkF m 49 #[.val (.ref ob0), .val (.ref ob1), .val (.int (4 : Int32)), .val (.int (6 : Int32)), .val (.int (3 : Int32))] [(.int (3 : Int32)), (.ref ob1), (.int (3 : Int32)), (.ref b3)])) rfl rfl (hb hby d2_49) _ ?_
    show Steps p.tables e below (T97.setTop (mkF m 50 #[.val (.ref ob0), .val (.ref ob1), .val (.int (4 : Int32)), .val (.int (6 : Int32)), .val (.int (3 : Int32))] [(.int (2 : Int32)), (.int (3 : Int32)), (.ref b3)])) _
    refine st100 _ ?_
    show Steps p.tables e below (T100.setTop (mkF m 53 #[.val (.ref ob0), .val (.ref ob1), .val (.int (4 : Int32)), .val (.int (6 : Int32)), .val (.int (3 : Int32))] [(.ref b100), (.int (3 : Int32)), (.ref b3)])) _
    refine st103 _ ?_
    show Steps p.tables e below (T103.setTop (mkF m 54 #[.val (.ref ob0), .val (.ref ob1), .val (.int (4 : Int32)), .val (.int (6 : Int32)), .val (.int (3 : Int32))] [])) _
    refine XS.aloadN X103.here hx rfl (hb hby d2_54) rfl rfl ?_
    show Steps p.tables e below (T103.setTop (mkF m 55 #[.val (.ref ob0), .val (.ref ob1), .val (.int (4 : Int32)), .val (.int (6 : Int32)), .val (.int (3 : Int32))] [(.ref ob0)])) _
    refine st105 _ ?_
    show Steps p.tables e below (T105.setTop (mkF m 58 #[.val (.ref ob0), .val (.ref ob1), .val (.int (4 : Int32)), .val (.int (6 : Int32)), .val (.int (3 : Int32))] [(.ref b5)])) _
    refine XS.iload X105.here hx rfl (hb hby d2_58) rfl ?_
    show Steps p.tables e below (T105.setTop (mkF m 60 #[.val (.ref ob0), .val (.ref ob1), .val (.int (4 : Int32)), .val (.int (6 : Int32)), .val (.int (3 : Int32))] [(.int (3 : Int32)), (.ref b5)])) _
    refine XS.aloadN X105.here hx rfl (hb hby d2_60) rfl rfl ?_
    show Steps p.tables e below (T105.setTop (mkF m 61 #[.val (.ref ob0), .val (.ref ob1), .val (.int (4 : Int32)), .val (.int (6 : Int32)), .val (.int (3 : Int32))] [(.ref ob0), (.int (3 : Int32)), (.ref b5)])) _
    refine st106 _ ?_
    show Steps p.tables e below (T106.setTop (mkF m 64 #[.val (.ref ob0), .val (.ref ob1), .val (.int (4 : Int32)), .val (.int (6 : Int32)), .val (.int (3 : Int32))] [(.ref b3), (.int (3 : Int32)), (.ref b5)])) _
    refine XS.iload X106.here hx rfl (hb hby d2_64) rfl ?_
    show Steps p.tables e below (T106.setTop (mkF m 66 #[.val (.ref ob0), .val (.ref ob1), .val (.int (4 : Int32)), .val (.int (6 : Int32)), .val (.int (3 : Int32))] [(.int (3 : Int32)), (.ref b3), (.int (3 : Int32)), (.ref b5)])) _
    refine X106.aaload hx (j := (3 : Int32)) (v := (.ref b100)) (by rw [e106]; exact aA107.1) (State.isArrayOf_alike hZ.alike aA107.2.1) rfl aA107.2.2 (inb_of aS107 ⟨by decide, by decide⟩) (aH107.at (inb_of aS107 ⟨by decide, by decide⟩) rfl) (g := (mkF m 66 #[.val (.ref ob0), .val (.ref ob1), .val (.int (4 : Int32)), .val (.int (6 : Int32)), .val (.int (3 : Int32))] [(.int (3 : Int32)), (.ref b3), (.int (3 : Int32)), (.ref b5)])) rfl rfl (hb hby d2_66) _ ?_
    show Steps p.tables e below (T106.setTop (mkF m 67 #[.val (.ref ob0), .val (.ref ob1), .val (.int (4 : Int32)), .val (.int (6 : Int32)), .val (.int (3 : Int32))] [(.ref b100), (.int (3 : Int32)), (.ref b5)])) _
    refine X106.arraylength hx (by rw [e106]; exact aA108.1) (State.isArrayOf_alike hZ.alike aA108.2.1) (g := (mkF m 67 #[.val (.ref ob0), .val (.ref ob1), .val (.int (4 : Int32)), .val (.int (6 : Int32)), .val (.int (3 : Int32))] [(.ref b100), (.int (3 : Int32)), (.ref b5)])) rfl rfl (hb hby d2_67) _ ?_
    rw [len_of aS108 aN108]
    show Steps p.tables e below (T106.setTop (mkF m 68 #[.val (.ref ob0), .val (.ref ob1), .val (.int (4 : Int32)), .val (.int (6 : Int32)), .val (.int (3 : Int32))] [(.int (2 : Int32)), (.int (3 : Int32)), (.ref b5)])) _
    refine st111 _ ?_
    show Steps p.tables e below (T111.setTop (mkF m 69 #[.val (.ref ob0), .val (.ref ob1), .val (.int (4 : Int32)), .val (.int (6 : Int32)), .val (.int (3 : Int32))] [])) _
    refine XS.iloadN X111.here hx rfl (hb hby d2_69) rfl ?_
    show Steps p.tables e below (T111.setTop (mkF m 70 #[.val (.ref ob0), .val (.ref ob1), .val (.int (4 : Int32)), .val (.int (6 : Int32)), .val (.int (3 : Int32))] [(.int (6 : Int32))])) _
    refine XS.aloadN X111.here hx rfl (hb hby d2_70) rfl rfl ?_
    show Steps p.tables e below (T111.setTop (mkF m 71 #[.val (.ref ob0), .val (.ref ob1), .val (.int (4 : Int32)), .val (.int (6 : Int32)), .val (.int (3 : Int32))] [(.ref ob0), (.int (6 : Int32))])) _
    refine st112 _ ?_
    show Steps p.tables e below (T112.setTop (mkF m 74 #[.val (.ref ob0), .val (.ref ob1), .val (.int (4 : Int32)), .val (.int (6 : Int32)), .val (.int (3 : Int32))] [(.ref b5), (.int (6 : Int32))])) _
    refine XS.iload X112.here hx rfl (hb hby d2_74) rfl ?_
    show Steps p.tables e below (T112.setTop (mkF m 76 #[.val (.ref ob0), .val (.ref ob1), .val (.int (4 : Int32)), .val (.int (6 : Int32)), .val (.int (3 : Int32))] [(.int (3 : Int32)), (.ref b5), (.int (6 : Int32))])) _
    refine X112.iaload hx (j := (3 : Int32)) (v := (.int (2 : Int32))) (by rw [e112]; exact aA113.1) (State.isArrayOf_alike hZ.alike aA113.2.1) aA113.2.2 (inb_of aS113 ⟨by decide, by decide⟩) (aH113.at (inb_of aS113 ⟨by decide, by decide⟩) rfl) (g := (mkF m 76 #[.val (.ref ob0), .val (.ref ob1), .val (.int (4 : Int32)), .val (.int (6 : Int32)), .val (.int (3 : Int32))] [(.int (3 : Int32)), (.ref b5), (.int (6 : Int32))])) rfl rfl (hb hby d2_76) _ ?_
    show Steps p.tables e below (T112.setTop (mkF m 77 #[.val (.ref ob0), .val (.ref ob1), .val (.int (4 : Int32)), .val (.int (6 : Int32)), .val (.int (3 : Int32))] [(.int (2 : Int32)), (.int (6 : Int32))])) _
    refine XS.iadd X112.here hx rfl (hb hby d2_77) rfl ?_
    rw [show ((6 : Int32) + (2 : Int32)) = (8 : Int32) from by decide]
    show Steps p.tables e below (T112.setTop (mkF m 78 #[.val (.ref ob0), .val (.ref ob1), .val (.int (4 : Int32)), .val (.int (6 : Int32)), .val (.int (3 : Int32))] [(.int (8 : Int32))])) _
    refine XS.istoreN X112.here hx rfl (hb hby d2_78) rfl (l' := #[.val (.ref ob0), .val (.ref ob1), .val (.int (4 : Int32)), .val (.int (8 : Int32)), .val (.int (3 : Int32))]) rfl ?_
    show Steps p.tables e below (T112.setTop (mkF m 79 #[.val (.ref ob0), .val (.ref ob1), .val (.int (4 : Int32)), .val (.int (8 : Int32)), .val (.int (3 : Int32))] [])) _
    refine XS.aloadN X112.here hx rfl (hb hby d2_79) rfl rfl ?_
    show Steps p.tables e below (T112.setTop (mkF m 80 #[.val (.ref ob0), .val (.ref ob1), .val (.int (4 : Int32)), .val (.int (8 : Int32)), .val (.int (3 : Int32))] [(.ref ob0)])) _
    refine st114 _ ?_
    show Steps p.tables e below (T114.setTop (mkF m 83 #[.val (.ref ob0), .val (.ref ob1), .val (.int (4 : Int32)), .val (.int (8 : Int32)), .val (.int (3 : Int32))] [(.ref b5)])) _
    refine XS.iload X114.here hx rfl (hb hby d2_83) rfl ?_
    show Steps p.tables e below (T114.setTop (mkF m 85 #[.val (.ref ob0), .val (.ref ob1), .val (.int (4 : Int32)), .val (.int (8 : Int32)), .val (.int (3 : Int32))] [(.int (3 : Int32)), (.ref b5)])) _
    refine X114.iaload hx (j := (3 : Int32)) (v := (.int (2 : Int32))) (by rw [e114]; exact aA115.1) (State.isArrayOf_alike hZ.alike aA115.2.1) aA115.2.2 (inb_of aS115 ⟨by decide, by decide⟩) (aH115.at (inb_of aS115 ⟨by decide, by decide⟩) rfl) (g := (mkF m 85 #[.val (.ref ob0), .val (.ref ob1), .val (.int (4 : Int32)), .val (.int (8 : Int32)), .val (.int (3 : Int32))] [(.int (3 : Int32)), (.ref b5)])) rfl rfl (hb hby d2_85) _ ?_
    show Steps p.tables e below (T114.setTop (mkF m 86 #[.val (.ref ob0), .val (.ref ob1), .val (.int (4 : Int32)), .val (.int (8 : Int32)), .val (.int (3 : Int32))] [(.int (2 : Int32))])) _
    refine XS.bipush X114.here hx rfl (hb hby d2_86) ?_
    show Steps p.tables e below (T114.setTop (mkF m 88 #[.val (.ref ob0), .val (.ref ob1), .val (.int (4 : Int32)), .val (.int (8 : Int32)), .val (.int (3 : Int32))] [(.int (64 : Int32)), (.int (2 : Int32))])) _
    refine XS.icmpNo X114.here hx rfl (hb hby d2_88) rfl (flt (by decide : ¬ ((64 : Int32) < (2 : Int32)))).2.2.1 ?_
    show Steps p.tables e below (T114.setTop (mkF m 91 #[.val (.ref ob0), .val (.ref ob1), .val (.int (4 : Int32)), .val (.int (8 : Int32)), .val (.int (3 : Int32))] [])) _
    refine XS.aloadN X114.here hx rfl (hb hby d2_91) rfl rfl ?_
    show Steps p.tables e below (T114.setTop (mkF m 92 #[.val (.ref ob0), .val (.ref ob1), .val (.int (4 : Int32)), .val (.int (8 : Int32)), .val (.int (3 : Int32))] [(.ref ob0)])) _
    refine st117 _ ?_
    show Steps p.tables e below (T117.setTop (mkF m 95 #[.val (.ref ob0), .val (.ref ob1), .val (.int (4 : Int32)), .val (.int (8 : Int32)), .val (.int (3 : Int32))] [(.ref b9)])) _
    refine XS.iload X117.here hx rfl (hb hby d2_95) rfl ?_
    show Steps p.tables e below (T117.setTop (mkF m 97 #[.val (.ref ob0), .val (.ref ob1), .val (.int (4 : Int32)), .val (.int (8 : Int32)), .val (.int (3 : Int32))] [(.int (3 : Int32)), (.ref b9)])) _
    refine XS.aloadN X117.here hx rfl (hb hby d2_97) rfl rfl ?_
    show Steps p.tables e below (T117.setTop (mkF m 98 #[.val (.ref ob0), .val (.ref ob1), .val (.int (4 : Int32)), .val (.int (8 : Int32)), .val (.int (3 : Int32))] [(.ref ob0), (.int (3 : Int32)), (.ref b9)])) _
    refine st118 _ ?_
    show Steps p.tables e below (T118.setTop (mkF m 101 #[.val (.ref ob0), .val (.ref ob1), .val (.int (4 : Int32)), .val (.int (8 : Int32)), .val (.int (3 : Int32))] [(.ref b5), (.int (3 : Int32)), (.ref b9)])) _
    refine XS.iload X118.here hx rfl (hb hby d2_101) rfl ?_
    show Steps p.tables e below (T118.setTop (mkF m 103 #[.val (.ref ob0), .val (.ref ob1), .val (.int (4 : Int32)), .val (.int (8 : Int32)), .val (.int (3 : Int32))] [(.int (3 : Int32)), (.ref b5), (.int (3 : Int32)), (.ref b9)])) _
    refine X118.iaload hx (j := (3 : Int32)) (v := (.int (2 : Int32))) (by rw [e118]; exact aA119.1) (State.isArrayOf_alike hZ.alike aA119.2.1) aA119.2.2 (inb_of aS119 ⟨by decide, by decide⟩) (aH119.at (inb_of aS119 ⟨by decide, by decide⟩) rfl) (g := (mkF m 103 #[.val (.ref ob0), .val (.ref ob1), .val (.int (4 : Int32)), .val (.int (8 : Int32)), .val (.int (3 : Int32))] [(.int (3 : Int32)), (.ref b5), (.int (3 : Int32)), (.ref b9)])) rfl rfl (hb hby d2_103) _ ?_
    show Steps p.tables e below (T118.setTop (mkF m 104 #[.val (.ref ob0), .val (.ref ob1), .val (.int (4 : Int32)), .val (.int (8 : Int32)), .val (.int (3 : Int32))] [(.int (2 : Int32)), (.int (3 : Int32)), (.ref b9)])) _
    refine st120 _ ?_
    show Steps p.tables e below (T120.setTop (mkF m 107 #[.val (.ref ob0), .val (.ref ob1), .val (.int (4 : Int32)), .val (.int (8 : Int32)), .val (.int (3 : Int32))] [(.long (3 : Int64)), (.int (3 : Int32)), (.ref b9)])) _
    refine st123 _ ?_
    show Steps p.tables e below (T123.setTop (mkF m 108 #[.val (.ref ob0), .val (.ref ob1), .val (.int (4 : Int32)), .val (.int (8 : Int32)), .val (.int (3 : Int32))] [])) _
    refine XS.iinc X123.here hx rfl (hb hby d2_108) rfl (l' := #[.val (.ref ob0), .val (.ref ob1), .val (.int (4 : Int32)), .val (.int (8 : Int32)), .val (.int ((3 : Int32) + (1 : Int32)))]) rfl ?_
    rw [show ((3 : Int32) + (1 : Int32)) = (4 : Int32) from by decide]
    show Steps p.tables e below (T123.setTop (mkF m 111 #[.val (.ref ob0), .val (.ref ob1), .val (.int (4 : Int32)), .val (.int (8 : Int32)), .val (.int (4 : Int32))] [])) _
    refine XS.goto X123.here hx rfl (pc0 := 111) (pc' := 34) rfl (hb hby d2_111) (by decide) (by decide) ?_
    show Steps p.tables e below (T123.setTop (mkF m 34 #[.val (.ref ob0), .val (.ref ob1), .val (.int (4 : Int32)), .val (.int (8 : Int32)), .val (.int (4 : Int32))] [])) _
    refine XS.iload X123.here hx rfl (hb hby d2_34) rfl ?_
    show Steps p.tables e below (T123.setTop (mkF m 36 #[.val (.ref ob0), .val (.ref ob1), .val (.int (4 : Int32)), .val (.int (8 : Int32)), .val (.int (4 : Int32))] [(.int (4 : Int32))])) _
    refine XS.iloadN X123.here hx rfl (hb hby d2_36) rfl ?_
    show Steps p.tables e below (T123.setTop (mkF m 37 #[.val (.ref ob0), .val (.ref ob1), .val (.int (4 : Int32)), .val (.int (8 : Int32)), .val (.int (4 : Int32))] [(.int (4 : Int32)), (.int (4 : Int32))])) _
    refine XS.icmpYes X123.here hx rfl (pc0 := 37) (pc' := 114) rfl (hb hby d2_37) rfl (flt (by decide : ¬ ((4 : Int32) < (4 : Int32)))).2.1 (by decide) (by decide) ?_
    show Steps p.tables e below (T123.setTop (mkF m 114 #[.val (.ref ob0), .val (.ref ob1), .val (.int (4 : Int32)), .val (.int (8 : Int32)), .val (.int (4 : Int32))] [])) _
    refine XS.aloadN X123.here hx rfl (hb hby d2_114) rfl rfl ?_
    show Steps p.tables e below (T123.setTop (mkF m 115 #[.val (.ref ob0), .val (.ref ob1), .val (.int (4 : Int32)), .val (.int (8 : Int32)), .val (.int (4 : Int32))] [(.ref ob0)])) _
    refine XS.iconst X123.here hx rfl (hb hby d2_115) ?_
    show Steps p.tables e below (T123.setTop (mkF m 116 #[.val (.ref ob0), .val (.ref ob1), .val (.int (4 : Int32)), .val (.int (8 : Int32)), .val (.int (4 : Int32))] [(.int (2 : Int32)), (.ref ob0)])) _
    refine XS.iloadN X123.here hx rfl (hb hby d2_116) rfl ?_
    show Steps p.tables e below (T123.setTop (mkF m 117 #[.val (.ref ob0), .val (.ref ob1), .val (.int (4 : Int32)), .val (.int (8 : Int32)), .val (.int (4 : Int32))] [(.int (8 : Int32)), (.int (2 : Int32)), (.ref ob0)])) _
    refine XS.imul X123.here hx rfl (hb hby d2_117) rfl ?_
    rw [show ((2 : Int32) * (8 : Int32)) = (16 : Int32) from by decide]
    show Steps p.tables e below (T123.setTop (mkF m 118 #[.val (.ref ob0), .val (.ref ob1), .val (.int (4 : Int32)), .val (.int (8 : Int32)), .val (.int (4 : Int32))] [(.int (16 : Int32)), (.ref ob0)])) _
    refine st124 _ ?_
    show Steps p.tables e below (T124.setTop (mkF m 120 #[.val (.ref ob0), .val (.ref ob1), .val (.int (4 : Int32)), .val (.int (8 : Int32)), .val (.int (4 : Int32))] [(.ref b124), (.ref ob0)])) _
    refine st127 _ ?_
    show Steps p.tables e below (T127.setTop (mkF m 123 #[.val (.ref ob0), .val (.ref ob1), .val (.int (4 : Int32)), .val (.int (8 : Int32)), .val (.int (4 : Int32))] [])) _
    refine XS.aloadN X127.here hx rfl (hb hby d2_123) rfl rfl ?_
    show Steps p.tables e below (T127.setTop (mkF m 124 #[.val (.ref ob0), .val (.ref ob1), .val (.int (4 : Int32)), .val (.int (8 : Int32)), .val (.int (4 : Int32))] [(.ref ob0)])) _
    refine XS.iloadN X127.here hx rfl (hb hby d2_124) rfl ?_
    show Steps p.tables e below (T127.setTop (mkF m 125 #[.val (.ref ob0), .val (.ref ob1), .val (.int (4 : Int32)), .val (.int (8 : Int32)), .val (.int (4 : Int32))] [(.int (4 : Int32)), (.ref ob0)])) _
    refine st128 _ ?_
    show Steps p.tables e below (T128.setTop (mkF m 127 #[.val (.ref ob0), .val (.ref ob1), .val (.int (4 : Int32)), .val (.int (8 : Int32)), .val (.int (4 : Int32))] [(.ref b128), (.ref ob0)])) _
    refine st130 _ ?_
    show Steps p.tables e below (T130.setTop (mkF m 130 #[.val (.ref ob0), .val (.ref ob1), .val (.int (4 : Int32)), .val (.int (8 : Int32)), .val (.int (4 : Int32))] [])) _
    refine XS.aloadN X130.here hx rfl (hb hby d2_130) rfl rfl ?_
    show Steps p.tables e below (T130.setTop (mkF m 131 #[.val (.ref ob0), .val (.ref ob1), .val (.int (4 : Int32)), .val (.int (8 : Int32)), .val (.int (4 : Int32))] [(.ref ob0)])) _
    refine XS.iloadN X130.here hx rfl (hb hby d2_131) rfl ?_
    show Steps p.tables e below (T130.setTop (mkF m 132 #[.val (.ref ob0), .val (.ref ob1), .val (.int (4 : Int32)), .val (.int (8 : Int32)), .val (.int (4 : Int32))] [(.int (4 : Int32)), (.ref ob0)])) _
    refine st131 _ ?_
    show Steps p.tables e below (T131.setTop (mkF m 134 #[.val (.ref ob0), .val (.ref ob1), .val (.int (4 : Int32)), .val (.int (8 : Int32)), .val (.int (4 : Int32))] [(.ref b131), (.ref ob0)])) _
    refine st134 _ ?_
    show Steps p.tables e below (T134.setTop (mkF m 137 #[.val (.ref ob0), .val (.ref ob1), .val (.int (4 : Int32)), .val (.int (8 : Int32)), .val (.int (4 : Int32))] [])) _
    exact X134.returnOut hx Bd.returns (hb hby d2_137) hr
  · have eH : (T134.setFrames fs).heap = h134 := e134; rw [eH]; exact ⟨b3, b5, b9, b16, b44, b72, b100, b124, b128, b131, k3, k5, k9, k124, k128, k131, k16, k44, k72, k100, rfl, N134, KK134, O134, sz_b3, sz_b5, sz_b9, sz_b16, sz_b44, sz_b72, sz_b100, sz_b124, sz_b128, sz_b131, (Nat.lt_of_lt_of_le (Nat.lt_of_lt_of_le lb_b3 (Keep.of_wr W4).1) bo_b5), (Nat.lt_of_lt_of_le (Nat.lt_of_lt_of_le lb_b5 (Keep.of_wr W8).1) bo_b9), (Nat.lt_of_lt_of_le (Nat.lt_of_lt_of_le lb_b9 (Keep.of_wr W11).1) bo_b16), (Nat.lt_of_lt_of_le (Nat.lt_of_lt_of_le (Nat.lt_of_lt_of_le (Nat.lt_of_lt_of_le lb_b16 (Keep.of_wr W19).1) (Keep.of_wr W27).1) (Keep.of_wr W39).1) bo_b44), (Nat.lt_of_lt_of_le (Nat.lt_of_lt_of_le (Nat.lt_of_lt_of_le (Nat.lt_of_lt_of_le lb_b44 (Keep.of_wr W47).1) (Keep.of_wr W55).1) (Keep.of_wr W67).1) bo_b72), (Nat.lt_of_lt_of_le (Nat.lt_of_lt_of_le (Nat.lt_of_lt_of_le (Nat.lt_of_lt_of_le lb_b72 (Keep.of_wr W75).1) (Keep.of_wr W83).1) (Keep.of_wr W95).1) bo_b100), (Nat.lt_of_lt_of_le (Nat.lt_of_lt_of_le (Nat.lt_of_lt_of_le (Nat.lt_of_lt_of_le lb_b100 (Keep.of_wr W103).1) (Keep.of_wr W111).1) (Keep.of_wr W123).1) bo_b124), (Nat.lt_of_lt_of_le (Nat.lt_of_lt_of_le lb_b124 (Keep.of_wr W127).1) bo_b128), (Nat.lt_of_lt_of_le (Nat.lt_of_lt_of_le lb_b128 (Keep.of_wr W130).1) bo_b131), (J133.wr W134), J135, J136, J137, J138, ((Fw130.ext E131).other W134 (Or.inr (slot_ne (Or.inr (hw _ (List.mem_of_getElem? (i := 32) rfl))) (Or.inr (hw _ (List.mem_of_getElem? (i := 35) rfl))) (by decide) (t := (.array .int)) (t' := (.array .boolean)) (by decide) (by decide)))), Fw134, J139, J140, J141, J142, OV3, J143, J144, J145, J146, J147, J148, J149, J150, (V_b131.other W134 (Ne.symm (Nat.ne_of_lt (Nat.lt_of_lt_of_le (Nat.lt_of_lt_of_le (Nat.lt_of_lt_of_le (Nat.lt_of_lt_of_le (Nat.lt_of_lt_of_le (Nat.lt_of_lt_of_le (Nat.lt_of_lt_of_le (Nat.lt_of_lt_of_le (Nat.lt_of_lt_of_le (Nat.lt_of_lt_of_le (Nat.lt_of_lt_of_le (Nat.lt_of_lt_of_le (Nat.lt_of_lt_of_le (Nat.lt_of_lt_of_le (Nat.lt_of_lt_of_le (Nat.lt_of_lt_of_le (Nat.lt_of_lt_of_le (Nat.lt_of_lt_of_le (Nat.lt_of_lt_of_le (Nat.lt_of_lt_of_le (Nat.lt_of_lt_of_le (Nat.lt_of_lt_of_le (Nat.lt_of_lt_of_le (Nat.lt_of_lt_of_le (Nat.lt_of_lt_of_le (Nat.lt_of_lt_of_le (Nat.lt_of_lt_of_le PE_ob0.lt E3.1) (Keep.of_wr W4).1) E5.1) (Keep.of_wr W8).1) E9.1) (Keep.of_wr W11).1) E16.1) (Keep.of_wr W19).1) (Keep.of_wr W27).1) (Keep.of_wr W39).1) E44.1) (Keep.of_wr W47).1) (Keep.of_wr W55).1) (Keep.of_wr W67).1) E72.1) (Keep.of_wr W75).1) (Keep.of_wr W83).1) (Keep.of_wr W95).1) E100.1) (Keep.of_wr W103).1) (Keep.of_wr W111).1) (Keep.of_wr W123).1) E124.1) (Keep.of_wr W127).1) E128.1) (Keep.of_wr W130).1) bo_b131)))), (B131.wr W134), J151, J152, OV16, J153, J154, OV44, J155, J156, OV72, J157, J158, OV100, trivial⟩
theorem d5_0 : decode prog_59_method_10_code 0 = .ok (.aload_n 0, 1) := by decide +kernel
theorem d5_1 : decode prog_59_method_10_code 1 = .ok (.getfield 11, 3) := by decide +kernel
theorem d5_4 : decode prog_59_method_10_code 4 = .ok (.iload_n 1, 1) := by decide +kernel
theorem d5_5 : decode prog_59_method_10_code 5 = .ok (.aaload, 1) := by decide +kernel
theorem d5_6 : decode prog_59_method_10_code 6 = .ok (.iload_n 2, 1) := by decide +kernel
theorem d5_7 : decode prog_59_method_10_code 7 = .ok (.aload_n 3, 1) := by decide +kernel
theorem d5_8 : decode prog_59_method_10_code 8 = .ok (.aastore, 1) := by decide +kernel
theorem d5_9 : decode prog_59_method_10_code 9 = .ok (.aload_n 0, 1) := by decide +kernel
theorem d5_10 : decode prog_59_method_10_code 10 = .ok (.getfield 17, 3) := by decide +kernel
theorem d5_13 : decode prog_59_method_10_code 13 = .ok (.iload_n 1, 1) := by decide +kernel
theorem d5_14 : decode prog_59_method_10_code 14 = .ok (.dup2, 1) := by decide +kernel
theorem d5_15 : decode prog_59_method_10_code 15 = .ok (.iaload, 1) := by decide +kernel
theorem d5_16 : decode prog_59_method_10_code 16 = .ok (.iconst 1, 1) := by decide +kernel
theorem d5_17 : decode prog_59_method_10_code 17 = .ok (.isub, 1) := by decide +kernel
theorem d5_18 : decode prog_59_method_10_code 18 = .ok (.iastore, 1) := by decide +kernel
theorem d5_19 : decode prog_59_method_10_code 19 = .ok (.aload_n 0, 1) := by decide +kernel
theorem d5_20 : decode prog_59_method_10_code 20 = .ok (.getfield 21, 3) := by decide +kernel
theorem d5_23 : decode prog_59_method_10_code 23 = .ok (.iload_n 1, 1) := by decide +kernel
theorem d5_24 : decode prog_59_method_10_code 24 = .ok (.dup2, 1) := by decide +kernel
theorem d5_25 : decode prog_59_method_10_code 25 = .ok (.laload, 1) := by decide +kernel
theorem d5_26 : decode prog_59_method_10_code 26 = .ok (.lconst 1, 1) := by decide +kernel
theorem d5_27 : decode prog_59_method_10_code 27 = .ok (.iload_n 2, 1) := by decide +kernel
theorem d5_28 : decode prog_59_method_10_code 28 = .ok (.lshl, 1) := by decide +kernel
theorem d5_29 : decode prog_59_method_10_code 29 = .ok (.ldc2_w 40, 3) := by decide +kernel
theorem d5_32 : decode prog_59_method_10_code 32 = .ok (.lxor, 1) := by decide +kernel
theorem d5_33 : decode prog_59_method_10_code 33 = .ok (.land, 1) := by decide +kernel
theorem d5_34 : decode prog_59_method_10_code 34 = .ok (.lastore, 1) := by decide +kernel
theorem d5_35 : decode prog_59_method_10_code 35 = .ok (.aload_n 0, 1) := by decide +kernel
theorem d5_36 : decode prog_59_method_10_code 36 = .ok (.getfield 30, 3) := by decide +kernel
theorem d5_39 : decode prog_59_method_10_code 39 = .ok (.aload_n 0, 1) := by decide +kernel
theorem d5_40 : decode prog_59_method_10_code 40 = .ok (.getfield 44, 3) := by decide +kernel
theorem d5_43 : decode prog_59_method_10_code 43 = .ok (.iload_n 1, 1) := by decide +kernel
theorem d5_44 : decode prog_59_method_10_code 44 = .ok (.iastore, 1) := by decide +kernel
theorem d5_45 : decode prog_59_method_10_code 45 = .ok (.aload_n 0, 1) := by decide +kernel
theorem d5_46 : decode prog_59_method_10_code 46 = .ok (.getfield 30, 3) := by decide +kernel
theorem d5_49 : decode prog_59_method_10_code 49 = .ok (.aload_n 0, 1) := by decide +kernel
theorem d5_50 : decode prog_59_method_10_code 50 = .ok (.getfield 44, 3) := by decide +kernel
theorem d5_53 : decode prog_59_method_10_code 53 = .ok (.iconst 1, 1) := by decide +kernel
theorem d5_54 : decode prog_59_method_10_code 54 = .ok (.iadd, 1) := by decide +kernel
theorem d5_55 : decode prog_59_method_10_code 55 = .ok (.iload_n 2, 1) := by decide +kernel
theorem d5_56 : decode prog_59_method_10_code 56 = .ok (.iastore, 1) := by decide +kernel
theorem d5_57 : decode prog_59_method_10_code 57 = .ok (.aload_n 0, 1) := by decide +kernel
theorem d5_58 : decode prog_59_method_10_code 58 = .ok (.dup, 1) := by decide +kernel
theorem d5_59 : decode prog_59_method_10_code 59 = .ok (.getfield 44, 3) := by decide +kernel
theorem d5_62 : decode prog_59_method_10_code 62 = .ok (.iconst 2, 1) := by decide +kernel
theorem d5_63 : decode prog_59_method_10_code 63 = .ok (.iadd, 1) := by decide +kernel
theorem d5_64 : decode prog_59_method_10_code 64 = .ok (.putfield 44, 3) := by decide +kernel
theorem d5_67 : decode prog_59_method_10_code 67 = .ok (.return_, 1) := by decide +kernel
theorem ef144 (m : MethodId) (x0 : Addr) (x1 : Int32) (x2 : Int32) (x3 : Addr) : entryFrame m #[(.ref x0), (.int x1), (.int x2), (.ref x3)] 4 = mkF m 0 #[.val (.ref x0), .val (.int x1), .val (.int x2), .val (.ref x3)] [] := by first | (simp [entryFrame, mkF, argsToLocals, Value.category]; done) | rfl
def Q5_2 (Z : State) (ob0 : Addr) (q0 : Int32) (q1 : Int32) (y : Addr) (R : Addr) (Lf : Addr) (Lm : Addr) (Tr : Addr) (ts : Int32) (Ga : Addr) (Mk : Addr) (gc : Int32) (k_R : ClassId) (N : Nat) (fR : Nat → Value) (x : Addr) (k_x : ClassId) (K : Nat) (fx : Nat → Value) (k_Lf : ClassId) (fL : Nat → Value) (k_Lm : ClassId) (fM : Nat → Value) (k_Tr : ClassId) (nT : Nat) (fT : Nat → Value) (w15 : Int32) (w25 : Int64) (h0 : Heap) (n0 : Nat) (v : Option Value) (h : Heap) (L : List Loc) : Prop := v = none ∧ Fr n0 L ∧ Keep h0 h [x, Lf, Lm, Tr, ob0] ∧ Old Z n0 h ∧ Ars Z h x k_x (.array .int) K (own_upd fx (q1).toNatClampNeg (.ref y)) ∧ Ars Z h Lf k_Lf .int N (own_upd fL (q0).toNatClampNeg (.int (w15 - (1 : Int32)))) ∧ Ars Z h Lm k_Lm .long N (own_upd fM (q0).toNatClampNeg (.long (w25 &&& (((1 : Int64) <<< (q1 &&& 0x3f).toInt64) ^^^ (-1 : Int64))))) ∧ Ars Z h Tr k_Tr .int nT (own_upd (own_upd fT (ts).toNatClampNeg (.int q0)) ((ts + (1 : Int32))).toNatClampNeg (.int q1)) ∧ Exa Z h ob0 "com/example/caprice/caprice/solver/Domains" ∧ Fld Z h ob0 "com/example/caprice/caprice/solver/Domains" "reasons" "[[[I" (.ref R) ∧ Fld Z h ob0 "com/example/caprice/caprice/solver/Domains" "left" "[I" (.ref Lf) ∧ Fld Z h ob0 "com/example/caprice/caprice/solver/Domains" "leftMasks" "[J" (.ref Lm) ∧ Fld Z h ob0 "com/example/caprice/caprice/solver/Domains" "trail" "[I" (.ref Tr) ∧ Fld Z h ob0 "com/example/caprice/caprice/solver/Domains" "trailSize" "I" (.int (ts + (2 : Int32))) ∧ Fld Z h ob0 "com/example/caprice/caprice/solver/Domains" "gathered" "[I" (.ref Ga) ∧ Fld Z h ob0 "com/example/caprice/caprice/solver/Domains" "marked" "[Z" (.ref Mk) ∧ Fld Z h ob0 "com/example/caprice/caprice/solver/Domains" "gatheredCount" "I" (.int gc) ∧ True
set_option maxRecDepth 65536 in
set_option maxHeartbeats 40000000 in
theorem rm5_2 (l : Launch) (Z : State) (a0 : Array Value) (hw : ∀ d ∈ tables_1, d.before a0 Z = true) (ws : List Jvm.Cond) (ob0 : Addr) (q0 : Int32) (q1 : Int32) (y : Addr) (R : Addr) (Lf : Addr) (Lm : Addr) (Tr : Addr) (ts : Int32) (Ga : Addr) (Mk : Addr) (gc : Int32) (k_R : ClassId) (N : Nat) (fR : Nat → Value) (x : Addr) (k_x : ClassId) (K : Nat) (fx : Nat → Value) (k_Lf : ClassId) (fL : Nat → Value) (k_Lm : ClassId) (fM : Nat → Value) (k_Tr : ClassId) (nT : Nat) (fT : Nat → Value) (w15 : Int32) (w25 : Int64) (h0 : Heap) (n0 : Nat) (Z0 : n0 ≤ h0.size) (O0 : Old Z n0 h0) (OX : OvrA Z k_x .int "[I") (PE_ob0 : Exa Z h0 ob0 "com/example/caprice/caprice/solver/Domains") (PF_ob0_reasons : Fld Z h0 ob0 "com/example/caprice/caprice/solver/Domains" "reasons" "[[[I" (.ref R)) (PF_ob0_left : Fld Z h0 ob0 "com/example/caprice/caprice/solver/Domains" "left" "[I" (.ref Lf)) (PF_ob0_leftMasks : Fld Z h0 ob0 "com/example/caprice/caprice/solver/Domains" "leftMasks" "[J" (.ref Lm)) (PF_ob0_trail : Fld Z h0 ob0 "com/example/caprice/caprice/solver/Domains" "trail" "[I" (.ref Tr)) (PF_ob0_trailSize : Fld Z h0 ob0 "com/example/caprice/caprice/solver/Domains" "trailSize" "I" (.int ts)) (PF_ob0_gathered : Fld Z h0 ob0 "com/example/caprice/caprice/solver/Domains" "gathered" "[I" (.ref Ga)) (PF_ob0_marked : Fld Z h0 ob0 "com/example/caprice/caprice/solver/Domains" "marked" "[Z" (.ref Mk)) (PF_ob0_gatheredCount : Fld Z h0 ob0 "com/example/caprice/caprice/solver/Domains" "gatheredCount" "I" (.int gc)) (PA_R : Ars Z h0 R k_R (.array (.array .int)) N fR) (PA_x : Ars Z h0 x k_x (.array .int) K fx) (PA_Lf : Ars Z h0 Lf k_Lf .int N fL) (PA_Lm : Ars Z h0 Lm k_Lm .long N fM) (PA_Tr : Ars Z h0 Tr k_Tr .int nT fT) (PE_y : Exa Z h0 y "[I") (ne_ob0_x : ob0 ≠ x) (ne_Lf_x : Lf ≠ x) (ne_Lf_ob0 : Lf ≠ ob0) (ne_Lm_x : Lm ≠ x) (ne_Lf_Lm : Lf ≠ Lm) (ne_Lm_ob0 : Lm ≠ ob0) (ne_Tr_x : Tr ≠ x) (ne_Lf_Tr : Lf ≠ Tr) (ne_Lm_Tr : Lm ≠ Tr) (ne_Tr_ob0 : Tr ≠ ob0) (g_x : n0 ≤ x) (g_Lf : n0 ≤ Lf) (g_Lm : n0 ≤ Lm) (g_Tr : n0 ≤ Tr) (g_ob0 : n0 ≤ ob0) (hin5 : ¬ (q0 < 0 ∨ N ≤ (q0).toNatClampNeg)) (hat5 : fR (q0).toNatClampNeg = (.ref x)) (hin8 : ¬ (q1 < 0 ∨ K ≤ (q1).toNatClampNeg)) (hat15 : fL (q0).toNatClampNeg = (.int w15)) (hat25 : fM (q0).toNatClampNeg = (.long w25)) (hin44 : ¬ (ts < 0 ∨ nT ≤ (ts).toNatClampNeg)) (hin56 : ¬ ((ts + (1 : Int32)) < 0 ∨ nT ≤ ((ts + (1 : Int32))).toNatClampNeg)) :
    MetFree l (⟨"com/example/caprice/caprice/solver/Domains", "remove", "(II[I)V"⟩ : MethodName) (head1 (Jvm.Cond.code (⟨"com/example/caprice/caprice/solver/Domains", "remove", "(II[I)V"⟩ : MethodName) prog_59_method_10_code 4 none :: ws) ({ frames := 0, cells := 0, slots := 0, locals := 0 } : Room)) (fun a U => a = #[(.ref ob0), (.int q0), (.int q1), (.ref y)] ∧ Z.Warmed39 U.vm ∧ U.heap = h0) (fun _ _ _ _ _ => True) (fun _ U o U' => ∃ v L, o = .returned v ∧ Q5_2 Z  ob0 q0 q1 y R Lf Lm Tr ts Ga Mk gc k_R N fR x k_x K fx k_Lf fL k_Lm fM k_Tr nT fT w15 w25 h0 n0 v U'.heap L ∧ FrameEnd U o U' L ({ frames := 0, cells := 0, slots := 0, locals := 0 } : Room).cells ({ frames := 0, cells := 0, slots := 0, locals := 0 } : Room).slots) := by
  refine MetFree.of_bodySF (plainFor_of_name pn72) hisR ?_
  intro p e s m args below meth c s₁ Bd hml0 hP hK
  obtain ⟨rfl, hZ, hh⟩ := hP
  have hx := Bd.exec
  have hby := Bd.bytes
  have hml : c.maxLocals = 4 := hml0
  have hown : s.vm.findClass "com/example/caprice/caprice/solver/Domains" = some m.cls := findClass_of_methodNamed Bd.named
  have hnm := (name_of_methodNamed Bd.named Bd.method).1
  have X0 : Stand p l e ({ frames := 0, cells := 0, slots := 0, locals := 0 } : Room) s m #[(.ref ob0), (.int q0), (.int q1), (.ref y)] below meth c s₁ [] 0 0 := Stand.of_body Bd
  have e0 : s₁.heap = h0 := by rw [← hh, Bd.state]; rfl
  have N0 := Fr.nil n0
  have pre0 : ∀ t, Steps p.tables e below (s₁.setTop (mkF m 0 #[.val (.ref ob0), .val (.int q0), .val (.int q1), .val (.ref y)] [])) t → Steps p.tables e below (s₁.setTop (entryFrame m #[(.ref ob0), (.int q0), (.int q1), (.ref y)] 4)) t := fun t k => castTop (ef144 m ob0 q0 q1 y) k
  obtain ⟨T1, X1, e1, st1⟩ := getF X0 hx hZ hown (host := "") (Or.inl (hw _ (List.mem_of_getElem? (i := 16) rfl))) Via.refl e0 PF_ob0_reasons (g := (mkF m 1 #[.val (.ref ob0), .val (.int q0), .val (.int q1), .val (.ref y)] [(.ref ob0)])) rfl rfl (hb hby d5_1)
  obtain ⟨ac2, aA2, aq2, aS2, aN2, aH2⟩ := id PA_R
  obtain ⟨ac3, aA3, aq3, aS3, aN3, aH3⟩ := id PA_x
  obtain ⟨T4, h4, X4, e4, W4, st4⟩ := stR X1 hx hZ e1 aA3 (j := q1) (by rw [aS3]; exact hin8) rfl (Sto.ofVA aA3 aq3 OX (Ins.self PE_y)) (g := (mkF m 8 #[.val (.ref ob0), .val (.int q0), .val (.int q1), .val (.ref y)] [(.ref y), (.int q1), (.ref x)])) rfl rfl (hb hby d5_8)
  have A_4 : Ars Z h4 x k_x (.array .int) K (own_upd fx (q1).toNatClampNeg (.ref y)) := Ars.set aA3 aq3 aS3 aN3 aH3 W4
  have N4 := Fr.snoc X4 N0 g_x
  have O4 := O0.wr W4 g_x
  have KK4 : Keep h0 h4 [x, Lf, Lm, Tr, ob0] := (Keep.refl h0 [x, Lf, Lm, Tr, ob0]).wr W4 (Or.inl (List.mem_of_getElem? (i := 0) rfl))
  obtain ⟨T5, X5, e5, st5⟩ := getF X4 hx hZ hown (host := "") (Or.inl (hw _ (List.mem_of_getElem? (i := 18) rfl))) Via.refl e4 (PF_ob0_left.other W4 (Or.inl ne_ob0_x)) (g := (mkF m 10 #[.val (.ref ob0), .val (.int q0), .val (.int q1), .val (.ref y)] [(.ref ob0)])) rfl rfl (hb hby d5_10)
  obtain ⟨ac6, aA6, aq6, aS6, aN6, aH6⟩ := id (PA_Lf.other W4 ne_Lf_x)
  obtain ⟨ac7, aA7, aq7, aS7, aN7, aH7⟩ := id (PA_Lf.other W4 ne_Lf_x)
  obtain ⟨T8, h8, X8, e8, W8, st8⟩ := stI X5 hx hZ e5 aA7 (j := q0) (by rw [aS7]; exact hin5) (g := (mkF m 18 #[.val (.ref ob0), .val (.int q0), .val (.int q1), .val (.ref y)] [(.int (w15 - (1 : Int32))), (.int q0), (.ref Lf)])) rfl rfl (hb hby d5_18)
  have A_8 : Ars Z h8 Lf k_Lf .int N (own_upd fL (q0).toNatClampNeg (.int (w15 - (1 : Int32)))) := Ars.set aA7 aq7 aS7 aN7 aH7 W8
  have N8 := Fr.snoc X8 N4 g_Lf
  have O8 := O4.wr W8 g_Lf
  have KK8 : Keep h0 h8 [x, Lf, Lm, Tr, ob0] := KK4.wr W8 (Or.inl (List.mem_of_getElem? (i := 1) rfl))
  obtain ⟨T9, X9, e9, st9⟩ := getF X8 hx hZ hown (host := "") (Or.inl (hw _ (List.mem_of_getElem? (i := 21) rfl))) Via.refl e8 ((PF_ob0_leftMasks.other W4 (Or.inl ne_ob0_x)).other W8 (Or.inl (Ne.symm ne_Lf_ob0))) (g := (mkF m 20 #[.val (.ref ob0), .val (.int q0), .val (.int q1), .val (.ref y)] [(.ref ob0)])) rfl rfl (hb hby d5_20)
  obtain ⟨ac10, aA10, aq10, aS10, aN10, aH10⟩ := id ((PA_Lm.other W4 ne_Lm_x).other W8 (Ne.symm ne_Lf_Lm))
  obtain ⟨ac11, aA11, aq11, aS11, aN11, aH11⟩ := id ((PA_Lm.other W4 ne_Lm_x).other W8 (Ne.symm ne_Lf_Lm))
  obtain ⟨T12, h12, X12, e12, W12, st12⟩ := stJ X9 hx hZ e9 aA11 (j := q0) (by rw [aS11]; exact hin5) (g := (mkF m 34 #[.val (.ref ob0), .val (.int q0), .val (.int q1), .val (.ref y)] [(.long (w25 &&& (((1 : Int64) <<< (q1 &&& 0x3f).toInt64) ^^^ (-1 : Int64)))), (.int q0), (.ref Lm)])) rfl rfl (hb hby d5_34)
  have A_12 : Ars Z h12 Lm k_Lm .long N (own_upd fM (q0).toNatClampNeg (.long (w25 &&& (((1 : Int64) <<< (q1 &&& 0x3f).toInt64) ^^^ (-1 : Int64))))) := Ars.set aA11 aq11 aS11 aN11 aH11 W12
  have N12 := Fr.snoc X12 N8 g_Lm
  have O12 := O8.wr W12 g_Lm
  have KK12 : Keep h0 h12 [x, Lf, Lm, Tr, ob0] := KK8.wr W12 (Or.inl (List.mem_of_getElem? (i := 2) rfl))
  have J13 := (((PF_ob0_trail.other W4 (Or.inl ne_ob0_x)).other W8 (Or.inl (Ne.symm ne_Lf_ob0))).other W12 (Or.inl (Ne.symm ne_Lm_ob0)))
  obtain ⟨T14, X14, e14, st14⟩ := getF X12 hx hZ hown (host := "") (Or.inl (hw _ (List.mem_of_getElem? (i := 29) rfl))) Via.refl e12 J13 (g := (mkF m 36 #[.val (.ref ob0), .val (.int q0), .val (.int q1), .val (.ref y)] [(.ref ob0)])) rfl rfl (hb hby d5_36)
  have J15 := (((PF_ob0_trailSize.other W4 (Or.inl ne_ob0_x)).other W8 (Or.inl (Ne.symm ne_Lf_ob0))).other W12 (Or.inl (Ne.symm ne_Lm_ob0)))
  obtain ⟨T16, X16, e16, st16⟩ := getF X14 hx hZ hown (host := "") (Or.inl (hw _ (List.mem_of_getElem? (i := 43) rfl))) Via.refl e14 J15 (g := (mkF m 40 #[.val (.ref ob0), .val (.int q0), .val (.int q1), .val (.ref y)] [(.ref ob0), (.ref Tr)])) rfl rfl (hb hby d5_40)
  have J18 := (((PA_Tr.other W4 ne_Tr_x).other W8 (Ne.symm ne_Lf_Tr)).other W12 (Ne.symm ne_Lm_Tr))
  obtain ⟨ac17, aA17, aq17, aS17, aN17, aH17⟩ := id J18
  obtain ⟨T19, h19, X19, e19, W19, st19⟩ := stI X16 hx hZ e16 aA17 (j := ts) (by rw [aS17]; exact hin44) (g := (mkF m 44 #[.val (.ref ob0), .val (.int q0), .val (.int q1), .val (.ref y)] [(.int q0), (.int ts), (.ref Tr)])) rfl rfl (hb hby d5_44)
  have A_19 : Ars Z h19 Tr k_Tr .int nT (own_upd fT (ts).toNatClampNeg (.int q0)) := Ars.set aA17 aq17 aS17 aN17 aH17 W19
  have N19 := Fr.snoc X19 N12 g_Tr
  have O19 := O12.wr W19 g_Tr
  have KK19 : Keep h0 h19 [x, Lf, Lm, Tr, ob0] := KK12.wr W19 (Or.inl (List.mem_of_getElem? (i := 3) rfl))
  obtain ⟨T20, X20, e20, st20⟩ := getF X19 hx hZ hown (host := "") (Or.inl (hw _ (List.mem_of_getElem? (i := 29) rfl))) Via.refl e19 (J13.other W19 (Or.inl (Ne.symm ne_Tr_ob0))) (g := (mkF m 46 #[.val (.ref ob0), .val (.int q0), .val (.int q1), .val (.ref y)] [(.ref ob0)])) rfl rfl (hb hby d5_46)
  obtain ⟨T21, X21, e21, st21⟩ := getF X20 hx hZ hown (host := "") (Or.inl (hw _ (List.mem_of_getElem? (i := 43) rfl))) Via.refl e20 (J15.other W19 (Or.inl (Ne.symm ne_Tr_ob0))) (g := (mkF m 50 #[.val (.ref ob0), .val (.int q0), .val (.int q1), .val (.ref y)] [(.ref ob0), (.ref Tr)])) rfl rfl (hb hby d5_50)
  obtain ⟨ac22, aA22, aq22, aS22, aN22, aH22⟩ := id A_19
  obtain ⟨T23, h23, X23, e23, W23, st23⟩ := stI X21 hx hZ e21 aA22 (j := (ts + (1 : Int32))) (by rw [aS22]; exact hin56) (g := (mkF m 56 #[.val (.ref ob0), .val (.int q0), .val (.int q1), .val (.ref y)] [(.int q1), (.int (ts + (1 : Int32))), (.ref Tr)])) rfl rfl (hb hby d5_56)
  have A_23 : Ars Z h23 Tr k_Tr .int nT (own_upd (own_upd fT (ts).toNatClampNeg (.int q0)) ((ts + (1 : Int32))).toNatClampNeg (.int q1)) := Ars.set aA22 aq22 aS22 aN22 aH22 W23
  have N23 := Fr.snoc X23 N19 g_Tr
  have O23 := O19.wr W23 g_Tr
  have KK23 : Keep h0 h23 [x, Lf, Lm, Tr, ob0] := KK19.wr W23 (Or.inl (List.mem_of_getElem? (i := 3) rfl))
  obtain ⟨T24, X24, e24, st24⟩ := getF X23 hx hZ hown (host := "") (Or.inl (hw _ (List.mem_of_getElem? (i := 43) rfl))) Via.refl e23 ((J15.other W19 (Or.inl (Ne.symm ne_Tr_ob0))).other W23 (Or.inl (Ne.symm ne_Tr_ob0))) (g := (mkF m 59 #[.val (.ref ob0), .val (.int q0), .val (.int q1), .val (.ref y)] [(.ref ob0), (.ref ob0)])) rfl rfl (hb hby d5_59)
  have J25 := (((((PE_ob0.wr W4).wr W8).wr W12).wr W19).wr W23)
  obtain ⟨T26, h26, X26, e26, W26, st26⟩ := putF X24 hx hZ hown (host := "") (Or.inl (hw _ (List.mem_of_getElem? (i := 43) rfl))) Via.refl e24 ((J15.other W19 (Or.inl (Ne.symm ne_Tr_ob0))).other W23 (Or.inl (Ne.symm ne_Tr_ob0))) J25 (Or.inl (hw _ (List.mem_of_getElem? (i := 44) rfl))) (hw _ (List.mem_of_getElem? (i := 6) rfl)) (ty := .int) (by decide) rfl rfl (g := (mkF m 64 #[.val (.ref ob0), .val (.int q0), .val (.int q1), .val (.ref y)] [(.int (ts + (2 : Int32))), (.ref ob0)])) rfl rfl (hb hby d5_64)
  have Fw26 := ((J15.other W19 (Or.inl (Ne.symm ne_Tr_ob0))).other W23 (Or.inl (Ne.symm ne_Tr_ob0))).same W26
  have N26 := Fr.snoc X26 N23 g_ob0
  have O26 := O23.wr W26 g_ob0
  have KK26 : Keep h0 h26 [x, Lf, Lm, Tr, ob0] := KK23.wr W26 (Or.inl (List.mem_of_getElem? (i := 4) rfl))
  have J27 := (((((A_4.other W8 (Ne.symm ne_Lf_x)).other W12 (Ne.symm ne_Lm_x)).other W19 (Ne.symm ne_Tr_x)).other W23 (Ne.symm ne_Tr_x)).other W26 (Ne.symm ne_ob0_x))
  have J28 := ((((A_8.other W12 ne_Lf_Lm).other W19 ne_Lf_Tr).other W23 ne_Lf_Tr).other W26 ne_Lf_ob0)
  have J29 := (((A_12.other W19 ne_Lm_Tr).other W23 ne_Lm_Tr).other W26 ne_Lm_ob0)
  have J30 := ((((((PF_ob0_reasons.other W4 (Or.inl ne_ob0_x)).other W8 (Or.inl (Ne.symm ne_Lf_ob0))).other W12 (Or.inl (Ne.symm ne_Lm_ob0))).other W19 (Or.inl (Ne.symm ne_Tr_ob0))).other W23 (Or.inl (Ne.symm ne_Tr_ob0))).other W26 (Or.inr (slot_ne (Or.inr (hw _ (List.mem_of_getElem? (i := 17) rfl))) (Or.inl (hw _ (List.mem_of_getElem? (i := 44) rfl))) (by decide) (t := (.array (.array (.array .int)))) (t' := .int) (by decide) (by decide))))
  have J31 := ((((((PF_ob0_left.other W4 (Or.inl ne_ob0_x)).other W8 (Or.inl (Ne.symm ne_Lf_ob0))).other W12 (Or.inl (Ne.symm ne_Lm_ob0))).other W19 (Or.inl (Ne.symm ne_Tr_ob0))).other W23 (Or.inl (Ne.symm ne_Tr_ob0))).other W26 (Or.inr (slot_ne (Or.inr (hw _ (List.mem_of_getElem? (i := 19) rfl))) (Or.inl (hw _ (List.mem_of_getElem? (i := 44) rfl))) (by decide) (t := (.array .int)) (t' := .int) (by decide) (by decide))))
  have J32 := ((((((PF_ob0_leftMasks.other W4 (Or.inl ne_ob0_x)).other W8 (Or.inl (Ne.symm ne_Lf_ob0))).other W12 (Or.inl (Ne.symm ne_Lm_ob0))).other W19 (Or.inl (Ne.symm ne_Tr_ob0))).other W23 (Or.inl (Ne.symm ne_Tr_ob0))).other W26 (Or.inr (slot_ne (Or.inr (hw _ (List.mem_of_getElem? (i := 22) rfl))) (Or.inl (hw _ (List.mem_of_getElem? (i := 44) rfl))) (by decide) (t := (.array .long)) (t' := .int) (by decide) (by decide))))
  have J33 := (((J13.other W19 (Or.inl (Ne.symm ne_Tr_ob0))).other W23 (Or.inl (Ne.symm ne_Tr_ob0))).other W26 (Or.inr (slot_ne (Or.inr (hw _ (List.mem_of_getElem? (i := 30) rfl))) (Or.inl (hw _ (List.mem_of_getElem? (i := 44) rfl))) (by decide) (t := (.array .int)) (t' := .int) (by decide) (by decide))))
  have J34 := ((((((PF_ob0_gathered.other W4 (Or.inl ne_ob0_x)).other W8 (Or.inl (Ne.symm ne_Lf_ob0))).other W12 (Or.inl (Ne.symm ne_Lm_ob0))).other W19 (Or.inl (Ne.symm ne_Tr_ob0))).other W23 (Or.inl (Ne.symm ne_Tr_ob0))).other W26 (Or.inr (slot_ne (Or.inr (hw _ (List.mem_of_getElem? (i := 32) rfl))) (Or.inl (hw _ (List.mem_of_getElem? (i := 44) rfl))) (by decide) (t := (.array .int)) (t' := .int) (by decide) (by decide))))
  have J35 := ((((((PF_ob0_marked.other W4 (Or.inl ne_ob0_x)).other W8 (Or.inl (Ne.symm ne_Lf_ob0))).other W12 (Or.inl (Ne.symm ne_Lm_ob0))).other W19 (Or.inl (Ne.symm ne_Tr_ob0))).other W23 (Or.inl (Ne.symm ne_Tr_ob0))).other W26 (Or.inr (slot_ne (Or.inr (hw _ (List.mem_of_getElem? (i := 35) rfl))) (Or.inl (hw _ (List.mem_of_getElem? (i := 44) rfl))) (by decide) (t := (.array .boolean)) (t' := .int) (by decide) (by decide))))
  have J36 := ((((((PF_ob0_gatheredCount.other W4 (Or.inl ne_ob0_x)).other W8 (Or.inl (Ne.symm ne_Lf_ob0))).other W12 (Or.inl (Ne.symm ne_Lm_ob0))).other W19 (Or.inl (Ne.symm ne_Tr_ob0))).other W23 (Or.inl (Ne.symm ne_Tr_ob0))).other W26 (Or.inr (slot_ne (Or.inl (hw _ (List.mem_of_getElem? (i := 56) rfl))) (Or.inl (hw _ (List.mem_of_getElem? (i := 44) rfl))) (by decide) (t := .int) (t' := .int) (by decide) (by decide))))
  obtain ⟨fs, hr, hrun, hended, hW, hsame⟩ := X26.leave (v := none) (fun _ => rfl)
  refine ⟨_, _, pre0 _ ?_, hrun, hended, _, _, rfl, ?_, ⟨_, rfl⟩, hW, hsame.mono (by decide) (by decide)⟩
  · show Steps p.tables e below (s₁.setTop (mkF m 0 #[.val (.ref ob0), .val (.int q0), .val (.int q1), .val (.ref y)] [])) _
    refine XS.aloadN X0.here hx rfl (hb hby d5_0) rfl rfl ?_
    show Steps p.tables e below (s₁.setTop (mkF m 1 #[.val (.ref ob0), .val (.int q0), .val (.int q1), .val (.ref y)] [(.ref ob0)])) _
    refine st1 _ ?_
    show Steps p.tables e below (T1.setTop (mkF m 4 #[.val (.ref ob0), .val (.int q0), .val (.int q1), .val (.ref y)] [(.ref R)])) _
    refine XS.iloadN X1.here hx rfl (hb hby d5_4) rfl ?_
    show Steps p.tables e below (T1.setTop (mkF m 5 #[.val (.ref ob0), .val (.int q0), .val (.int q1), .val (.ref y)] [(.int q0), (.ref R)])) _
    refine X1.aaload hx (j := q0) (v := (.ref x)) (by rw [e1]; exact aA2.1) (State.isArrayOf_alike hZ.alike aA2.2.1) rfl aA2.2.2 (by rw [aS2]; exact hin5) (own_at aH2 hin5 hat5) (g := (mkF m 5 #[.val (.ref ob0), .val (.int q0), .val (.int q1), .val (.ref y)] [(.int q0), (.ref R)])) rfl rfl (hb hby d5_5) _ ?_
    show Steps p.tables e below (T1.setTop (mkF m 6 #[.val (.ref ob0), .val (.int q0), .val (.int q1), .val (.ref y)] [(.ref x)])) _
    refine XS.iloadN X1.here hx rfl (hb hby d5_6) rfl ?_
    show Steps p.tables e below (T1.setTop (mkF m 7 #[.val (.ref ob0), .val (.int q0), .val (.int q1), .val (.ref y)] [(.int q1), (.ref x)])) _
    refine XS.aloadN X1.here hx rfl (hb hby d5_7) rfl rfl ?_
    show Steps p.tables e below (T1.setTop (mkF m 8 #[.val (.ref ob0), .val (.int q0), .val (.int q1), .val (.ref y)] [(.ref y), (.int q1), (.ref x)])) _
    refine st4 _ ?_
    show Steps p.tables e below (T4.setTop (mkF m 9 #[.val (.ref ob0), .val (.int q0), .val (.int q1), .val (.ref y)] [])) _
    refine XS.aloadN X4.here hx rfl (hb hby d5_9) rfl rfl ?_
    show Steps p.tables e below (T4.setTop (mkF m 10 #[.val (.ref ob0), .val (.int q0), .val (.int q1), .val (.ref y)] [(.ref ob0)])) _
    refine st5 _ ?_
    show Steps p.tables e below (T5.setTop (mkF m 13 #[.val (.ref ob0), .val (.int q0), .val (.int q1), .val (.ref y)] [(.ref Lf)])) _
    refine XS.iloadN X5.here hx rfl (hb hby d5_13) rfl ?_
    show Steps p.tables e below (T5.setTop (mkF m 14 #[.val (.ref ob0), .val (.int q0), .val (.int q1), .val (.ref y)] [(.int q0), (.ref Lf)])) _
    jvm_step X5.here [X5.here.top, hx, (hb hby d5_14), Value.category]
    show Steps p.tables e below (T5.setTop (mkF m 15 #[.val (.ref ob0), .val (.int q0), .val (.int q1), .val (.ref y)] [(.int q0), (.ref Lf), (.int q0), (.ref Lf)])) _
    refine X5.iaload hx (j := q0) (v := (.int w15)) (by rw [e5]; exact aA6.1) (State.isArrayOf_alike hZ.alike aA6.2.1) aA6.2.2 (by rw [aS6]; exact hin5) (own_at aH6 hin5 hat15) (g := (mkF m 15 #[.val (.ref ob0), .val (.int q0), .val (.int q1), .val (.ref y)] [(.int q0), (.ref Lf), (.int q0), (.ref Lf)])) rfl rfl (hb hby d5_15) _ ?_
    show Steps p.tables e below (T5.setTop (mkF m 16 #[.val (.ref ob0), .val (.int q0), .val (.int q1), .val (.ref y)] [(.int w15), (.int q0), (.ref Lf)])) _
    refine XS.iconst X5.here hx rfl (hb hby d5_16) ?_
    show Steps p.tables e below (T5.setTop (mkF m 17 #[.val (.ref ob0), .val (.int q0), .val (.int q1), .val (.ref y)] [(.int (1 : Int32)), (.int w15), (.int q0), (.ref Lf)])) _
    refine XS.isub X5.here hx rfl (hb hby d5_17) rfl ?_
    show Steps p.tables e below (T5.setTop (mkF m 18 #[.val (.ref ob0), .val (.int q0), .val (.int q1), .val (.ref y)] [(.int (w15 - (1 : Int32))), (.int q0), (.ref Lf)])) _
    refine st8 _ ?_
    show Steps p.tables e below (T8.setTop (mkF m 19 #[.val (.ref ob0), .val (.int q0), .val (.int q1), .val (.ref y)] [])) _
    refine XS.aloadN X8.here hx rfl (hb hby d5_19) rfl rfl ?_
    show Steps p.tables e below (T8.setTop (mkF m 20 #[.val (.ref ob0), .val (.int q0), .val (.int q1), .val (.ref y)] [(.ref ob0)])) _
    refine st9 _ ?_
    show Steps p.tables e below (T9.setTop (mkF m 23 #[.val (.ref ob0), .val (.int q0), .val (.int q1), .val (.ref y)] [(.ref Lm)])) _
    refine XS.iloadN X9.here hx rfl (hb hby d5_23) rfl ?_
    show Steps p.tables e below (T9.setTop (mkF m 24 #[.val (.ref ob0), .val (.int q0), .val (.int q1), .val (.ref y)] [(.int q0), (.ref Lm)])) _
    jvm_step X9.here [X9.here.top, hx, (hb hby d5_24), Value.category]
    show Steps p.tables e below (T9.setTop (mkF m 25 #[.val (.ref ob0), .val (.int q0), .val (.int q1), .val (.ref y)] [(.int q0), (.ref Lm), (.int q0), (.ref Lm)])) _
    refine X9.laload hx (j := q0) (v := (.long w25)) (by rw [e9]; exact aA10.1) (State.isArrayOf_alike hZ.alike aA10.2.1) aA10.2.2 (by rw [aS10]; exact hin5) (own_at aH10 hin5 hat25) (g := (mkF m 25 #[.val (.ref ob0), .val (.int q0), .val (.int q1), .val (.ref y)] [(.int q0), (.ref Lm), (.int q0), (.ref Lm)])) rfl rfl (hb hby d5_25) _ ?_
    show Steps p.tables e below (T9.setTop (mkF m 26 #[.val (.ref ob0), .val (.int q0), .val (.int q1), .val (.ref y)] [(.long w25), (.int q0), (.ref Lm)])) _
    refine XS.lconst X9.here hx rfl (hb hby d5_26) ?_
    show Steps p.tables e below (T9.setTop (mkF m 27 #[.val (.ref ob0), .val (.int q0), .val (.int q1), .val (.ref y)] [(.long (1 : Int64)), (.long w25), (.int q0), (.ref Lm)])) _
    refine XS.iloadN X9.here hx rfl (hb hby d5_27) rfl ?_
    show Steps p.tables e below (T9.setTop (mkF m 28 #[.val (.ref ob0), .val (.int q0), .val (.int q1), .val (.ref y)] [(.int q1), (.long (1 : Int64)), (.long w25), (.int q0), (.ref Lm)])) _
    refine XS.lshl X9.here hx rfl (hb hby d5_28) rfl ?_
    show Steps p.tables e below (T9.setTop (mkF m 29 #[.val (.ref ob0), .val (.int q0), .val (.int q1), .val (.ref y)] [(.long ((1 : Int64) <<< (q1 &&& 0x3f).toInt64)), (.long w25), (.int q0), (.ref Lm)])) _
    refine X9.ldc2Long hx hown (mvT hZ (hw _ (List.mem_of_getElem? (i := 42) rfl))) (g := (mkF m 29 #[.val (.ref ob0), .val (.int q0), .val (.int q1), .val (.ref y)] [(.long ((1 : Int64) <<< (q1 &&& 0x3f).toInt64)), (.long w25), (.int q0), (.ref Lm)])) rfl (hb hby d5_29) _ ?_
    show Steps p.tables e below (T9.setTop (mkF m 32 #[.val (.ref ob0), .val (.int q0), .val (.int q1), .val (.ref y)] [(.long (-1 : Int64)), (.long ((1 : Int64) <<< (q1 &&& 0x3f).toInt64)), (.long w25), (.int q0), (.ref Lm)])) _
    refine XS.lxor X9.here hx rfl (hb hby d5_32) rfl ?_
    show Steps p.tables e below (T9.setTop (mkF m 33 #[.val (.ref ob0), .val (.int q0), .val (.int q1), .val (.ref y)] [(.long (((1 : Int64) <<< (q1 &&& 0x3f).toInt64) ^^^ (-1 : Int64))), (.long w25), (.int q0), (.ref Lm)])) _
    refine XS.land X9.here hx rfl (hb hby d5_33) rfl ?_
    show Steps p.tables e below (T9.setTop (mkF m 34 #[.val (.ref ob0), .val (.int q0), .val (.int q1), .val (.ref y)] [(.long (w25 &&& (((1 : Int64) <<< (q1 &&& 0x3f).toInt64) ^^^ (-1 : Int64)))), (.int q0), (.ref Lm)])) _
    refine st12 _ ?_
    show Steps p.tables e below (T12.setTop (mkF m 35 #[.val (.ref ob0), .val (.int q0), .val (.int q1), .val (.ref y)] [])) _
    refine XS.aloadN X12.here hx rfl (hb hby d5_35) rfl rfl ?_
    show Steps p.tables e below (T12.setTop (mkF m 36 #[.val (.ref ob0), .val (.int q0), .val (.int q1), .val (.ref y)] [(.ref ob0)])) _
    refine st14 _ ?_
    show Steps p.tables e below (T14.setTop (mkF m 39 #[.val (.ref ob0), .val (.int q0), .val (.int q1), .val (.ref y)] [(.ref Tr)])) _
    refine XS.aloadN X14.here hx rfl (hb hby d5_39) rfl rfl ?_
    show Steps p.tables e below (T14.setTop (mkF m 40 #[.val (.ref ob0), .val (.int q0), .val (.int q1), .val (.ref y)] [(.ref ob0), (.ref Tr)])) _
    refine st16 _ ?_
    show Steps p.tables e below (T16.setTop (mkF m 43 #[.val (.ref ob0), .val (.int q0), .val (.int q1), .val (.ref y)] [(.int ts), (.ref Tr)])) _
    refine XS.iloadN X16.here hx rfl (hb hby d5_43) rfl ?_
    show Steps p.tables e below (T16.setTop (mkF m 44 #[.val (.ref ob0), .val (.int q0), .val (.int q1), .val (.ref y)] [(.int q0), (.int ts), (.ref Tr)])) _
    refine st19 _ ?_
    show Steps p.tables e below (T19.setTop (mkF m 45 #[.val (.ref ob0), .val (.int q0), .val (.int q1), .val (.ref y)] [])) _
    refine XS.aloadN X19.here hx rfl (hb hby d5_45) rfl rfl ?_
    show Steps p.tables e below (T19.setTop (mkF m 46 #[.val (.ref ob0), .val (.int q0), .val (.int q1), .val (.ref y)] [(.ref ob0)])) _
    refine st20 _ ?_
    show Steps p.tables e below (T20.setTop (mkF m 49 #[.val (.ref ob0), .val (.int q0), .val (.int q1), .val (.ref y)] [(.ref Tr)])) _
    refine XS.aloadN X20.here hx rfl (hb hby d5_49) rfl rfl ?_
    show Steps p.tables e below (T20.setTop (mkF m 50 #[.val (.ref ob0), .val (.int q0), .val (.int q1), .val (.ref y)] [(.ref ob0), (.ref Tr)])) _
    refine st21 _ ?_
    show Steps p.tables e below (T21.setTop (mkF m 53 #[.val (.ref ob0), .val (.int q0), .val (.int q1), .val (.ref y)] [(.int ts), (.ref Tr)])) _
    refine XS.iconst X21.here hx rfl (hb hby d5_53) ?_
    show Steps p.tables e below (T21.setTop (mkF m 54 #[.val (.ref ob0), .val (.int q0), .val (.int q1), .val (.ref y)] [(.int (1 : Int32)), (.int ts), (.ref Tr)])) _
    refine XS.iadd X21.here hx rfl (hb hby d5_54) rfl ?_
    show Steps p.tables e below (T21.setTop (mkF m 55 #[.val (.ref ob0), .val (.int q0), .val (.int q1), .val (.ref y)] [(.int (ts + (1 : Int32))), (.ref Tr)])) _
    refine XS.iloadN X21.here hx rfl (hb hby d5_55) rfl ?_
    show Steps p.tables e below (T21.setTop (mkF m 56 #[.val (.ref ob0), .val (.int q0), .val (.int q1), .val (.ref y)] [(.int q1), (.int (ts + (1 : Int32))), (.ref Tr)])) _
    refine st23 _ ?_
    show Steps p.tables e below (T23.setTop (mkF m 57 #[.val (.ref ob0), .val (.int q0), .val (.int q1), .val (.ref y)] [])) _
    refine XS.aloadN X23.here hx rfl (hb hby d5_57) rfl rfl ?_
    show Steps p.tables e below (T23.setTop (mkF m 58 #[.val (.ref ob0), .val (.int q0), .val (.int q1), .val (.ref y)] [(.ref ob0)])) _
    refine XS.dup X23.here hx rfl (hb hby d5_58) rfl rfl ?_
    show Steps p.tables e below (T23.setTop (mkF m 59 #[.val (.ref ob0), .val (.int q0), .val (.int q1), .val (.ref y)] [(.ref ob0), (.ref ob0)])) _
    refine st24 _ ?_
    show Steps p.tables e below (T24.setTop (mkF m 62 #[.val (.ref ob0), .val (.int q0), .val (.int q1), .val (.ref y)] [(.int ts), (.ref ob0)])) _
    refine XS.iconst X24.here hx rfl (hb hby d5_62) ?_
    show Steps p.tables e below (T24.setTop (mkF m 63 #[.val (.ref ob0), .val (.int q0), .val (.int q1), .val (.ref y)] [(.int (2 : Int32)), (.int ts), (.ref ob0)])) _
    refine XS.iadd X24.here hx rfl (hb hby d5_63) rfl ?_
    show Steps p.tables e below (T24.setTop (mkF m 64 #[.val (.ref ob0), .val (.int q0), .val (.int q1), .val (.ref y)] [(.int (ts + (2 : Int32))), (.ref ob0)])) _
    refine st26 _ ?_
    show Steps p.tables e below (T26.setTop (mkF m 67 #[.val (.ref ob0), .val (.int q0), .val (.int q1), .val (.ref y)] [])) _
    exact X26.returnOut hx Bd.returns (hb hby d5_67) hr
  · have eH : (T26.setFrames fs).heap = h26 := e26; rw [eH]; exact ⟨rfl, N26, KK26, O26, J27, J28, J29, (A_23.other W26 ne_Tr_ob0), (J25.wr W26), J30, J31, J32, J33, Fw26, J34, J35, J36, trivial⟩
theorem d1_0 : decode method_3_code 0 = .ok (.iload_n 0, 1) := by decide +kernel
theorem d1_1 : decode method_3_code 1 = .ok (.ifCond .ne 7, 3) := by decide +kernel
theorem d1_4 : decode method_3_code 4 = .ok (.iconst 0, 1) := by decide +kernel
theorem d1_5 : decode method_3_code 5 = .ok (.newarray .int, 2) := by decide +kernel
theorem d1_7 : decode method_3_code 7 = .ok (.areturn, 1) := by decide +kernel
theorem ef151 (m : MethodId) (x0 : Int32) (x1 : Int32) (x2 : Int32) (x3 : Int32) (x4 : Int32) : entryFrame m #[(.int x0), (.int x1), (.int x2), (.int x3), (.int x4)] 5 = mkF m 0 #[.val (.int x0), .val (.int x1), .val (.int x2), .val (.int x3), .val (.int x4)] [] := by first | (simp [entryFrame, mkF, argsToLocals, Value.category]; done) | rfl
theorem pn152 : plainName "com/example/caprice/caprice/solver/DomainsGatherReasonsPinLaw" = true := by first | (simp [plainName, overriddenIn]; done) | decide +kernel
def Q1_3 (Z : State) (va : Int32) (vb : Int32) (vc : Int32) (vd : Int32) (h0 : Heap) (n0 : Nat) (v : Option Value) (h : Heap) (L : List Loc) : Prop := ∃ b1 : Addr, ∃ kk_b1 : ClassId, v = some (.ref b1) ∧ Fr n0 L ∧ Keep h0 h [] ∧ Old Z n0 h ∧ h0.size ≤ b1 ∧ Arv Z h b1 kk_b1 .int (0 : Int32) [] (.int (0 : Int32)) ∧ Exa Z h b1 "[I" ∧ True
set_option maxRecDepth 65536 in
set_option maxHeartbeats 40000000 in
theorem rm1_3 (l : Launch) (Z : State) (a0 : Array Value) (hw : ∀ d ∈ tables_1, d.before a0 Z = true) (ws : List Jvm.Cond) (va : Int32) (vb : Int32) (vc : Int32) (vd : Int32) (h0 : Heap) (n0 : Nat) (Z0 : n0 ≤ h0.size) (O0 : Old Z n0 h0) :
    MetFree l (⟨"com/example/caprice/caprice/solver/DomainsGatherReasonsPinLaw", "make", "(IIIII)[I"⟩ : MethodName) (head1 (Jvm.Cond.code (⟨"com/example/caprice/caprice/solver/DomainsGatherReasonsPinLaw", "make", "(IIIII)[I"⟩ : MethodName) method_3_code 5 (some (.array .int)) :: ws) ({ frames := 0, cells := 1, slots := 4, locals := 0 } : Room)) (fun a U => a = #[(.int (0 : Int32)), (.int va), (.int vb), (.int vc), (.int vd)] ∧ Z.Warmed39 U.vm ∧ U.heap = h0) (fun _ _ _ _ _ => True) (fun _ U o U' => ∃ v L, o = .returned v ∧ Q1_3 Z  va vb vc vd h0 n0 v U'.heap L ∧ FrameEnd U o U' L ({ frames := 0, cells := 1, slots := 4, locals := 0 } : Room).cells ({ frames := 0, cells := 1, slots := 4, locals := 0 } : Room).slots) := by
  refine MetFree.of_bodySF (plainFor_of_name pn152) hisR ?_
  intro p e s m args below meth c s₁ Bd hml0 hP hK
  obtain ⟨rfl, hZ, hh⟩ := hP
  have hx := Bd.exec
  have hby := Bd.bytes
  have hml : c.maxLocals = 5 := hml0
  have hown : s.vm.findClass "com/example/caprice/caprice/solver/DomainsGatherReasonsPinLaw" = some m.cls := findClass_of_methodNamed Bd.named
  have hnm := (name_of_methodNamed Bd.named Bd.method).1
  have X0 : Stand p l e ({ frames := 0, cells := 1, slots := 4, locals := 0 } : Room) s m #[(.int (0 : Int32)), (.int va), (.int vb), (.int vc), (.int vd)] below meth c s₁ [] 0 0 := Stand.of_body Bd
  have e0 : s₁.heap = h0 := by rw [← hh, Bd.state]; rfl
  have N0 := Fr.nil n0
  have pre0 : ∀ t, Steps p.tables e below (s₁.setTop (mkF m 0 #[.val (.int (0 : Int32)), .val (.int va), .val (.int vb), .val (.int vc), .val (.int vd)] [])) t → Steps p.tables e below (s₁.setTop (entryFrame m #[(.int (0 : Int32)), (.int va), (.int vb), (.int vc), (.int vd)] 5)) t := fun t k => castTop (ef151 m (0 : Int32) va vb vc vd) k
  obtain ⟨T1, h1, k1, X1, e1, E1, A1, B1, st1⟩ := newPE X0 hx hZ (hw _ (List.mem_of_getElem? (i := 4) rfl)) e0 (g := (mkF m 5 #[.val (.int (0 : Int32)), .val (.int va), .val (.int vb), .val (.int vc), .val (.int vd)] [(.int (0 : Int32))])) rfl (hb hby d1_5) rfl (by decide) (cap := 0) (by decide) (by decide) (by decide) (by decide) (ad := "[I") (by decide)
  obtain ⟨b1, gg1⟩ : ∃ z, z = h0.size := ⟨_, rfl⟩
  rw [← gg1] at A1 B1 st1
  have bo_b1 : h0.size ≤ b1 := Nat.le_of_eq gg1.symm
  have g_b1 : n0 ≤ b1 := Nat.le_trans (own_n0 O0) bo_b1
  have sz_b1 : h0.size ≤ b1 := Nat.le_trans (Keep.refl h0 []).1 bo_b1
  have V_b1 : Arv Z h1 b1 k1 .int (0 : Int32) [] (.int (0 : Int32)) := (Arv.new A1 (by decide)).pad (pad_rep [] (.int (0 : Int32)) 0)
  have lb_b1 : b1 < h1.size := A1.lt
  have KK1 : Keep h0 h1 [] := (Keep.refl h0 []).ext E1
  have O1 := O0.ext E1
  obtain ⟨fs, hr, hrun, hended, hW, hsame⟩ := X1.leave (v := some (.ref b1)) (fun h => by rw [Bd.returns] at h; cases h)
  refine ⟨_, _, pre0 _ ?_, hrun, hended, _, _, rfl, ?_, ⟨_, rfl⟩, hW, hsame.mono (by decide) (by decide)⟩
  · show Steps p.tables e below (s₁.setTop (mkF m 0 #[.val (.int (0 : Int32)), .val (.int va), .val (.int vb), .val (.int vc), .val (.int vd)] [])) _
    refine XS.iloadN X0.here hx rfl (hb hby d1_0) rfl ?_
    show Steps p.tables e below (s₁.setTop (mkF m 1 #[.val (.int (0 : Int32)), .val (.int va), .val (.int vb), .val (.int vc), .val (.int vd)] [(.int (0 : Int32))])) _
    refine XS.ifNo X0.here hx rfl (hb hby d1_1) rfl ((if0 _ _).trans (teq (by decide : (0 : Int32) = (0 : Int32))).2) ?_
    show Steps p.tables e below (s₁.setTop (mkF m 4 #[.val (.int (0 : Int32)), .val (.int va), .val (.int vb), .val (.int vc), .val (.int vd)] [])) _
    refine XS.iconst X0.here hx rfl (hb hby d1_4) ?_
    show Steps p.tables e below (s₁.setTop (mkF m 5 #[.val (.int (0 : Int32)), .val (.int va), .val (.int vb), .val (.int vc), .val (.int vd)] [(.int (0 : Int32))])) _
    refine st1 _ ?_
    show Steps p.tables e below (T1.setTop (mkF m 7 #[.val (.int (0 : Int32)), .val (.int va), .val (.int vb), .val (.int vc), .val (.int vd)] [(.ref b1)])) _
    jvm_step X1.here [X1.here.top, hx, (hb hby d1_7), X1.method', Bd.returns, Value.isRef, FieldType.isReference]
    first | (intro acts; rw [hr _ acts rfl rfl rfl]) | rw [hr _ _ rfl rfl rfl]
    exact Steps.refl _
  · have eH : (T1.setFrames fs).heap = h1 := e1; rw [eH]; exact ⟨b1, k1, rfl, N0, KK1, O1, sz_b1, V_b1, B1, trivial⟩
theorem d1_8 : decode method_3_code 8 = .ok (.iload_n 0, 1) := by decide +kernel
theorem d1_9 : decode method_3_code 9 = .ok (.iconst 1, 1) := by decide +kernel
theorem d1_10 : decode method_3_code 10 = .ok (.if_icmp .ne 11, 3) := by decide +kernel
theorem d1_13 : decode method_3_code 13 = .ok (.iconst 1, 1) := by decide +kernel
theorem d1_14 : decode method_3_code 14 = .ok (.newarray .int, 2) := by decide +kernel
theorem d1_16 : decode method_3_code 16 = .ok (.dup, 1) := by decide +kernel
theorem d1_17 : decode method_3_code 17 = .ok (.iconst 0, 1) := by decide +kernel
theorem d1_18 : decode method_3_code 18 = .ok (.iload_n 1, 1) := by decide +kernel
theorem d1_19 : decode method_3_code 19 = .ok (.iastore, 1) := by decide +kernel
theorem d1_20 : decode method_3_code 20 = .ok (.areturn, 1) := by decide +kernel
def Q1_4 (Z : State) (va : Int32) (vb : Int32) (vc : Int32) (vd : Int32) (h0 : Heap) (n0 : Nat) (v : Option Value) (h : Heap) (L : List Loc) : Prop := ∃ b1 : Addr, ∃ kk_b1 : ClassId, v = some (.ref b1) ∧ Fr n0 L ∧ Keep h0 h [] ∧ Old Z n0 h ∧ h0.size ≤ b1 ∧ Arv Z h b1 kk_b1 .int (1 : Int32) [(.int va)] (.int (0 : Int32)) ∧ Exa Z h b1 "[I" ∧ True
set_option maxRecDepth 65536 in
set_option maxHeartbeats 40000000 in
theorem rm1_4 (l : Launch) (Z : State) (a0 : Array Value) (hw : ∀ d ∈ tables_1, d.before a0 Z = true) (ws : List Jvm.Cond) (va : Int32) (vb : Int32) (vc : Int32) (vd : Int32) (h0 : Heap) (n0 : Nat) (Z0 : n0 ≤ h0.size) (O0 : Old Z n0 h0) :
    MetFree l (⟨"com/example/caprice/caprice/solver/DomainsGatherReasonsPinLaw", "make", "(IIIII)[I"⟩ : MethodName) (head1 (Jvm.Cond.code (⟨"com/example/caprice/caprice/solver/DomainsGatherReasonsPinLaw", "make", "(IIIII)[I"⟩ : MethodName) method_3_code 5 (some (.array .int)) :: ws) ({ frames := 0, cells := 1, slots := 4, locals := 0 } : Room)) (fun a U => a = #[(.int (1 : Int32)), (.int va), (.int vb), (.int vc), (.int vd)] ∧ Z.Warmed39 U.vm ∧ U.heap = h0) (fun _ _ _ _ _ => True) (fun _ U o U' => ∃ v L, o = .returned v ∧ Q1_4 Z  va vb vc vd h0 n0 v U'.heap L ∧ FrameEnd U o U' L ({ frames := 0, cells := 1, slots := 4, locals := 0 } : Room).cells ({ frames := 0, cells := 1, slots := 4, locals := 0 } : Room).slots) := by
  refine MetFree.of_bodySF (plainFor_of_name pn152) hisR ?_
  intro p e s m args below meth c s₁ Bd hml0 hP hK
  obtain ⟨rfl, hZ, hh⟩ := hP
  have hx := Bd.exec
  have hby := Bd.bytes
  have hml : c.maxLocals = 5 := hml0
  have hown : s.vm.findClass "com/example/caprice/caprice/solver/DomainsGatherReasonsPinLaw" = some m.cls := findClass_of_methodNamed Bd.named
  have hnm := (name_of_methodNamed Bd.named Bd.method).1
  have X0 : Stand p l e ({ frames := 0, cells := 1, slots := 4, locals := 0 } : Room) s m #[(.int (1 : Int32)), (.int va), (.int vb), (.int vc), (.int vd)] below meth c s₁ [] 0 0 := Stand.of_body Bd
  have e0 : s₁.heap = h0 := by rw [← hh, Bd.state]; rfl
  have N0 := Fr.nil n0
  have pre0 : ∀ t, Steps p.tables e below (s₁.setTop (mkF m 0 #[.val (.int (1 : Int32)), .val (.int va), .val (.int vb), .val (.int vc), .val (.int vd)] [])) t → Steps p.tables e below (s₁.setTop (entryFrame m #[(.int (1 : Int32)), (.int va), (.int vb), (.int vc), (.int vd)] 5)) t := fun t k => castTop (ef151 m (1 : Int32) va vb vc vd) k
  obtain ⟨T1, h1, k1, X1, e1, E1, A1, B1, st1⟩ := newPE X0 hx hZ (hw _ (List.mem_of_getElem? (i := 4) rfl)) e0 (g := (mkF m 14 #[.val (.int (1 : Int32)), .val (.int va), .val (.int vb), .val (.int vc), .val (.int vd)] [(.int (1 : Int32))])) rfl (hb hby d1_14) rfl (by decide) (cap := 1) (by decide) (by decide) (by decide) (by decide) (ad := "[I") (by decide)
  obtain ⟨b1, gg1⟩ : ∃ z, z = h0.size := ⟨_, rfl⟩
  rw [← gg1] at A1 B1 st1
  have bo_b1 : h0.size ≤ b1 := Nat.le_of_eq gg1.symm
  have g_b1 : n0 ≤ b1 := Nat.le_trans (own_n0 O0) bo_b1
  have sz_b1 : h0.size ≤ b1 := Nat.le_trans (Keep.refl h0 []).1 bo_b1
  have V_b1 : Arv Z h1 b1 k1 .int (1 : Int32) [(.int (0 : Int32))] (.int (0 : Int32)) := (Arv.new A1 (by decide)).pad (pad_rep [] (.int (0 : Int32)) 1)
  have lb_b1 : b1 < h1.size := A1.lt
  have KK1 : Keep h0 h1 [] := (Keep.refl h0 []).ext E1
  have O1 := O0.ext E1
  obtain ⟨ac2, aA2, aq2, aS2, aN2, aH2, aG2⟩ := id V_b1
  obtain ⟨T3, h3, X3, e3, W3, st3⟩ := stI X1 hx hZ e1 aA2 (j := (0 : Int32)) (inb_of aS2 ⟨by decide, by decide⟩) (g := (mkF m 19 #[.val (.int (1 : Int32)), .val (.int va), .val (.int vb), .val (.int vc), .val (.int vd)] [(.int va), (.int (0 : Int32)), (.ref b1), (.ref b1)])) rfl rfl (hb hby d1_19)
  have V_b1_3 : Arv Z h3 b1 k1 .int (1 : Int32) [(.int va)] (.int (0 : Int32)) := Arv.set aA2 aq2 aS2 aN2 aH2 aG2 rfl W3 0 rfl (Nat.le_of_ble_eq_true rfl)
  have N3 := Fr.snoc X3 N0 g_b1
  have O3 := O1.wr W3 g_b1
  have KK3 : Keep h0 h3 [] := KK1.wr W3 (Or.inr sz_b1)
  obtain ⟨fs, hr, hrun, hended, hW, hsame⟩ := X3.leave (v := some (.ref b1)) (fun h => by rw [Bd.returns] at h; cases h)
  refine ⟨_, _, pre0 _ ?_, hrun, hended, _, _, rfl, ?_, ⟨_, rfl⟩, hW, hsame.mono (by decide) (by decide)⟩
  · show Steps p.tables e below (s₁.setTop (mkF m 0 #[.val (.int (1 : Int32)), .val (.int va), .val (.int vb), .val (.int vc), .val (.int vd)] [])) _
    refine XS.iloadN X0.here hx rfl (hb hby d1_0) rfl ?_
    show Steps p.tables e below (s₁.setTop (mkF m 1 #[.val (.int (1 : Int32)), .val (.int va), .val (.int vb), .val (.int vc), .val (.int vd)] [(.int (1 : Int32))])) _
    refine XS.ifYes X0.here hx rfl (pc0 := 1) (pc' := 8) rfl (hb hby d1_1) rfl ((if0 _ _).trans (feq (by decide : ¬ ((1 : Int32) = (0 : Int32)))).2) (by decide) (by decide) ?_
    show Steps p.tables e below (s₁.setTop (mkF m 8 #[.val (.int (1 : Int32)), .val (.int va), .val (.int vb), .val (.int vc), .val (.int vd)] [])) _
    refine XS.iloadN X0.here hx rfl (hb hby d1_8) rfl ?_
    show Steps p.tables e below (s₁.setTop (mkF m 9 #[.val (.int (1 : Int32)), .val (.int va), .val (.int vb), .val (.int vc), .val (.int vd)] [(.int (1 : Int32))])) _
    refine XS.iconst X0.here hx rfl (hb hby d1_9) ?_
    show Steps p.tables e below (s₁.setTop (mkF m 10 #[.val (.int (1 : Int32)), .val (.int va), .val (.int vb), .val (.int vc), .val (.int vd)] [(.int (1 : Int32)), (.int (1 : Int32))])) _
    refine XS.icmpNo X0.here hx rfl (hb hby d1_10) rfl (teq (by decide : (1 : Int32) = (1 : Int32))).2 ?_
    show Steps p.tables e below (s₁.setTop (mkF m 13 #[.val (.int (1 : Int32)), .val (.int va), .val (.int vb), .val (.int vc), .val (.int vd)] [])) _
    refine XS.iconst X0.here hx rfl (hb hby d1_13) ?_
    show Steps p.tables e below (s₁.setTop (mkF m 14 #[.val (.int (1 : Int32)), .val (.int va), .val (.int vb), .val (.int vc), .val (.int vd)] [(.int (1 : Int32))])) _
    refine st1 _ ?_
    show Steps p.tables e below (T1.setTop (mkF m 16 #[.val (.int (1 : Int32)), .val (.int va), .val (.int vb), .val (.int vc), .val (.int vd)] [(.ref b1)])) _
    refine XS.dup X1.here hx rfl (hb hby d1_16) rfl rfl ?_
    show Steps p.tables e below (T1.setTop (mkF m 17 #[.val (.int (1 : Int32)), .val (.int va), .val (.int vb), .val (.int vc), .val (.int vd)] [(.ref b1), (.ref b1)])) _
    refine XS.iconst X1.here hx rfl (hb hby d1_17) ?_
    show Steps p.tables e below (T1.setTop (mkF m 18 #[.val (.int (1 : Int32)), .val (.int va), .val (.int vb), .val (.int vc), .val (.int vd)] [(.int (0 : Int32)), (.ref b1), (.ref b1)])) _
    refine XS.iloadN X1.here hx rfl (hb hby d1_18) rfl ?_
    show Steps p.tables e below (T1.setTop (mkF m 19 #[.val (.int (1 : Int32)), .val (.int va), .val (.int vb), .val (.int vc), .val (.int vd)] [(.int va), (.int (0 : Int32)), (.ref b1), (.ref b1)])) _
    refine st3 _ ?_
    show Steps p.tables e below (T3.setTop (mkF m 20 #[.val (.int (1 : Int32)), .val (.int va), .val (.int vb), .val (.int vc), .val (.int vd)] [(.ref b1)])) _
    jvm_step X3.here [X3.here.top, hx, (hb hby d1_20), X3.method', Bd.returns, Value.isRef, FieldType.isReference]
    first | (intro acts; rw [hr _ acts rfl rfl rfl]) | rw [hr _ _ rfl rfl rfl]
    exact Steps.refl _
  · have eH : (T3.setFrames fs).heap = h3 := e3; rw [eH]; exact ⟨b1, k1, rfl, N3, KK3, O3, sz_b1, V_b1_3, (B1.wr W3), trivial⟩
theorem d1_21 : decode method_3_code 21 = .ok (.iload_n 0, 1) := by decide +kernel
theorem d1_22 : decode method_3_code 22 = .ok (.iconst 2, 1) := by decide +kernel
theorem d1_23 : decode method_3_code 23 = .ok (.if_icmp .ne 15, 3) := by decide +kernel
theorem d1_26 : decode method_3_code 26 = .ok (.iconst 2, 1) := by decide +kernel
theorem d1_27 : decode method_3_code 27 = .ok (.newarray .int, 2) := by decide +kernel
theorem d1_29 : decode method_3_code 29 = .ok (.dup, 1) := by decide +kernel
theorem d1_30 : decode method_3_code 30 = .ok (.iconst 0, 1) := by decide +kernel
theorem d1_31 : decode method_3_code 31 = .ok (.iload_n 1, 1) := by decide +kernel
theorem d1_32 : decode method_3_code 32 = .ok (.iastore, 1) := by decide +kernel
theorem d1_33 : decode method_3_code 33 = .ok (.dup, 1) := by decide +kernel
theorem d1_34 : decode method_3_code 34 = .ok (.iconst 1, 1) := by decide +kernel
theorem d1_35 : decode method_3_code 35 = .ok (.iload_n 2, 1) := by decide +kernel
theorem d1_36 : decode method_3_code 36 = .ok (.iastore, 1) := by decide +kernel
theorem d1_37 : decode method_3_code 37 = .ok (.areturn, 1) := by decide +kernel
def Q1_5 (Z : State) (va : Int32) (vb : Int32) (vc : Int32) (vd : Int32) (h0 : Heap) (n0 : Nat) (v : Option Value) (h : Heap) (L : List Loc) : Prop := ∃ b1 : Addr, ∃ kk_b1 : ClassId, v = some (.ref b1) ∧ Fr n0 L ∧ Keep h0 h [] ∧ Old Z n0 h ∧ h0.size ≤ b1 ∧ Arv Z h b1 kk_b1 .int (2 : Int32) [(.int va), (.int vb)] (.int (0 : Int32)) ∧ Exa Z h b1 "[I" ∧ True
set_option maxRecDepth 65536 in
set_option maxHeartbeats 40000000 in
theorem rm1_5 (l : Launch) (Z : State) (a0 : Array Value) (hw : ∀ d ∈ tables_1, d.before a0 Z = true) (ws : List Jvm.Cond) (va : Int32) (vb : Int32) (vc : Int32) (vd : Int32) (h0 : Heap) (n0 : Nat) (Z0 : n0 ≤ h0.size) (O0 : Old Z n0 h0) :
    MetFree l (⟨"com/example/caprice/caprice/solver/DomainsGatherReasonsPinLaw", "make", "(IIIII)[I"⟩ : MethodName) (head1 (Jvm.Cond.code (⟨"com/example/caprice/caprice/solver/DomainsGatherReasonsPinLaw", "make", "(IIIII)[I"⟩ : MethodName) method_3_code 5 (some (.array .int)) :: ws) ({ frames := 0, cells := 1, slots := 4, locals := 0 } : Room)) (fun a U => a = #[(.int (2 : Int32)), (.int va), (.int vb), (.int vc), (.int vd)] ∧ Z.Warmed39 U.vm ∧ U.heap = h0) (fun _ _ _ _ _ => True) (fun _ U o U' => ∃ v L, o = .returned v ∧ Q1_5 Z  va vb vc vd h0 n0 v U'.heap L ∧ FrameEnd U o U' L ({ frames := 0, cells := 1, slots := 4, locals := 0 } : Room).cells ({ frames := 0, cells := 1, slots := 4, locals := 0 } : Room).slots) := by
  refine MetFree.of_bodySF (plainFor_of_name pn152) hisR ?_
  intro p e s m args below meth c s₁ Bd hml0 hP hK
  obtain ⟨rfl, hZ, hh⟩ := hP
  have hx := Bd.exec
  have hby := Bd.bytes
  have hml : c.maxLocals = 5 := hml0
  have hown : s.vm.findClass "com/example/caprice/caprice/solver/DomainsGatherReasonsPinLaw" = some m.cls := findClass_of_methodNamed Bd.named
  have hnm := (name_of_methodNamed Bd.named Bd.method).1
  have X0 : Stand p l e ({ frames := 0, cells := 1, slots := 4, locals := 0 } : Room) s m #[(.int (2 : Int32)), (.int va), (.int vb), (.int vc), (.int vd)] below meth c s₁ [] 0 0 := Stand.of_body Bd
  have e0 : s₁.heap = h0 := by rw [← hh, Bd.state]; rfl
  have N0 := Fr.nil n0
  have pre0 : ∀ t, Steps p.tables e below (s₁.setTop (mkF m 0 #[.val (.int (2 : Int32)), .val (.int va), .val (.int vb), .val (.int vc), .val (.int vd)] [])) t → Steps p.tables e below (s₁.setTop (entryFrame m #[(.int (2 : Int32)), (.int va), (.int vb), (.int vc), (.int vd)] 5)) t := fun t k => castTop (ef151 m (2 : Int32) va vb vc vd) k
  obtain ⟨T1, h1, k1, X1, e1, E1, A1, B1, st1⟩ := newPE X0 hx hZ (hw _ (List.mem_of_getElem? (i := 4) rfl)) e0 (g := (mkF m 27 #[.val (.int (2 : Int32)), .val (.int va), .val (.int vb), .val (.int vc), .val (.int vd)] [(.int (2 : Int32))])) rfl (hb hby d1_27) rfl (by decide) (cap := 2) (by decide) (by decide) (by decide) (by decide) (ad := "[I") (by decide)
  obtain ⟨b1, gg1⟩ : ∃ z, z = h0.size := ⟨_, rfl⟩
  rw [← gg1] at A1 B1 st1
  have bo_b1 : h0.size ≤ b1 := Nat.le_of_eq gg1.symm
  have g_b1 : n0 ≤ b1 := Nat.le_trans (own_n0 O0) bo_b1
  have sz_b1 : h0.size ≤ b1 := Nat.le_trans (Keep.refl h0 []).1 bo_b1
  have V_b1 : Arv Z h1 b1 k1 .int (2 : Int32) [(.int (0 : Int32)), (.int (0 : Int32))] (.int (0 : Int32)) := (Arv.new A1 (by decide)).pad (pad_rep [] (.int (0 : Int32)) 2)
  have lb_b1 : b1 < h1.size := A1.lt
  have KK1 : Keep h0 h1 [] := (Keep.refl h0 []).ext E1
  have O1 := O0.ext E1
  obtain ⟨ac2, aA2, aq2, aS2, aN2, aH2, aG2⟩ := id V_b1
  obtain ⟨T3, h3, X3, e3, W3, st3⟩ := stI X1 hx hZ e1 aA2 (j := (0 : Int32)) (inb_of aS2 ⟨by decide, by decide⟩) (g := (mkF m 32 #[.val (.int (2 : Int32)), .val (.int va), .val (.int vb), .val (.int vc), .val (.int vd)] [(.int va), (.int (0 : Int32)), (.ref b1), (.ref b1)])) rfl rfl (hb hby d1_32)
  have V_b1_3 : Arv Z h3 b1 k1 .int (2 : Int32) [(.int va), (.int (0 : Int32))] (.int (0 : Int32)) := Arv.set aA2 aq2 aS2 aN2 aH2 aG2 rfl W3 0 rfl (Nat.le_of_ble_eq_true rfl)
  have N3 := Fr.snoc X3 N0 g_b1
  have O3 := O1.wr W3 g_b1
  have KK3 : Keep h0 h3 [] := KK1.wr W3 (Or.inr sz_b1)
  obtain ⟨ac4, aA4, aq4, aS4, aN4, aH4, aG4⟩ := id V_b1_3
  obtain ⟨T5, h5, X5, e5, W5, st5⟩ := stI X3 hx hZ e3 aA4 (j := (1 : Int32)) (inb_of aS4 ⟨by decide, by decide⟩) (g := (mkF m 36 #[.val (.int (2 : Int32)), .val (.int va), .val (.int vb), .val (.int vc), .val (.int vd)] [(.int vb), (.int (1 : Int32)), (.ref b1), (.ref b1)])) rfl rfl (hb hby d1_36)
  have V_b1_5 : Arv Z h5 b1 k1 .int (2 : Int32) [(.int va), (.int vb)] (.int (0 : Int32)) := Arv.set aA4 aq4 aS4 aN4 aH4 aG4 rfl W5 1 rfl (Nat.le_of_ble_eq_true rfl)
  have N5 := Fr.snoc X5 N3 g_b1
  have O5 := O3.wr W5 g_b1
  have KK5 : Keep h0 h5 [] := KK3.wr W5 (Or.inr sz_b1)
  obtain ⟨fs, hr, hrun, hended, hW, hsame⟩ := X5.leave (v := some (.ref b1)) (fun h => by rw [Bd.returns] at h; cases h)
  refine ⟨_, _, pre0 _ ?_, hrun, hended, _, _, rfl, ?_, ⟨_, rfl⟩, hW, hsame.mono (by decide) (by decide)⟩
  · show Steps p.tables e below (s₁.setTop (mkF m 0 #[.val (.int (2 : Int32)), .val (.int va), .val (.int vb), .val (.int vc), .val (.int vd)] [])) _
    refine XS.iloadN X0.here hx rfl (hb hby d1_0) rfl ?_
    show Steps p.tables e below (s₁.setTop (mkF m 1 #[.val (.int (2 : Int32)), .val (.int va), .val (.int vb), .val (.int vc), .val (.int vd)] [(.int (2 : Int32))])) _
    refine XS.ifYes X0.here hx rfl (pc0 := 1) (pc' := 8) rfl (hb hby d1_1) rfl ((if0 _ _).trans (feq (by decide : ¬ ((2 : Int32) = (0 : Int32)))).2) (by decide) (by decide) ?_
    show Steps p.tables e below (s₁.setTop (mkF m 8 #[.val (.int (2 : Int32)), .val (.int va), .val (.int vb), .val (.int vc), .val (.int vd)] [])) _
    refine XS.iloadN X0.here hx rfl (hb hby d1_8) rfl ?_
    show Steps p.tables e below (s₁.setTop (mkF m 9 #[.val (.int (2 : Int32)), .val (.int va), .val (.int vb), .val (.int vc), .val (.int vd)] [(.int (2 : Int32))])) _
    refine XS.iconst X0.here hx rfl (hb hby d1_9) ?_
    show Steps p.tables e below (s₁.setTop (mkF m 10 #[.val (.int (2 : Int32)), .val (.int va), .val (.int vb), .val (.int vc), .val (.int vd)] [(.int (1 : Int32)), (.int (2 : Int32))])) _
    refine XS.icmpYes X0.here hx rfl (pc0 := 10) (pc' := 21) rfl (hb hby d1_10) rfl (feq (by decide : ¬ ((2 : Int32) = (1 : Int32)))).2 (by decide) (by decide) ?_
    show Steps p.tables e below (s₁.setTop (mkF m 21 #[.val (.int (2 : Int32)), .val (.int va), .val (.int vb), .val (.int vc), .val (.int vd)] [])) _
    refine XS.iloadN X0.here hx rfl (hb hby d1_21) rfl ?_
    show Steps p.tables e below (s₁.setTop (mkF m 22 #[.val (.int (2 : Int32)), .val (.int va), .val (.int vb), .val (.int vc), .val (.int vd)] [(.int (2 : Int32))])) _
    refine XS.iconst X0.here hx rfl (hb hby d1_22) ?_
    show Steps p.tables e below (s₁.setTop (mkF m 23 #[.val (.int (2 : Int32)), .val (.int va), .val (.int vb), .val (.int vc), .val (.int vd)] [(.int (2 : Int32)), (.int (2 : Int32))])) _
    refine XS.icmpNo X0.here hx rfl (hb hby d1_23) rfl (teq (by decide : (2 : Int32) = (2 : Int32))).2 ?_
    show Steps p.tables e below (s₁.setTop (mkF m 26 #[.val (.int (2 : Int32)), .val (.int va), .val (.int vb), .val (.int vc), .val (.int vd)] [])) _
    refine XS.iconst X0.here hx rfl (hb hby d1_26) ?_
    show Steps p.tables e below (s₁.setTop (mkF m 27 #[.val (.int (2 : Int32)), .val (.int va), .val (.int vb), .val (.int vc), .val (.int vd)] [(.int (2 : Int32))])) _
    refine st1 _ ?_
    show Steps p.tables e below (T1.setTop (mkF m 29 #[.val (.int (2 : Int32)), .val (.int va), .val (.int vb), .val (.int vc), .val (.int vd)] [(.ref b1)])) _
    refine XS.dup X1.here hx rfl (hb hby d1_29) rfl rfl ?_
    show Steps p.tables e below (T1.setTop (mkF m 30 #[.val (.int (2 : Int32)), .val (.int va), .val (.int vb), .val (.int vc), .val (.int vd)] [(.ref b1), (.ref b1)])) _
    refine XS.iconst X1.here hx rfl (hb hby d1_30) ?_
    show Steps p.tables e below (T1.setTop (mkF m 31 #[.val (.int (2 : Int32)), .val (.int va), .val (.int vb), .val (.int vc), .val (.int vd)] [(.int (0 : Int32)), (.ref b1), (.ref b1)])) _
    refine XS.iloadN X1.here hx rfl (hb hby d1_31) rfl ?_
    show Steps p.tables e below (T1.setTop (mkF m 32 #[.val (.int (2 : Int32)), .val (.int va), .val (.int vb), .val (.int vc), .val (.int vd)] [(.int va), (.int (0 : Int32)), (.ref b1), (.ref b1)])) _
    refine st3 _ ?_
    show Steps p.tables e below (T3.setTop (mkF m 33 #[.val (.int (2 : Int32)), .val (.int va), .val (.int vb), .val (.int vc), .val (.int vd)] [(.ref b1)])) _
    refine XS.dup X3.here hx rfl (hb hby d1_33) rfl rfl ?_
    show Steps p.tables e below (T3.setTop (mkF m 34 #[.val (.int (2 : Int32)), .val (.int va), .val (.int vb), .val (.int vc), .val (.int vd)] [(.ref b1), (.ref b1)])) _
    refine XS.iconst X3.here hx rfl (hb hby d1_34) ?_
    show Steps p.tables e below (T3.setTop (mkF m 35 #[.val (.int (2 : Int32)), .val (.int va), .val (.int vb), .val (.int vc), .val (.int vd)] [(.int (1 : Int32)), (.ref b1), (.ref b1)])) _
    refine XS.iloadN X3.here hx rfl (hb hby d1_35) rfl ?_
    show Steps p.tables e below (T3.setTop (mkF m 36 #[.val (.int (2 : Int32)), .val (.int va), .val (.int vb), .val (.int vc), .val (.int vd)] [(.int vb), (.int (1 : Int32)), (.ref b1), (.ref b1)])) _
    refine st5 _ ?_
    show Steps p.tables e below (T5.setTop (mkF m 37 #[.val (.int (2 : Int32)), .val (.int va), .val (.int vb), .val (.int vc), .val (.int vd)] [(.ref b1)])) _
    jvm_step X5.here [X5.here.top, hx, (hb hby d1_37), X5.method', Bd.returns, Value.isRef, FieldType.isReference]
    first | (intro acts; rw [hr _ acts rfl rfl rfl]) | rw [hr _ _ rfl rfl rfl]
    exact Steps.refl _
  · have eH : (T5.setFrames fs).heap = h5 := e5; rw [eH]; exact ⟨b1, k1, rfl, N5, KK5, O5, sz_b1, V_b1_5, ((B1.wr W3).wr W5), trivial⟩
theorem d1_38 : decode method_3_code 38 = .ok (.iload_n 0, 1) := by decide +kernel
theorem d1_39 : decode method_3_code 39 = .ok (.iconst 3, 1) := by decide +kernel
theorem d1_40 : decode method_3_code 40 = .ok (.if_icmp .ne 19, 3) := by decide +kernel
theorem d1_43 : decode method_3_code 43 = .ok (.iconst 3, 1) := by decide +kernel
theorem d1_44 : decode method_3_code 44 = .ok (.newarray .int, 2) := by decide +kernel
theorem d1_46 : decode method_3_code 46 = .ok (.dup, 1) := by decide +kernel
theorem d1_47 : decode method_3_code 47 = .ok (.iconst 0, 1) := by decide +kernel
theorem d1_48 : decode method_3_code 48 = .ok (.iload_n 1, 1) := by decide +kernel
theorem d1_49 : decode method_3_code 49 = .ok (.iastore, 1) := by decide +kernel
theorem d1_50 : decode method_3_code 50 = .ok (.dup, 1) := by decide +kernel
theorem d1_51 : decode method_3_code 51 = .ok (.iconst 1, 1) := by decide +kernel
theorem d1_52 : decode method_3_code 52 = .ok (.iload_n 2, 1) := by decide +kernel
theorem d1_53 : decode method_3_code 53 = .ok (.iastore, 1) := by decide +kernel
theorem d1_54 : decode method_3_code 54 = .ok (.dup, 1) := by decide +kernel
theorem d1_55 : decode method_3_code 55 = .ok (.iconst 2, 1) := by decide +kernel
theorem d1_56 : decode method_3_code 56 = .ok (.iload_n 3, 1) := by decide +kernel
theorem d1_57 : decode method_3_code 57 = .ok (.iastore, 1) := by decide +kernel
theorem d1_58 : decode method_3_code 58 = .ok (.areturn, 1) := by decide +kernel
def Q1_6 (Z : State) (va : Int32) (vb : Int32) (vc : Int32) (vd : Int32) (h0 : Heap) (n0 : Nat) (v : Option Value) (h : Heap) (L : List Loc) : Prop := ∃ b1 : Addr, ∃ kk_b1 : ClassId, v = some (.ref b1) ∧ Fr n0 L ∧ Keep h0 h [] ∧ Old Z n0 h ∧ h0.size ≤ b1 ∧ Arv Z h b1 kk_b1 .int (3 : Int32) [(.int va), (.int vb), (.int vc)] (.int (0 : Int32)) ∧ Exa Z h b1 "[I" ∧ True
set_option maxRecDepth 65536 in
set_option maxHeartbeats 40000000 in
theorem rm1_6 (l : Launch) (Z : State) (a0 : Array Value) (hw : ∀ d ∈ tables_1, d.before a0 Z = true) (ws : List Jvm.Cond) (va : Int32) (vb : Int32) (vc : Int32) (vd : Int32) (h0 : Heap) (n0 : Nat) (Z0 : n0 ≤ h0.size) (O0 : Old Z n0 h0) :
    MetFree l (⟨"com/example/caprice/caprice/solver/DomainsGatherReasonsPinLaw", "make", "(IIIII)[I"⟩ : MethodName) (head1 (Jvm.Cond.code (⟨"com/example/caprice/caprice/solver/DomainsGatherReasonsPinLaw", "make", "(IIIII)[I"⟩ : MethodName) method_3_code 5 (some (.array .int)) :: ws) ({ frames := 0, cells := 1, slots := 4, locals := 0 } : Room)) (fun a U => a = #[(.int (3 : Int32)), (.int va), (.int vb), (.int vc), (.int vd)] ∧ Z.Warmed39 U.vm ∧ U.heap = h0) (fun _ _ _ _ _ => True) (fun _ U o U' => ∃ v L, o = .returned v ∧ Q1_6 Z  va vb vc vd h0 n0 v U'.heap L ∧ FrameEnd U o U' L ({ frames := 0, cells := 1, slots := 4, locals := 0 } : Room).cells ({ frames := 0, cells := 1, slots := 4, locals := 0 } : Room).slots) := by
  refine MetFree.of_bodySF (plainFor_of_name pn152) hisR ?_
  intro p e s m args below meth c s₁ Bd hml0 hP hK
  obtain ⟨rfl, hZ, hh⟩ := hP
  have hx := Bd.exec
  have hby := Bd.bytes
  have hml : c.maxLocals = 5 := hml0
  have hown : s.vm.findClass "com/example/caprice/caprice/solver/DomainsGatherReasonsPinLaw" = some m.cls := findClass_of_methodNamed Bd.named
  have hnm := (name_of_methodNamed Bd.named Bd.method).1
  have X0 : Stand p l e ({ frames := 0, cells := 1, slots := 4, locals := 0 } : Room) s m #[(.int (3 : Int32)), (.int va), (.int vb), (.int vc), (.int vd)] below meth c s₁ [] 0 0 := Stand.of_body Bd
  have e0 : s₁.heap = h0 := by rw [← hh, Bd.state]; rfl
  have N0 := Fr.nil n0
  have pre0 : ∀ t, Steps p.tables e below (s₁.setTop (mkF m 0 #[.val (.int (3 : Int32)), .val (.int va), .val (.int vb), .val (.int vc), .val (.int vd)] [])) t → Steps p.tables e below (s₁.setTop (entryFrame m #[(.int (3 : Int32)), (.int va), (.int vb), (.int vc), (.int vd)] 5)) t := fun t k => castTop (ef151 m (3 : Int32) va vb vc vd) k
  obtain ⟨T1, h1, k1, X1, e1, E1, A1, B1, st1⟩ := newPE X0 hx hZ (hw _ (List.mem_of_getElem? (i := 4) rfl)) e0 (g := (mkF m 44 #[.val (.int (3 : Int32)), .val (.int va), .val (.int vb), .val (.int vc), .val (.int vd)] [(.int (3 : Int32))])) rfl (hb hby d1_44) rfl (by decide) (cap := 3) (by decide) (by decide) (by decide) (by decide) (ad := "[I") (by decide)
  obtain ⟨b1, gg1⟩ : ∃ z, z = h0.size := ⟨_, rfl⟩
  rw [← gg1] at A1 B1 st1
  have bo_b1 : h0.size ≤ b1 := Nat.le_of_eq gg1.symm
  have g_b1 : n0 ≤ b1 := Nat.le_trans (own_n0 O0) bo_b1
  have sz_b1 : h0.size ≤ b1 := Nat.le_trans (Keep.refl h0 []).1 bo_b1
  have V_b1 : Arv Z h1 b1 k1 .int (3 : Int32) [(.int (0 : Int32)), (.int (0 : Int32)), (.int (0 : Int32))] (.int (0 : Int32)) := (Arv.new A1 (by decide)).pad (pad_rep [] (.int (0 : Int32)) 3)
  have lb_b1 : b1 < h1.size := A1.lt
  have KK1 : Keep h0 h1 [] := (Keep.refl h0 []).ext E1
  have O1 := O0.ext E1
  obtain ⟨ac2, aA2, aq2, aS2, aN2, aH2, aG2⟩ := id V_b1
  obtain ⟨T3, h3, X3, e3, W3, st3⟩ := stI X1 hx hZ e1 aA2 (j := (0 : Int32)) (inb_of aS2 ⟨by decide, by decide⟩) (g := (mkF m 49 #[.val (.int (3 : Int32)), .val (.int va), .val (.int vb), .val (.int vc), .val (.int vd)] [(.int va), (.int (0 : Int32)), (.ref b1), (.ref b1)])) rfl rfl (hb hby d1_49)
  have V_b1_3 : Arv Z h3 b1 k1 .int (3 : Int32) [(.int va), (.int (0 : Int32)), (.int (0 : Int32))] (.int (0 : Int32)) := Arv.set aA2 aq2 aS2 aN2 aH2 aG2 rfl W3 0 rfl (Nat.le_of_ble_eq_true rfl)
  have N3 := Fr.snoc X3 N0 g_b1
  have O3 := O1.wr W3 g_b1
  have KK3 : Keep h0 h3 [] := KK1.wr W3 (Or.inr sz_b1)
  obtain ⟨ac4, aA4, aq4, aS4, aN4, aH4, aG4⟩ := id V_b1_3
  obtain ⟨T5, h5, X5, e5, W5, st5⟩ := stI X3 hx hZ e3 aA4 (j := (1 : Int32)) (inb_of aS4 ⟨by decide, by decide⟩) (g := (mkF m 53 #[.val (.int (3 : Int32)), .val (.int va), .val (.int vb), .val (.int vc), .val (.int vd)] [(.int vb), (.int (1 : Int32)), (.ref b1), (.ref b1)])) rfl rfl (hb hby d1_53)
  have V_b1_5 : Arv Z h5 b1 k1 .int (3 : Int32) [(.int va), (.int vb), (.int (0 : Int32))] (.int (0 : Int32)) := Arv.set aA4 aq4 aS4 aN4 aH4 aG4 rfl W5 1 rfl (Nat.le_of_ble_eq_true rfl)
  have N5 := Fr.snoc X5 N3 g_b1
  have O5 := O3.wr W5 g_b1
  have KK5 : Keep h0 h5 [] := KK3.wr W5 (Or.inr sz_b1)
  obtain ⟨ac6, aA6, aq6, aS6, aN6, aH6, aG6⟩ := id V_b1_5
  obtain ⟨T7, h7, X7, e7, W7, st7⟩ := stI X5 hx hZ e5 aA6 (j := (2 : Int32)) (inb_of aS6 ⟨by decide, by decide⟩) (g := (mkF m 57 #[.val (.int (3 : Int32)), .val (.int va), .val (.int vb), .val (.int vc), .val (.int vd)] [(.int vc), (.int (2 : Int32)), (.ref b1), (.ref b1)])) rfl rfl (hb hby d1_57)
  have V_b1_7 : Arv Z h7 b1 k1 .int (3 : Int32) [(.int va), (.int vb), (.int vc)] (.int (0 : Int32)) := Arv.set aA6 aq6 aS6 aN6 aH6 aG6 rfl W7 2 rfl (Nat.le_of_ble_eq_true rfl)
  have N7 := Fr.snoc X7 N5 g_b1
  have O7 := O5.wr W7 g_b1
  have KK7 : Keep h0 h7 [] := KK5.wr W7 (Or.inr sz_b1)
  have J8 := (((B1.wr W3).wr W5).wr W7)
  obtain ⟨fs, hr, hrun, hended, hW, hsame⟩ := X7.leave (v := some (.ref b1)) (fun h => by rw [Bd.returns] at h; cases h)
  refine ⟨_, _, pre0 _ ?_, hrun, hended, _, _, rfl, ?_, ⟨_, rfl⟩, hW, hsame.mono (by decide) (by decide)⟩
  · show Steps p.tables e below (s₁.setTop (mkF m 0 #[.val (.int (3 : Int32)), .val (.int va), .val (.int vb), .val (.int vc), .val (.int vd)] [])) _
    refine XS.iloadN X0.here hx rfl (hb hby d1_0) rfl ?_
    show Steps p.tables e below (s₁.setTop (mkF m 1 #[.val (.int (3 : Int32)), .val (.int va), .val (.int vb), .val (.int vc), .val (.int vd)] [(.int (3 : Int32))])) _
    refine XS.ifYes X0.here hx rfl (pc0 := 1) (pc' := 8) rfl (hb hby d1_1) rfl ((if0 _ _).trans (feq (by decide : ¬ ((3 : Int32) = (0 : Int32)))).2) (by decide) (by decide) ?_
    show Steps p.tables e below (s₁.setTop (mkF m 8 #[.val (.int (3 : Int32)), .val (.int va), .val (.int vb), .val (.int vc), .val (.int vd)] [])) _
    refine XS.iloadN X0.here hx rfl (hb hby d1_8) rfl ?_
    show Steps p.tables e below (s₁.setTop (mkF m 9 #[.val (.int (3 : Int32)), .val (.int va), .val (.int vb), .val (.int vc), .val (.int vd)] [(.int (3 : Int32))])) _
    refine XS.iconst X0.here hx rfl (hb hby d1_9) ?_
    show Steps p.tables e below (s₁.setTop (mkF m 10 #[.val (.int (3 : Int32)), .val (.int va), .val (.int vb), .val (.int vc), .val (.int vd)] [(.int (1 : Int32)), (.int (3 : Int32))])) _
    refine XS.icmpYes X0.here hx rfl (pc0 := 10) (pc' := 21) rfl (hb hby d1_10) rfl (feq (by decide : ¬ ((3 : Int32) = (1 : Int32)))).2 (by decide) (by decide) ?_
    show Steps p.tables e below (s₁.setTop (mkF m 21 #[.val (.int (3 : Int32)), .val (.int va), .val (.int vb), .val (.int vc), .val (.int vd)] [])) _
    refine XS.iloadN X0.here hx rfl (hb hby d1_21) rfl ?_
    show Steps p.tables e below (s₁.setTop (mkF m 22 #[.val (.int (3 : Int32)), .val (.int va), .val (.int vb), .val (.int vc), .val (.int vd)] [(.int (3 : Int32))])) _
    refine XS.iconst X0.here hx rfl (hb hby d1_22) ?_
    show Steps p.tables e below (s₁.setTop (mkF m 23 #[.val (.int (3 : Int32)), .val (.int va), .val (.int vb), .val (.int vc), .val (.int vd)] [(.int (2 : Int32)), (.int (3 : Int32))])) _
    refine XS.icmpYes X0.here hx rfl (pc0 := 23) (pc' := 38) rfl (hb hby d1_23) rfl (feq (by decide : ¬ ((3 : Int32) = (2 : Int32)))).2 (by decide) (by decide) ?_
    show Steps p.tables e below (s₁.setTop (mkF m 38 #[.val (.int (3 : Int32)), .val (.int va), .val (.int vb), .val (.int vc), .val (.int vd)] [])) _
    refine XS.iloadN X0.here hx rfl (hb hby d1_38) rfl ?_
    show Steps p.tables e below (s₁.setTop (mkF m 39 #[.val (.int (3 : Int32)), .val (.int va), .val (.int vb), .val (.int vc), .val (.int vd)] [(.int (3 : Int32))])) _
    refine XS.iconst X0.here hx rfl (hb hby d1_39) ?_
    show Steps p.tables e below (s₁.setTop (mkF m 40 #[.val (.int (3 : Int32)), .val (.int va), .val (.int vb), .val (.int vc), .val (.int vd)] [(.int (3 : Int32)), (.int (3 : Int32))])) _
    refine XS.icmpNo X0.here hx rfl (hb hby d1_40) rfl (teq (by decide : (3 : Int32) = (3 : Int32))).2 ?_
    show Steps p.tables e below (s₁.setTop (mkF m 43 #[.val (.int (3 : Int32)), .val (.int va), .val (.int vb), .val (.int vc), .val (.int vd)] [])) _
    refine XS.iconst X0.here hx rfl (hb hby d1_43) ?_
    show Steps p.tables e below (s₁.setTop (mkF m 44 #[.val (.int (3 : Int32)), .val (.int va), .val (.int vb), .val (.int vc), .val (.int vd)] [(.int (3 : Int32))])) _
    refine st1 _ ?_
    show Steps p.tables e below (T1.setTop (mkF m 46 #[.val (.int (3 : Int32)), .val (.int va), .val (.int vb), .val (.int vc), .val (.int vd)] [(.ref b1)])) _
    refine XS.dup X1.here hx rfl (hb hby d1_46) rfl rfl ?_
    show Steps p.tables e below (T1.setTop (mkF m 47 #[.val (.int (3 : Int32)), .val (.int va), .val (.int vb), .val (.int vc), .val (.int vd)] [(.ref b1), (.ref b1)])) _
    refine XS.iconst X1.here hx rfl (hb hby d1_47) ?_
    show Steps p.tables e below (T1.setTop (mkF m 48 #[.val (.int (3 : Int32)), .val (.int va), .val (.int vb), .val (.int vc), .val (.int vd)] [(.int (0 : Int32)), (.ref b1), (.ref b1)])) _
    refine XS.iloadN X1.here hx rfl (hb hby d1_48) rfl ?_
    show Steps p.tables e below (T1.setTop (mkF m 49 #[.val (.int (3 : Int32)), .val (.int va), .val (.int vb), .val (.int vc), .val (.int vd)] [(.int va), (.int (0 : Int32)), (.ref b1), (.ref b1)])) _
    refine st3 _ ?_
    show Steps p.tables e below (T3.setTop (mkF m 50 #[.val (.int (3 : Int32)), .val (.int va), .val (.int vb), .val (.int vc), .val (.int vd)] [(.ref b1)])) _
    refine XS.dup X3.here hx rfl (hb hby d1_50) rfl rfl ?_
    show Steps p.tables e below (T3.setTop (mkF m 51 #[.val (.int (3 : Int32)), .val (.int va), .val (.int vb), .val (.int vc), .val (.int vd)] [(.ref b1), (.ref b1)])) _
    refine XS.iconst X3.here hx rfl (hb hby d1_51) ?_
    show Steps p.tables e below (T3.setTop (mkF m 52 #[.val (.int (3 : Int32)), .val (.int va), .val (.int vb), .val (.int vc), .val (.int vd)] [(.int (1 : Int32)), (.ref b1), (.ref b1)])) _
    refine XS.iloadN X3.here hx rfl (hb hby d1_52) rfl ?_
    show Steps p.tables e below (T3.setTop (mkF m 53 #[.val (.int (3 : Int32)), .val (.int va), .val (.int vb), .val (.int vc), .val (.int vd)] [(.int vb), (.int (1 : Int32)), (.ref b1), (.ref b1)])) _
    refine st5 _ ?_
    show Steps p.tables e below (T5.setTop (mkF m 54 #[.val (.int (3 : Int32)), .val (.int va), .val (.int vb), .val (.int vc), .val (.int vd)] [(.ref b1)])) _
    refine XS.dup X5.here hx rfl (hb hby d1_54) rfl rfl ?_
    show Steps p.tables e below (T5.setTop (mkF m 55 #[.val (.int (3 : Int32)), .val (.int va), .val (.int vb), .val (.int vc), .val (.int vd)] [(.ref b1), (.ref b1)])) _
    refine XS.iconst X5.here hx rfl (hb hby d1_55) ?_
    show Steps p.tables e below (T5.setTop (mkF m 56 #[.val (.int (3 : Int32)), .val (.int va), .val (.int vb), .val (.int vc), .val (.int vd)] [(.int (2 : Int32)), (.ref b1), (.ref b1)])) _
    refine XS.iloadN X5.here hx rfl (hb hby d1_56) rfl ?_
    show Steps p.tables e below (T5.setTop (mkF m 57 #[.val (.int (3 : Int32)), .val (.int va), .val (.int vb), .val (.int vc), .val (.int vd)] [(.int vc), (.int (2 : Int32)), (.ref b1), (.ref b1)])) _
    refine st7 _ ?_
    show Steps p.tables e below (T7.setTop (mkF m 58 #[.val (.int (3 : Int32)), .val (.int va), .val (.int vb), .val (.int vc), .val (.int vd)] [(.ref b1)])) _
    jvm_step X7.here [X7.here.top, hx, (hb hby d1_58), X7.method', Bd.returns, Value.isRef, FieldType.isReference]
    first | (intro acts; rw [hr _ acts rfl rfl rfl]) | rw [hr _ _ rfl rfl rfl]
    exact Steps.refl _
  · have eH : (T7.setFrames fs).heap = h7 := e7; rw [eH]; exact ⟨b1, k1, rfl, N7, KK7, O7, sz_b1, V_b1_7, J8, trivial⟩
theorem d1_59 : decode method_3_code 59 = .ok (.iconst 4, 1) := by decide +kernel
theorem d1_60 : decode method_3_code 60 = .ok (.newarray .int, 2) := by decide +kernel
theorem d1_62 : decode method_3_code 62 = .ok (.dup, 1) := by decide +kernel
theorem d1_63 : decode method_3_code 63 = .ok (.iconst 0, 1) := by decide +kernel
theorem d1_64 : decode method_3_code 64 = .ok (.iload_n 1, 1) := by decide +kernel
theorem d1_65 : decode method_3_code 65 = .ok (.iastore, 1) := by decide +kernel
theorem d1_66 : decode method_3_code 66 = .ok (.dup, 1) := by decide +kernel
theorem d1_67 : decode method_3_code 67 = .ok (.iconst 1, 1) := by decide +kernel
theorem d1_68 : decode method_3_code 68 = .ok (.iload_n 2, 1) := by decide +kernel
theorem d1_69 : decode method_3_code 69 = .ok (.iastore, 1) := by decide +kernel
theorem d1_70 : decode method_3_code 70 = .ok (.dup, 1) := by decide +kernel
theorem d1_71 : decode method_3_code 71 = .ok (.iconst 2, 1) := by decide +kernel
theorem d1_72 : decode method_3_code 72 = .ok (.iload_n 3, 1) := by decide +kernel
theorem d1_73 : decode method_3_code 73 = .ok (.iastore, 1) := by decide +kernel
theorem d1_74 : decode method_3_code 74 = .ok (.dup, 1) := by decide +kernel
theorem d1_75 : decode method_3_code 75 = .ok (.iconst 3, 1) := by decide +kernel
theorem d1_76 : decode method_3_code 76 = .ok (.iload 4, 2) := by decide +kernel
theorem d1_78 : decode method_3_code 78 = .ok (.iastore, 1) := by decide +kernel
theorem d1_79 : decode method_3_code 79 = .ok (.areturn, 1) := by decide +kernel
def Q1_7 (Z : State) (va : Int32) (vb : Int32) (vc : Int32) (vd : Int32) (h0 : Heap) (n0 : Nat) (v : Option Value) (h : Heap) (L : List Loc) : Prop := ∃ b1 : Addr, ∃ kk_b1 : ClassId, v = some (.ref b1) ∧ Fr n0 L ∧ Keep h0 h [] ∧ Old Z n0 h ∧ h0.size ≤ b1 ∧ Arv Z h b1 kk_b1 .int (4 : Int32) [(.int va), (.int vb), (.int vc), (.int vd)] (.int (0 : Int32)) ∧ Exa Z h b1 "[I" ∧ True
set_option maxRecDepth 65536 in
set_option maxHeartbeats 40000000 in
theorem rm1_7 (l : Launch) (Z : State) (a0 : Array Value) (hw : ∀ d ∈ tables_1, d.before a0 Z = true) (ws : List Jvm.Cond) (va : Int32) (vb : Int32) (vc : Int32) (vd : Int32) (h0 : Heap) (n0 : Nat) (Z0 : n0 ≤ h0.size) (O0 : Old Z n0 h0) :
    MetFree l (⟨"com/example/caprice/caprice/solver/DomainsGatherReasonsPinLaw", "make", "(IIIII)[I"⟩ : MethodName) (head1 (Jvm.Cond.code (⟨"com/example/caprice/caprice/solver/DomainsGatherReasonsPinLaw", "make", "(IIIII)[I"⟩ : MethodName) method_3_code 5 (some (.array .int)) :: ws) ({ frames := 0, cells := 1, slots := 4, locals := 0 } : Room)) (fun a U => a = #[(.int (4 : Int32)), (.int va), (.int vb), (.int vc), (.int vd)] ∧ Z.Warmed39 U.vm ∧ U.heap = h0) (fun _ _ _ _ _ => True) (fun _ U o U' => ∃ v L, o = .returned v ∧ Q1_7 Z  va vb vc vd h0 n0 v U'.heap L ∧ FrameEnd U o U' L ({ frames := 0, cells := 1, slots := 4, locals := 0 } : Room).cells ({ frames := 0, cells := 1, slots := 4, locals := 0 } : Room).slots) := by
  refine MetFree.of_bodySF (plainFor_of_name pn152) hisR ?_
  intro p e s m args below meth c s₁ Bd hml0 hP hK
  obtain ⟨rfl, hZ, hh⟩ := hP
  have hx := Bd.exec
  have hby := Bd.bytes
  have hml : c.maxLocals = 5 := hml0
  have hown : s.vm.findClass "com/example/caprice/caprice/solver/DomainsGatherReasonsPinLaw" = some m.cls := findClass_of_methodNamed Bd.named
  have hnm := (name_of_methodNamed Bd.named Bd.method).1
  have X0 : Stand p l e ({ frames := 0, cells := 1, slots := 4, locals := 0 } : Room) s m #[(.int (4 : Int32)), (.int va), (.int vb), (.int vc), (.int vd)] below meth c s₁ [] 0 0 := Stand.of_body Bd
  have e0 : s₁.heap = h0 := by rw [← hh, Bd.state]; rfl
  have N0 := Fr.nil n0
  have pre0 : ∀ t, Steps p.tables e below (s₁.setTop (mkF m 0 #[.val (.int (4 : Int32)), .val (.int va), .val (.int vb), .val (.int vc), .val (.int vd)] [])) t → Steps p.tables e below (s₁.setTop (entryFrame m #[(.int (4 : Int32)), (.int va), (.int vb), (.int vc), (.int vd)] 5)) t := fun t k => castTop (ef151 m (4 : Int32) va vb vc vd) k
  obtain ⟨T1, h1, k1, X1, e1, E1, A1, B1, st1⟩ := newPE X0 hx hZ (hw _ (List.mem_of_getElem? (i := 4) rfl)) e0 (g := (mkF m 60 #[.val (.int (4 : Int32)), .val (.int va), .val (.int vb), .val (.int vc), .val (.int vd)] [(.int (4 : Int32))])) rfl (hb hby d1_60) rfl (by decide) (cap := 4) (by decide) (by decide) (by decide) (by decide) (ad := "[I") (by decide)
  obtain ⟨b1, gg1⟩ : ∃ z, z = h0.size := ⟨_, rfl⟩
  rw [← gg1] at A1 B1 st1
  have bo_b1 : h0.size ≤ b1 := Nat.le_of_eq gg1.symm
  have g_b1 : n0 ≤ b1 := Nat.le_trans (own_n0 O0) bo_b1
  have sz_b1 : h0.size ≤ b1 := Nat.le_trans (Keep.refl h0 []).1 bo_b1
  have V_b1 : Arv Z h1 b1 k1 .int (4 : Int32) [(.int (0 : Int32)), (.int (0 : Int32)), (.int (0 : Int32)), (.int (0 : Int32))] (.int (0 : Int32)) := (Arv.new A1 (by decide)).pad (pad_rep [] (.int (0 : Int32)) 4)
  have lb_b1 : b1 < h1.size := A1.lt
  have KK1 : Keep h0 h1 [] := (Keep.refl h0 []).ext E1
  have O1 := O0.ext E1
  obtain ⟨ac2, aA2, aq2, aS2, aN2, aH2, aG2⟩ := id V_b1
  obtain ⟨T3, h3, X3, e3, W3, st3⟩ := stI X1 hx hZ e1 aA2 (j := (0 : Int32)) (inb_of aS2 ⟨by decide, by decide⟩) (g := (mkF m 65 #[.val (.int (4 : Int32)), .val (.int va), .val (.int vb), .val (.int vc), .val (.int vd)] [(.int va), (.int (0 : Int32)), (.ref b1), (.ref b1)])) rfl rfl (hb hby d1_65)
  have V_b1_3 : Arv Z h3 b1 k1 .int (4 : Int32) [(.int va), (.int (0 : Int32)), (.int (0 : Int32)), (.int (0 : Int32))] (.int (0 : Int32)) := Arv.set aA2 aq2 aS2 aN2 aH2 aG2 rfl W3 0 rfl (Nat.le_of_ble_eq_true rfl)
  have N3 := Fr.snoc X3 N0 g_b1
  have O3 := O1.wr W3 g_b1
  have KK3 : Keep h0 h3 [] := KK1.wr W3 (Or.inr sz_b1)
  obtain ⟨ac4, aA4, aq4, aS4, aN4, aH4, aG4⟩ := id V_b1_3
  obtain ⟨T5, h5, X5, e5, W5, st5⟩ := stI X3 hx hZ e3 aA4 (j := (1 : Int32)) (inb_of aS4 ⟨by decide, by decide⟩) (g := (mkF m 69 #[.val (.int (4 : Int32)), .val (.int va), .val (.int vb), .val (.int vc), .val (.int vd)] [(.int vb), (.int (1 : Int32)), (.ref b1), (.ref b1)])) rfl rfl (hb hby d1_69)
  have V_b1_5 : Arv Z h5 b1 k1 .int (4 : Int32) [(.int va), (.int vb), (.int (0 : Int32)), (.int (0 : Int32))] (.int (0 : Int32)) := Arv.set aA4 aq4 aS4 aN4 aH4 aG4 rfl W5 1 rfl (Nat.le_of_ble_eq_true rfl)
  have N5 := Fr.snoc X5 N3 g_b1
  have O5 := O3.wr W5 g_b1
  have KK5 : Keep h0 h5 [] := KK3.wr W5 (Or.inr sz_b1)
  obtain ⟨ac6, aA6, aq6, aS6, aN6, aH6, aG6⟩ := id V_b1_5
  obtain ⟨T7, h7, X7, e7, W7, st7⟩ := stI X5 hx hZ e5 aA6 (j := (2 : Int32)) (inb_of aS6 ⟨by decide, by decide⟩) (g := (mkF m 73 #[.val (.int (4 : Int32)), .val (.int va), .val (.int vb), .val (.int vc), .val (.int vd)] [(.int vc), (.int (2 : Int32)), (.ref b1), (.ref b1)])) rfl rfl (hb hby d1_73)
  have V_b1_7 : Arv Z h7 b1 k1 .int (4 : Int32) [(.int va), (.int vb), (.int vc), (.int (0 : Int32))] (.int (0 : Int32)) := Arv.set aA6 aq6 aS6 aN6 aH6 aG6 rfl W7 2 rfl (Nat.le_of_ble_eq_true rfl)
  have N7 := Fr.snoc X7 N5 g_b1
  have O7 := O5.wr W7 g_b1
  have KK7 : Keep h0 h7 [] := KK5.wr W7 (Or.inr sz_b1)
  obtain ⟨ac8, aA8, aq8, aS8, aN8, aH8, aG8⟩ := id V_b1_7
  obtain ⟨T9, h9, X9, e9, W9, st9⟩ := stI X7 hx hZ e7 aA8 (j := (3 : Int32)) (inb_of aS8 ⟨by decide, by decide⟩) (g := (mkF m 78 #[.val (.int (4 : Int32)), .val (.int va), .val (.int vb), .val (.int vc), .val (.int vd)] [(.int vd), (.int (3 : Int32)), (.ref b1), (.ref b1)])) rfl rfl (hb hby d1_78)
  have V_b1_9 : Arv Z h9 b1 k1 .int (4 : Int32) [(.int va), (.int vb), (.int vc), (.int vd)] (.int (0 : Int32)) := Arv.set aA8 aq8 aS8 aN8 aH8 aG8 rfl W9 3 rfl (Nat.le_of_ble_eq_true rfl)
  have N9 := Fr.snoc X9 N7 g_b1
  have O9 := O7.wr W9 g_b1
  have KK9 : Keep h0 h9 [] := KK7.wr W9 (Or.inr sz_b1)
  have J10 := ((((B1.wr W3).wr W5).wr W7).wr W9)
  obtain ⟨fs, hr, hrun, hended, hW, hsame⟩ := X9.leave (v := some (.ref b1)) (fun h => by rw [Bd.returns] at h; cases h)
  refine ⟨_, _, pre0 _ ?_, hrun, hended, _, _, rfl, ?_, ⟨_, rfl⟩, hW, hsame.mono (by decide) (by decide)⟩
  · show Steps p.tables e below (s₁.setTop (mkF m 0 #[.val (.int (4 : Int32)), .val (.int va), .val (.int vb), .val (.int vc), .val (.int vd)] [])) _
    refine XS.iloadN X0.here hx rfl (hb hby d1_0) rfl ?_
    show Steps p.tables e below (s₁.setTop (mkF m 1 #[.val (.int (4 : Int32)), .val (.int va), .val (.int vb), .val (.int vc), .val (.int vd)] [(.int (4 : Int32))])) _
    refine XS.ifYes X0.here hx rfl (pc0 := 1) (pc' := 8) rfl (hb hby d1_1) rfl ((if0 _ _).trans (feq (by decide : ¬ ((4 : Int32) = (0 : Int32)))).2) (by decide) (by decide) ?_
    show Steps p.tables e below (s₁.setTop (mkF m 8 #[.val (.int (4 : Int32)), .val (.int va), .val (.int vb), .val (.int vc), .val (.int vd)] [])) _
    refine XS.iloadN X0.here hx rfl (hb hby d1_8) rfl ?_
    show Steps p.tables e below (s₁.setTop (mkF m 9 #[.val (.int (4 : Int32)), .val (.int va), .val (.int vb), .val (.int vc), .val (.int vd)] [(.int (4 : Int32))])) _
    refine XS.iconst X0.here hx rfl (hb hby d1_9) ?_
    show Steps p.tables e below (s₁.setTop (mkF m 10 #[.val (.int (4 : Int32)), .val (.int va), .val (.int vb), .val (.int vc), .val (.int vd)] [(.int (1 : Int32)), (.int (4 : Int32))])) _
    refine XS.icmpYes X0.here hx rfl (pc0 := 10) (pc' := 21) rfl (hb hby d1_10) rfl (feq (by decide : ¬ ((4 : Int32) = (1 : Int32)))).2 (by decide) (by decide) ?_
    show Steps p.tables e below (s₁.setTop (mkF m 21 #[.val (.int (4 : Int32)), .val (.int va), .val (.int vb), .val (.int vc), .val (.int vd)] [])) _
    refine XS.iloadN X0.here hx rfl (hb hby d1_21) rfl ?_
    show Steps p.tables e below (s₁.setTop (mkF m 22 #[.val (.int (4 : Int32)), .val (.int va), .val (.int vb), .val (.int vc), .val (.int vd)] [(.int (4 : Int32))])) _
    refine XS.iconst X0.here hx rfl (hb hby d1_22) ?_
    show Steps p.tables e below (s₁.setTop (mkF m 23 #[.val (.int (4 : Int32)), .val (.int va), .val (.int vb), .val (.int vc), .val (.int vd)] [(.int (2 : Int32)), (.int (4 : Int32))])) _
    refine XS.icmpYes X0.here hx rfl (pc0 := 23) (pc' := 38) rfl (hb hby d1_23) rfl (feq (by decide : ¬ ((4 : Int32) = (2 : Int32)))).2 (by decide) (by decide) ?_
    show Steps p.tables e below (s₁.setTop (mkF m 38 #[.val (.int (4 : Int32)), .val (.int va), .val (.int vb), .val (.int vc), .val (.int vd)] [])) _
    refine XS.iloadN X0.here hx rfl (hb hby d1_38) rfl ?_
    show Steps p.tables e below (s₁.setTop (mkF m 39 #[.val (.int (4 : Int32)), .val (.int va), .val (.int vb), .val (.int vc), .val (.int vd)] [(.int (4 : Int32))])) _
    refine XS.iconst X0.here hx rfl (hb hby d1_39) ?_
    show Steps p.tables e below (s₁.setTop (mkF m 40 #[.val (.int (4 : Int32)), .val (.int va), .val (.int vb), .val (.int vc), .val (.int vd)] [(.int (3 : Int32)), (.int (4 : Int32))])) _
    refine XS.icmpYes X0.here hx rfl (pc0 := 40) (pc' := 59) rfl (hb hby d1_40) rfl (feq (by decide : ¬ ((4 : Int32) = (3 : Int32)))).2 (by decide) (by decide) ?_
    show Steps p.tables e below (s₁.setTop (mkF m 59 #[.val (.int (4 : Int32)), .val (.int va), .val (.int vb), .val (.int vc), .val (.int vd)] [])) _
    refine XS.iconst X0.here hx rfl (hb hby d1_59) ?_
    show Steps p.tables e below (s₁.setTop (mkF m 60 #[.val (.int (4 : Int32)), .val (.int va), .val (.int vb), .val (.int vc), .val (.int vd)] [(.int (4 : Int32))])) _
    refine st1 _ ?_
    show Steps p.tables e below (T1.setTop (mkF m 62 #[.val (.int (4 : Int32)), .val (.int va), .val (.int vb), .val (.int vc), .val (.int vd)] [(.ref b1)])) _
    refine XS.dup X1.here hx rfl (hb hby d1_62) rfl rfl ?_
    show Steps p.tables e below (T1.setTop (mkF m 63 #[.val (.int (4 : Int32)), .val (.int va), .val (.int vb), .val (.int vc), .val (.int vd)] [(.ref b1), (.ref b1)])) _
    refine XS.iconst X1.here hx rfl (hb hby d1_63) ?_
    show Steps p.tables e below (T1.setTop (mkF m 64 #[.val (.int (4 : Int32)), .val (.int va), .val (.int vb), .val (.int vc), .val (.int vd)] [(.int (0 : Int32)), (.ref b1), (.ref b1)])) _
    refine XS.iloadN X1.here hx rfl (hb hby d1_64) rfl ?_
    show Steps p.tables e below (T1.setTop (mkF m 65 #[.val (.int (4 : Int32)), .val (.int va), .val (.int vb), .val (.int vc), .val (.int vd)] [(.int va), (.int (0 : Int32)), (.ref b1), (.ref b1)])) _
    refine st3 _ ?_
    show Steps p.tables e below (T3.setTop (mkF m 66 #[.val (.int (4 : Int32)), .val (.int va), .val (.int vb), .val (.int vc), .val (.int vd)] [(.ref b1)])) _
    refine XS.dup X3.here hx rfl (hb hby d1_66) rfl rfl ?_
    show Steps p.tables e below (T3.setTop (mkF m 67 #[.val (.int (4 : Int32)), .val (.int va), .val (.int vb), .val (.int vc), .val (.int vd)] [(.ref b1), (.ref b1)])) _
    refine XS.iconst X3.here hx rfl (hb hby d1_67) ?_
    show Steps p.tables e below (T3.setTop (mkF m 68 #[.val (.int (4 : Int32)), .val (.int va), .val (.int vb), .val (.int vc), .val (.int vd)] [(.int (1 : Int32)), (.ref b1), (.ref b1)])) _
    refine XS.iloadN X3.here hx rfl (hb hby d1_68) rfl ?_
    show Steps p.tables e below (T3.setTop (mkF m 69 #[.val (.int (4 : Int32)), .val (.int va), .val (.int vb), .val (.int vc), .val (.int vd)] [(.int vb), (.int (1 : Int32)), (.ref b1), (.ref b1)])) _
    refine st5 _ ?_
    show Steps p.tables e below (T5.setTop (mkF m 70 #[.val (.int (4 : Int32)), .val (.int va), .val (.int vb), .val (.int vc), .val (.int vd)] [(.ref b1)])) _
    refine XS.dup X5.here hx rfl (hb hby d1_70) rfl rfl ?_
    show Steps p.tables e below (T5.setTop (mkF m 71 #[.val (.int (4 : Int32)), .val (.int va), .val (.int vb), .val (.int vc), .val (.int vd)] [(.ref b1), (.ref b1)])) _
    refine XS.iconst X5.here hx rfl (hb hby d1_71) ?_
    show Steps p.tables e below (T5.setTop (mkF m 72 #[.val (.int (4 : Int32)), .val (.int va), .val (.int vb), .val (.int vc), .val (.int vd)] [(.int (2 : Int32)), (.ref b1), (.ref b1)])) _
    refine XS.iloadN X5.here hx rfl (hb hby d1_72) rfl ?_
    show Steps p.tables e below (T5.setTop (mkF m 73 #[.val (.int (4 : Int32)), .val (.int va), .val (.int vb), .val (.int vc), .val (.int vd)] [(.int vc), (.int (2 : Int32)), (.ref b1), (.ref b1)])) _
    refine st7 _ ?_
    show Steps p.tables e below (T7.setTop (mkF m 74 #[.val (.int (4 : Int32)), .val (.int va), .val (.int vb), .val (.int vc), .val (.int vd)] [(.ref b1)])) _
    refine XS.dup X7.here hx rfl (hb hby d1_74) rfl rfl ?_
    show Steps p.tables e below (T7.setTop (mkF m 75 #[.val (.int (4 : Int32)), .val (.int va), .val (.int vb), .val (.int vc), .val (.int vd)] [(.ref b1), (.ref b1)])) _
    refine XS.iconst X7.here hx rfl (hb hby d1_75) ?_
    show Steps p.tables e below (T7.setTop (mkF m 76 #[.val (.int (4 : Int32)), .val (.int va), .val (.int vb), .val (.int vc), .val (.int vd)] [(.int (3 : Int32)), (.ref b1), (.ref b1)])) _
    refine XS.iload X7.here hx rfl (hb hby d1_76) rfl ?_
    show Steps p.tables e below (T7.setTop (mkF m 78 #[.val (.int (4 : Int32)), .val (.int va), .val (.int vb), .val (.int vc), .val (.int vd)] [(.int vd), (.int (3 : Int32)), (.ref b1), (.ref b1)])) _
    refine st9 _ ?_
    show Steps p.tables e below (T9.setTop (mkF m 79 #[.val (.int (4 : Int32)), .val (.int va), .val (.int vb), .val (.int vc), .val (.int vd)] [(.ref b1)])) _
    jvm_step X9.here [X9.here.top, hx, (hb hby d1_79), X9.method', Bd.returns, Value.isRef, FieldType.isReference]
    first | (intro acts; rw [hr _ acts rfl rfl rfl]) | rw [hr _ _ rfl rfl rfl]
    exact Steps.refl _
  · have eH : (T9.setFrames fs).heap = h9 := e9; rw [eH]; exact ⟨b1, k1, rfl, N9, KK9, O9, sz_b1, V_b1_9, J10, trivial⟩
theorem d9_0 : decode method_4_code 0 = .ok (.iconst 0, 1) := by decide +kernel
theorem d9_1 : decode method_4_code 1 = .ok (.istore 5, 2) := by decide +kernel
theorem d9_3 : decode method_4_code 3 = .ok (.iload_n 0, 1) := by decide +kernel
theorem d9_4 : decode method_4_code 4 = .ok (.ifCond .le 11, 3) := by decide +kernel
theorem d9_15 : decode method_4_code 15 = .ok (.iload_n 0, 1) := by decide +kernel
theorem d9_16 : decode method_4_code 16 = .ok (.iconst 1, 1) := by decide +kernel
theorem d9_17 : decode method_4_code 17 = .ok (.if_icmp .le 11, 3) := by decide +kernel
theorem d9_28 : decode method_4_code 28 = .ok (.iload_n 0, 1) := by decide +kernel
theorem d9_29 : decode method_4_code 29 = .ok (.iconst 2, 1) := by decide +kernel
theorem d9_30 : decode method_4_code 30 = .ok (.if_icmp .le 11, 3) := by decide +kernel
theorem d9_41 : decode method_4_code 41 = .ok (.iload_n 0, 1) := by decide +kernel
theorem d9_42 : decode method_4_code 42 = .ok (.iconst 3, 1) := by decide +kernel
theorem d9_43 : decode method_4_code 43 = .ok (.if_icmp .le 12, 3) := by decide +kernel
theorem d9_55 : decode method_4_code 55 = .ok (.iload 5, 2) := by decide +kernel
theorem d9_57 : decode method_4_code 57 = .ok (.ireturn, 1) := by decide +kernel
theorem ef234 (m : MethodId) (x0 : Int32) (x1 : Int32) (x2 : Int32) (x3 : Int32) (x4 : Int32) : entryFrame m #[(.int x0), (.int x1), (.int x2), (.int x3), (.int x4)] 6 = mkF m 0 #[.val (.int x0), .val (.int x1), .val (.int x2), .val (.int x3), .val (.int x4), .unset] [] := by first | (simp [entryFrame, mkF, argsToLocals, Value.category]; done) | rfl
def Q9_8 (Z : State) (va : Int32) (vb : Int32) (vc : Int32) (vd : Int32) (h0 : Heap) (n0 : Nat) (v : Option Value) (h : Heap) (L : List Loc) : Prop := v = some (.int (0 : Int32)) ∧ Fr n0 L ∧ h = h0
set_option maxRecDepth 65536 in
set_option maxHeartbeats 40000000 in
theorem rm9_8 (l : Launch) (Z : State) (a0 : Array Value) (hw : ∀ d ∈ tables_1, d.before a0 Z = true) (ws : List Jvm.Cond) (va : Int32) (vb : Int32) (vc : Int32) (vd : Int32) (h0 : Heap) (n0 : Nat) (Z0 : n0 ≤ h0.size) (O0 : Old Z n0 h0) :
    MetFree l (⟨"com/example/caprice/caprice/solver/DomainsGatherReasonsPinLaw", "bits", "(IIIII)I"⟩ : MethodName) (head1 (Jvm.Cond.code (⟨"com/example/caprice/caprice/solver/DomainsGatherReasonsPinLaw", "bits", "(IIIII)I"⟩ : MethodName) method_4_code 6 (some .int) :: ws) ({ frames := 0, cells := 0, slots := 0, locals := 0 } : Room)) (fun a U => a = #[(.int (0 : Int32)), (.int va), (.int vb), (.int vc), (.int vd)] ∧ Z.Warmed39 U.vm ∧ U.heap = h0) (fun _ _ _ _ _ => True) (fun _ U o U' => ∃ v L, o = .returned v ∧ Q9_8 Z  va vb vc vd h0 n0 v U'.heap L ∧ FrameEnd U o U' L ({ frames := 0, cells := 0, slots := 0, locals := 0 } : Room).cells ({ frames := 0, cells := 0, slots := 0, locals := 0 } : Room).slots) := by
  refine MetFree.of_bodySF (plainFor_of_name pn152) hisR ?_
  intro p e s m args below meth c s₁ Bd hml0 hP hK
  obtain ⟨rfl, hZ, hh⟩ := hP
  have hx := Bd.exec
  have hby := Bd.bytes
  have hml : c.maxLocals = 6 := hml0
  have hown : s.vm.findClass "com/example/caprice/caprice/solver/DomainsGatherReasonsPinLaw" = some m.cls := findClass_of_methodNamed Bd.named
  have hnm := (name_of_methodNamed Bd.named Bd.method).1
  have X0 : Stand p l e ({ frames := 0, cells := 0, slots := 0, locals := 0 } : Room) s m #[(.int (0 : Int32)), (.int va), (.int vb), (.int vc), (.int vd)] below meth c s₁ [] 0 0 := Stand.of_body Bd
  have e0 : s₁.heap = h0 := by rw [← hh, Bd.state]; rfl
  have N0 := Fr.nil n0
  have pre0 : ∀ t, Steps p.tables e below (s₁.setTop (mkF m 0 #[.val (.int (0 : Int32)), .val (.int va), .val (.int vb), .val (.int vc), .val (.int vd), .unset] [])) t → Steps p.tables e below (s₁.setTop (entryFrame m #[(.int (0 : Int32)), (.int va), (.int vb), (.int vc), (.int vd)] 6)) t := fun t k => castTop (ef234 m (0 : Int32) va vb vc vd) k
  obtain ⟨fs, hr, hrun, hended, hW, hsame⟩ := X0.leave (v := some (.int (0 : Int32))) (fun h => by rw [Bd.returns] at h; cases h)
  refine ⟨_, _, pre0 _ ?_, hrun, hended, _, _, rfl, ?_, ⟨_, rfl⟩, hW, hsame.mono (by decide) (by decide)⟩
  · show Steps p.tables e below (s₁.setTop (mkF m 0 #[.val (.int (0 : Int32)), .val (.int va), .val (.int vb), .val (.int vc), .val (.int vd), .unset] [])) _
    refine XS.iconst X0.here hx rfl (hb hby d9_0) ?_
    show Steps p.tables e below (s₁.setTop (mkF m 1 #[.val (.int (0 : Int32)), .val (.int va), .val (.int vb), .val (.int vc), .val (.int vd), .unset] [(.int (0 : Int32))])) _
    refine XS.istore X0.here hx rfl (hb hby d9_1) rfl (l' := #[.val (.int (0 : Int32)), .val (.int va), .val (.int vb), .val (.int vc), .val (.int vd), .val (.int (0 : Int32))]) rfl ?_
    show Steps p.tables e below (s₁.setTop (mkF m 3 #[.val (.int (0 : Int32)), .val (.int va), .val (.int vb), .val (.int vc), .val (.int vd), .val (.int (0 : Int32))] [])) _
    refine XS.iloadN X0.here hx rfl (hb hby d9_3) rfl ?_
    show Steps p.tables e below (s₁.setTop (mkF m 4 #[.val (.int (0 : Int32)), .val (.int va), .val (.int vb), .val (.int vc), .val (.int vd), .val (.int (0 : Int32))] [(.int (0 : Int32))])) _
    refine XS.ifYes X0.here hx rfl (pc0 := 4) (pc' := 15) rfl (hb hby d9_4) rfl ((if0 _ _).trans (flt (by decide : ¬ ((0 : Int32) < (0 : Int32)))).2.2.2) (by decide) (by decide) ?_
    show Steps p.tables e below (s₁.setTop (mkF m 15 #[.val (.int (0 : Int32)), .val (.int va), .val (.int vb), .val (.int vc), .val (.int vd), .val (.int (0 : Int32))] [])) _
    refine XS.iloadN X0.here hx rfl (hb hby d9_15) rfl ?_
    show Steps p.tables e below (s₁.setTop (mkF m 16 #[.val (.int (0 : Int32)), .val (.int va), .val (.int vb), .val (.int vc), .val (.int vd), .val (.int (0 : Int32))] [(.int (0 : Int32))])) _
    refine XS.iconst X0.here hx rfl (hb hby d9_16) ?_
    show Steps p.tables e below (s₁.setTop (mkF m 17 #[.val (.int (0 : Int32)), .val (.int va), .val (.int vb), .val (.int vc), .val (.int vd), .val (.int (0 : Int32))] [(.int (1 : Int32)), (.int (0 : Int32))])) _
    refine XS.icmpYes X0.here hx rfl (pc0 := 17) (pc' := 28) rfl (hb hby d9_17) rfl (flt (by decide : ¬ ((1 : Int32) < (0 : Int32)))).2.2.2 (by decide) (by decide) ?_
    show Steps p.tables e below (s₁.setTop (mkF m 28 #[.val (.int (0 : Int32)), .val (.int va), .val (.int vb), .val (.int vc), .val (.int vd), .val (.int (0 : Int32))] [])) _
    refine XS.iloadN X0.here hx rfl (hb hby d9_28) rfl ?_
    show Steps p.tables e below (s₁.setTop (mkF m 29 #[.val (.int (0 : Int32)), .val (.int va), .val (.int vb), .val (.int vc), .val (.int vd), .val (.int (0 : Int32))] [(.int (0 : Int32))])) _
    refine XS.iconst X0.here hx rfl (hb hby d9_29) ?_
    show Steps p.tables e below (s₁.setTop (mkF m 30 #[.val (.int (0 : Int32)), .val (.int va), .val (.int vb), .val (.int vc), .val (.int vd), .val (.int (0 : Int32))] [(.int (2 : Int32)), (.int (0 : Int32))])) _
    refine XS.icmpYes X0.here hx rfl (pc0 := 30) (pc' := 41) rfl (hb hby d9_30) rfl (flt (by decide : ¬ ((2 : Int32) < (0 : Int32)))).2.2.2 (by decide) (by decide) ?_
    show Steps p.tables e below (s₁.setTop (mkF m 41 #[.val (.int (0 : Int32)), .val (.int va), .val (.int vb), .val (.int vc), .val (.int vd), .val (.int (0 : Int32))] [])) _
    refine XS.iloadN X0.here hx rfl (hb hby d9_41) rfl ?_
    show Steps p.tables e below (s₁.setTop (mkF m 42 #[.val (.int (0 : Int32)), .val (.int va), .val (.int vb), .val (.int vc), .val (.int vd), .val (.int (0 : Int32))] [(.int (0 : Int32))])) _
    refine XS.iconst X0.here hx rfl (hb hby d9_42) ?_
    show Steps p.tables e below (s₁.setTop (mkF m 43 #[.val (.int (0 : Int32)), .val (.int va), .val (.int vb), .val (.int vc), .val (.int vd), .val (.int (0 : Int32))] [(.int (3 : Int32)), (.int (0 : Int32))])) _
    refine XS.icmpYes X0.here hx rfl (pc0 := 43) (pc' := 55) rfl (hb hby d9_43) rfl (flt (by decide : ¬ ((3 : Int32) < (0 : Int32)))).2.2.2 (by decide) (by decide) ?_
    show Steps p.tables e below (s₁.setTop (mkF m 55 #[.val (.int (0 : Int32)), .val (.int va), .val (.int vb), .val (.int vc), .val (.int vd), .val (.int (0 : Int32))] [])) _
    refine XS.iload X0.here hx rfl (hb hby d9_55) rfl ?_
    show Steps p.tables e below (s₁.setTop (mkF m 57 #[.val (.int (0 : Int32)), .val (.int va), .val (.int vb), .val (.int vc), .val (.int vd), .val (.int (0 : Int32))] [(.int (0 : Int32))])) _
    exact Jvm.RoadKit.retI X0 hx Bd.returns (hb hby d9_57) hr
  · exact ⟨rfl, N0, e0⟩
theorem d9_7 : decode method_4_code 7 = .ok (.iload 5, 2) := by decide +kernel
theorem d9_9 : decode method_4_code 9 = .ok (.iconst 1, 1) := by decide +kernel
theorem d9_10 : decode method_4_code 10 = .ok (.iload_n 1, 1) := by decide +kernel
theorem d9_11 : decode method_4_code 11 = .ok (.ishl, 1) := by decide +kernel
theorem d9_12 : decode method_4_code 12 = .ok (.ior, 1) := by decide +kernel
theorem d9_13 : decode method_4_code 13 = .ok (.istore 5, 2) := by decide +kernel
def Q9_9 (Z : State) (va : Int32) (vb : Int32) (vc : Int32) (vd : Int32) (h0 : Heap) (n0 : Nat) (v : Option Value) (h : Heap) (L : List Loc) : Prop := v = some (.int ((0 : Int32) ||| ((1 : Int32) <<< (va &&& 31)))) ∧ Fr n0 L ∧ h = h0
set_option maxRecDepth 65536 in
set_option maxHeartbeats 40000000 in
theorem rm9_9 (l : Launch) (Z : State) (a0 : Array Value) (hw : ∀ d ∈ tables_1, d.before a0 Z = true) (ws : List Jvm.Cond) (va : Int32) (vb : Int32) (vc : Int32) (vd : Int32) (h0 : Heap) (n0 : Nat) (Z0 : n0 ≤ h0.size) (O0 : Old Z n0 h0) :
    MetFree l (⟨"com/example/caprice/caprice/solver/DomainsGatherReasonsPinLaw", "bits", "(IIIII)I"⟩ : MethodName) (head1 (Jvm.Cond.code (⟨"com/example/caprice/caprice/solver/DomainsGatherReasonsPinLaw", "bits", "(IIIII)I"⟩ : MethodName) method_4_code 6 (some .int) :: ws) ({ frames := 0, cells := 0, slots := 0, locals := 0 } : Room)) (fun a U => a = #[(.int (1 : Int32)), (.int va), (.int vb), (.int vc), (.int vd)] ∧ Z.Warmed39 U.vm ∧ U.heap = h0) (fun _ _ _ _ _ => True) (fun _ U o U' => ∃ v L, o = .returned v ∧ Q9_9 Z  va vb vc vd h0 n0 v U'.heap L ∧ FrameEnd U o U' L ({ frames := 0, cells := 0, slots := 0, locals := 0 } : Room).cells ({ frames := 0, cells := 0, slots := 0, locals := 0 } : Room).slots) := by
  refine MetFree.of_bodySF (plainFor_of_name pn152) hisR ?_
  intro p e s m args below meth c s₁ Bd hml0 hP hK
  obtain ⟨rfl, hZ, hh⟩ := hP
  have hx := Bd.exec
  have hby := Bd.bytes
  have hml : c.maxLocals = 6 := hml0
  have hown : s.vm.findClass "com/example/caprice/caprice/solver/DomainsGatherReasonsPinLaw" = some m.cls := findClass_of_methodNamed Bd.named
  have hnm := (name_of_methodNamed Bd.named Bd.method).1
  have X0 : Stand p l e ({ frames := 0, cells := 0, slots := 0, locals := 0 } : Room) s m #[(.int (1 : Int32)), (.int va), (.int vb), (.int vc), (.int vd)] below meth c s₁ [] 0 0 := Stand.of_body Bd
  have e0 : s₁.heap = h0 := by rw [← hh, Bd.state]; rfl
  have N0 := Fr.nil n0
  have pre0 : ∀ t, Steps p.tables e below (s₁.setTop (mkF m 0 #[.val (.int (1 : Int32)), .val (.int va), .val (.int vb), .val (.int vc), .val (.int vd), .unset] [])) t → Steps p.tables e below (s₁.setTop (entryFrame m #[(.int (1 : Int32)), (.int va), (.int vb), (.int vc), (.int vd)] 6)) t := fun t k => castTop (ef234 m (1 : Int32) va vb vc vd) k
  obtain ⟨fs, hr, hrun, hended, hW, hsame⟩ := X0.leave (v := some (.int ((0 : Int32) ||| ((1 : Int32) <<< (va &&& 31))))) (fun h => by rw [Bd.returns] at h; cases h)
  refine ⟨_, _, pre0 _ ?_, hrun, hended, _, _, rfl, ?_, ⟨_, rfl⟩, hW, hsame.mono (by decide) (by decide)⟩
  · show Steps p.tables e below (s₁.setTop (mkF m 0 #[.val (.int (1 : Int32)), .val (.int va), .val (.int vb), .val (.int vc), .val (.int vd), .unset] [])) _
    refine XS.iconst X0.here hx rfl (hb hby d9_0) ?_
    show Steps p.tables e below (s₁.setTop (mkF m 1 #[.val (.int (1 : Int32)), .val (.int va), .val (.int vb), .val (.int vc), .val (.int vd), .unset] [(.int (0 : Int32))])) _
    refine XS.istore X0.here hx rfl (hb hby d9_1) rfl (l' := #[.val (.int (1 : Int32)), .val (.int va), .val (.int vb), .val (.int vc), .val (.int vd), .val (.int (0 : Int32))]) rfl ?_
    show Steps p.tables e below (s₁.setTop (mkF m 3 #[.val (.int (1 : Int32)), .val (.int va), .val (.int vb), .val (.int vc), .val (.int vd), .val (.int (0 : Int32))] [])) _
    refine XS.iloadN X0.here hx rfl (hb hby d9_3) rfl ?_
    show Steps p.tables e below (s₁.setTop (mkF m 4 #[.val (.int (1 : Int32)), .val (.int va), .val (.int vb), .val (.int vc), .val (.int vd), .val (.int (0 : Int32))] [(.int (1 : Int32))])) _
    refine XS.ifNo X0.here hx rfl (hb hby d9_4) rfl ((if0 _ _).trans (tlt (by decide : (0 : Int32) < (1 : Int32))).2.2.2) ?_
    show Steps p.tables e below (s₁.setTop (mkF m 7 #[.val (.int (1 : Int32)), .val (.int va), .val (.int vb), .val (.int vc), .val (.int vd), .val (.int (0 : Int32))] [])) _
    refine XS.iload X0.here hx rfl (hb hby d9_7) rfl ?_
    show Steps p.tables e below (s₁.setTop (mkF m 9 #[.val (.int (1 : Int32)), .val (.int va), .val (.int vb), .val (.int vc), .val (.int vd), .val (.int (0 : Int32))] [(.int (0 : Int32))])) _
    refine XS.iconst X0.here hx rfl (hb hby d9_9) ?_
    show Steps p.tables e below (s₁.setTop (mkF m 10 #[.val (.int (1 : Int32)), .val (.int va), .val (.int vb), .val (.int vc), .val (.int vd), .val (.int (0 : Int32))] [(.int (1 : Int32)), (.int (0 : Int32))])) _
    refine XS.iloadN X0.here hx rfl (hb hby d9_10) rfl ?_
    show Steps p.tables e below (s₁.setTop (mkF m 11 #[.val (.int (1 : Int32)), .val (.int va), .val (.int vb), .val (.int vc), .val (.int vd), .val (.int (0 : Int32))] [(.int va), (.int (1 : Int32)), (.int (0 : Int32))])) _
    refine XS.ishl X0.here hx rfl (hb hby d9_11) rfl ?_
    show Steps p.tables e below (s₁.setTop (mkF m 12 #[.val (.int (1 : Int32)), .val (.int va), .val (.int vb), .val (.int vc), .val (.int vd), .val (.int (0 : Int32))] [(.int ((1 : Int32) <<< (va &&& 31))), (.int (0 : Int32))])) _
    refine XS.ior X0.here hx rfl (hb hby d9_12) rfl ?_
    show Steps p.tables e below (s₁.setTop (mkF m 13 #[.val (.int (1 : Int32)), .val (.int va), .val (.int vb), .val (.int vc), .val (.int vd), .val (.int (0 : Int32))] [(.int ((0 : Int32) ||| ((1 : Int32) <<< (va &&& 31))))])) _
    refine XS.istore X0.here hx rfl (hb hby d9_13) rfl (l' := #[.val (.int (1 : Int32)), .val (.int va), .val (.int vb), .val (.int vc), .val (.int vd), .val (.int ((0 : Int32) ||| ((1 : Int32) <<< (va &&& 31))))]) rfl ?_
    show Steps p.tables e below (s₁.setTop (mkF m 15 #[.val (.int (1 : Int32)), .val (.int va), .val (.int vb), .val (.int vc), .val (.int vd), .val (.int ((0 : Int32) ||| ((1 : Int32) <<< (va &&& 31))))] [])) _
    refine XS.iloadN X0.here hx rfl (hb hby d9_15) rfl ?_
    show Steps p.tables e below (s₁.setTop (mkF m 16 #[.val (.int (1 : Int32)), .val (.int va), .val (.int vb), .val (.int vc), .val (.int vd), .val (.int ((0 : Int32) ||| ((1 : Int32) <<< (va &&& 31))))] [(.int (1 : Int32))])) _
    refine XS.iconst X0.here hx rfl (hb hby d9_16) ?_
    show Steps p.tables e below (s₁.setTop (mkF m 17 #[.val (.int (1 : Int32)), .val (.int va), .val (.int vb), .val (.int vc), .val (.int vd), .val (.int ((0 : Int32) ||| ((1 : Int32) <<< (va &&& 31))))] [(.int (1 : Int32)), (.int (1 : Int32))])) _
    refine XS.icmpYes X0.here hx rfl (pc0 := 17) (pc' := 28) rfl (hb hby d9_17) rfl (flt (by decide : ¬ ((1 : Int32) < (1 : Int32)))).2.2.2 (by decide) (by decide) ?_
    show Steps p.tables e below (s₁.setTop (mkF m 28 #[.val (.int (1 : Int32)), .val (.int va), .val (.int vb), .val (.int vc), .val (.int vd), .val (.int ((0 : Int32) ||| ((1 : Int32) <<< (va &&& 31))))] [])) _
    refine XS.iloadN X0.here hx rfl (hb hby d9_28) rfl ?_
    show Steps p.tables e below (s₁.setTop (mkF m 29 #[.val (.int (1 : Int32)), .val (.int va), .val (.int vb), .val (.int vc), .val (.int vd), .val (.int ((0 : Int32) ||| ((1 : Int32) <<< (va &&& 31))))] [(.int (1 : Int32))])) _
    refine XS.iconst X0.here hx rfl (hb hby d9_29) ?_
    show Steps p.tables e below (s₁.setTop (mkF m 30 #[.val (.int (1 : Int32)), .val (.int va), .val (.int vb), .val (.int vc), .val (.int vd), .val (.int ((0 : Int32) ||| ((1 : Int32) <<< (va &&& 31))))] [(.int (2 : Int32)), (.int (1 : Int32))])) _
    refine XS.icmpYes X0.here hx rfl (pc0 := 30) (pc' := 41) rfl (hb hby d9_30) rfl (flt (by decide : ¬ ((2 : Int32) < (1 : Int32)))).2.2.2 (by decide) (by decide) ?_
    show Steps p.tables e below (s₁.setTop (mkF m 41 #[.val (.int (1 : Int32)), .val (.int va), .val (.int vb), .val (.int vc), .val (.int vd), .val (.int ((0 : Int32) ||| ((1 : Int32) <<< (va &&& 31))))] [])) _
    refine XS.iloadN X0.here hx rfl (hb hby d9_41) rfl ?_
    show Steps p.tables e below (s₁.setTop (mkF m 42 #[.val (.int (1 : Int32)), .val (.int va), .val (.int vb), .val (.int vc), .val (.int vd), .val (.int ((0 : Int32) ||| ((1 : Int32) <<< (va &&& 31))))] [(.int (1 : Int32))])) _
    refine XS.iconst X0.here hx rfl (hb hby d9_42) ?_
    show Steps p.tables e below (s₁.setTop (mkF m 43 #[.val (.int (1 : Int32)), .val (.int va), .val (.int vb), .val (.int vc), .val (.int vd), .val (.int ((0 : Int32) ||| ((1 : Int32) <<< (va &&& 31))))] [(.int (3 : Int32)), (.int (1 : Int32))])) _
    refine XS.icmpYes X0.here hx rfl (pc0 := 43) (pc' := 55) rfl (hb hby d9_43) rfl (flt (by decide : ¬ ((3 : Int32) < (1 : Int32)))).2.2.2 (by decide) (by decide) ?_
    show Steps p.tables e below (s₁.setTop (mkF m 55 #[.val (.int (1 : Int32)), .val (.int va), .val (.int vb), .val (.int vc), .val (.int vd), .val (.int ((0 : Int32) ||| ((1 : Int32) <<< (va &&& 31))))] [])) _
    refine XS.iload X0.here hx rfl (hb hby d9_55) rfl ?_
    show Steps p.tables e below (s₁.setTop (mkF m 57 #[.val (.int (1 : Int32)), .val (.int va), .val (.int vb), .val (.int vc), .val (.int vd), .val (.int ((0 : Int32) ||| ((1 : Int32) <<< (va &&& 31))))] [(.int ((0 : Int32) ||| ((1 : Int32) <<< (va &&& 31))))])) _
    exact Jvm.RoadKit.retI X0 hx Bd.returns (hb hby d9_57) hr
  · exact ⟨rfl, N0, e0⟩
theorem d9_20 : decode method_4_code 20 = .ok (.iload 5, 2) := by decide +kernel
theorem d9_22 : decode method_4_code 22 = .ok (.iconst 1, 1) := by decide +kernel
theorem d9_23 : decode method_4_code 23 = .ok (.iload_n 2, 1) := by decide +kernel
theorem d9_24 : decode method_4_code 24 = .ok (.ishl, 1) := by decide +kernel
theorem d9_25 : decode method_4_code 25 = .ok (.ior, 1) := by decide +kernel
theorem d9_26 : decode method_4_code 26 = .ok (.istore 5, 2) := by decide +kernel
def Q9_10 (Z : State) (va : Int32) (vb : Int32) (vc : Int32) (vd : Int32) (h0 : Heap) (n0 : Nat) (v : Option Value) (h : Heap) (L : List Loc) : Prop := v = some (.int (((0 : Int32) ||| ((1 : Int32) <<< (va &&& 31))) ||| ((1 : Int32) <<< (vb &&& 31)))) ∧ Fr n0 L ∧ h = h0
set_option maxRecDepth 65536 in
set_option maxHeartbeats 40000000 in
theorem rm9_10 (l : Launch) (Z : State) (a0 : Array Value) (hw : ∀ d ∈ tables_1, d.before a0 Z = true) (ws : List Jvm.Cond) (va : Int32) (vb : Int32) (vc : Int32) (vd : Int32) (h0 : Heap) (n0 : Nat) (Z0 : n0 ≤ h0.size) (O0 : Old Z n0 h0) :
    MetFree l (⟨"com/example/caprice/caprice/solver/DomainsGatherReasonsPinLaw", "bits", "(IIIII)I"⟩ : MethodName) (head1 (Jvm.Cond.code (⟨"com/example/caprice/caprice/solver/DomainsGatherReasonsPinLaw", "bits", "(IIIII)I"⟩ : MethodName) method_4_code 6 (some .int) :: ws) ({ frames := 0, cells := 0, slots := 0, locals := 0 } : Room)) (fun a U => a = #[(.int (2 : Int32)), (.int va), (.int vb), (.int vc), (.int vd)] ∧ Z.Warmed39 U.vm ∧ U.heap = h0) (fun _ _ _ _ _ => True) (fun _ U o U' => ∃ v L, o = .returned v ∧ Q9_10 Z  va vb vc vd h0 n0 v U'.heap L ∧ FrameEnd U o U' L ({ frames := 0, cells := 0, slots := 0, locals := 0 } : Room).cells ({ frames := 0, cells := 0, slots := 0, locals := 0 } : Room).slots) := by
  refine MetFree.of_bodySF (plainFor_of_name pn152) hisR ?_
  intro p e s m args below meth c s₁ Bd hml0 hP hK
  obtain ⟨rfl, hZ, hh⟩ := hP
  have hx := Bd.exec
  have hby := Bd.bytes
  have hml : c.maxLocals = 6 := hml0
  have hown : s.vm.findClass "com/example/caprice/caprice/solver/DomainsGatherReasonsPinLaw" = some m.cls := findClass_of_methodNamed Bd.named
  have hnm := (name_of_methodNamed Bd.named Bd.method).1
  have X0 : Stand p l e ({ frames := 0, cells := 0, slots := 0, locals := 0 } : Room) s m #[(.int (2 : Int32)), (.int va), (.int vb), (.int vc), (.int vd)] below meth c s₁ [] 0 0 := Stand.of_body Bd
  have e0 : s₁.heap = h0 := by rw [← hh, Bd.state]; rfl
  have N0 := Fr.nil n0
  have pre0 : ∀ t, Steps p.tables e below (s₁.setTop (mkF m 0 #[.val (.int (2 : Int32)), .val (.int va), .val (.int vb), .val (.int vc), .val (.int vd), .unset] [])) t → Steps p.tables e below (s₁.setTop (entryFrame m #[(.int (2 : Int32)), (.int va), (.int vb), (.int vc), (.int vd)] 6)) t := fun t k => castTop (ef234 m (2 : Int32) va vb vc vd) k
  obtain ⟨fs, hr, hrun, hended, hW, hsame⟩ := X0.leave (v := some (.int (((0 : Int32) ||| ((1 : Int32) <<< (va &&& 31))) ||| ((1 : Int32) <<< (vb &&& 31))))) (fun h => by rw [Bd.returns] at h; cases h)
  refine ⟨_, _, pre0 _ ?_, hrun, hended, _, _, rfl, ?_, ⟨_, rfl⟩, hW, hsame.mono (by decide) (by decide)⟩
  · show Steps p.tables e below (s₁.setTop (mkF m 0 #[.val (.int (2 : Int32)), .val (.int va), .val (.int vb), .val (.int vc), .val (.int vd), .unset] [])) _
    refine XS.iconst X0.here hx rfl (hb hby d9_0) ?_
    show Steps p.tables e below (s₁.setTop (mkF m 1 #[.val (.int (2 : Int32)), .val (.int va), .val (.int vb), .val (.int vc), .val (.int vd), .unset] [(.int (0 : Int32))])) _
    refine XS.istore X0.here hx rfl (hb hby d9_1) rfl (l' := #[.val (.int (2 : Int32)), .val (.int va), .val (.int vb), .val (.int vc), .val (.int vd), .val (.int (0 : Int32))]) rfl ?_
    show Steps p.tables e below (s₁.setTop (mkF m 3 #[.val (.int (2 : Int32)), .val (.int va), .val (.int vb), .val (.int vc), .val (.int vd), .val (.int (0 : Int32))] [])) _
    refine XS.iloadN X0.here hx rfl (hb hby d9_3) rfl ?_
    show Steps p.tables e below (s₁.setTop (mkF m 4 #[.val (.int (2 : Int32)), .val (.int va), .val (.int vb), .val (.int vc), .val (.int vd), .val (.int (0 : Int32))] [(.int (2 : Int32))])) _
    refine XS.ifNo X0.here hx rfl (hb hby d9_4) rfl ((if0 _ _).trans (tlt (by decide : (0 : Int32) < (2 : Int32))).2.2.2) ?_
    show Steps p.tables e below (s₁.setTop (mkF m 7 #[.val (.int (2 : Int32)), .val (.int va), .val (.int vb), .val (.int vc), .val (.int vd), .val (.int (0 : Int32))] [])) _
    refine XS.iload X0.here hx rfl (hb hby d9_7) rfl ?_
    show Steps p.tables e below (s₁.setTop (mkF m 9 #[.val (.int (2 : Int32)), .val (.int va), .val (.int vb), .val (.int vc), .val (.int vd), .val (.int (0 : Int32))] [(.int (0 : Int32))])) _
    refine XS.iconst X0.here hx rfl (hb hby d9_9) ?_
    show Steps p.tables e below (s₁.setTop (mkF m 10 #[.val (.int (2 : Int32)), .val (.int va), .val (.int vb), .val (.int vc), .val (.int vd), .val (.int (0 : Int32))] [(.int (1 : Int32)), (.int (0 : Int32))])) _
    refine XS.iloadN X0.here hx rfl (hb hby d9_10) rfl ?_
    show Steps p.tables e below (s₁.setTop (mkF m 11 #[.val (.int (2 : Int32)), .val (.int va), .val (.int vb), .val (.int vc), .val (.int vd), .val (.int (0 : Int32))] [(.int va), (.int (1 : Int32)), (.int (0 : Int32))])) _
    refine XS.ishl X0.here hx rfl (hb hby d9_11) rfl ?_
    show Steps p.tables e below (s₁.setTop (mkF m 12 #[.val (.int (2 : Int32)), .val (.int va), .val (.int vb), .val (.int vc), .val (.int vd), .val (.int (0 : Int32))] [(.int ((1 : Int32) <<< (va &&& 31))), (.int (0 : Int32))])) _
    refine XS.ior X0.here hx rfl (hb hby d9_12) rfl ?_
    show Steps p.tables e below (s₁.setTop (mkF m 13 #[.val (.int (2 : Int32)), .val (.int va), .val (.int vb), .val (.int vc), .val (.int vd), .val (.int (0 : Int32))] [(.int ((0 : Int32) ||| ((1 : Int32) <<< (va &&& 31))))])) _
    refine XS.istore X0.here hx rfl (hb hby d9_13) rfl (l' := #[.val (.int (2 : Int32)), .val (.int va), .val (.int vb), .val (.int vc), .val (.int vd), .val (.int ((0 : Int32) ||| ((1 : Int32) <<< (va &&& 31))))]) rfl ?_
    show Steps p.tables e below (s₁.setTop (mkF m 15 #[.val (.int (2 : Int32)), .val (.int va), .val (.int vb), .val (.int vc), .val (.int vd), .val (.int ((0 : Int32) ||| ((1 : Int32) <<< (va &&& 31))))] [])) _
    refine XS.iloadN X0.here hx rfl (hb hby d9_15) rfl ?_
    show Steps p.tables e below (s₁.setTop (mkF m 16 #[.val (.int (2 : Int32)), .val (.int va), .val (.int vb), .val (.int vc), .val (.int vd), .val (.int ((0 : Int32) ||| ((1 : Int32) <<< (va &&& 31))))] [(.int (2 : Int32))])) _
    refine XS.iconst X0.here hx rfl (hb hby d9_16) ?_
    show Steps p.tables e below (s₁.setTop (mkF m 17 #[.val (.int (2 : Int32)), .val (.int va), .val (.int vb), .val (.int vc), .val (.int vd), .val (.int ((0 : Int32) ||| ((1 : Int32) <<< (va &&& 31))))] [(.int (1 : Int32)), (.int (2 : Int32))])) _
    refine XS.icmpNo X0.here hx rfl (hb hby d9_17) rfl (tlt (by decide : (1 : Int32) < (2 : Int32))).2.2.2 ?_
    show Steps p.tables e below (s₁.setTop (mkF m 20 #[.val (.int (2 : Int32)), .val (.int va), .val (.int vb), .val (.int vc), .val (.int vd), .val (.int ((0 : Int32) ||| ((1 : Int32) <<< (va &&& 31))))] [])) _
    refine XS.iload X0.here hx rfl (hb hby d9_20) rfl ?_
    show Steps p.tables e below (s₁.setTop (mkF m 22 #[.val (.int (2 : Int32)), .val (.int va), .val (.int vb), .val (.int vc), .val (.int vd), .val (.int ((0 : Int32) ||| ((1 : Int32) <<< (va &&& 31))))] [(.int ((0 : Int32) ||| ((1 : Int32) <<< (va &&& 31))))])) _
    refine XS.iconst X0.here hx rfl (hb hby d9_22) ?_
    show Steps p.tables e below (s₁.setTop (mkF m 23 #[.val (.int (2 : Int32)), .val (.int va), .val (.int vb), .val (.int vc), .val (.int vd), .val (.int ((0 : Int32) ||| ((1 : Int32) <<< (va &&& 31))))] [(.int (1 : Int32)), (.int ((0 : Int32) ||| ((1 : Int32) <<< (va &&& 31))))])) _
    refine XS.iloadN X0.here hx rfl (hb hby d9_23) rfl ?_
    show Steps p.tables e below (s₁.setTop (mkF m 24 #[.val (.int (2 : Int32)), .val (.int va), .val (.int vb), .val (.int vc), .val (.int vd), .val (.int ((0 : Int32) ||| ((1 : Int32) <<< (va &&& 31))))] [(.int vb), (.int (1 : Int32)), (.int ((0 : Int32) ||| ((1 : Int32) <<< (va &&& 31))))])) _
    refine XS.ishl X0.here hx rfl (hb hby d9_24) rfl ?_
    show Steps p.tables e below (s₁.setTop (mkF m 25 #[.val (.int (2 : Int32)), .val (.int va), .val (.int vb), .val (.int vc), .val (.int vd), .val (.int ((0 : Int32) ||| ((1 : Int32) <<< (va &&& 31))))] [(.int ((1 : Int32) <<< (vb &&& 31))), (.int ((0 : Int32) ||| ((1 : Int32) <<< (va &&& 31))))])) _
    refine XS.ior X0.here hx rfl (hb hby d9_25) rfl ?_
    show Steps p.tables e below (s₁.setTop (mkF m 26 #[.val (.int (2 : Int32)), .val (.int va), .val (.int vb), .val (.int vc), .val (.int vd), .val (.int ((0 : Int32) ||| ((1 : Int32) <<< (va &&& 31))))] [(.int (((0 : Int32) ||| ((1 : Int32) <<< (va &&& 31))) ||| ((1 : Int32) <<< (vb &&& 31))))])) _
    refine XS.istore X0.here hx rfl (hb hby d9_26) rfl (l' := #[.val (.int (2 : Int32)), .val (.int va), .val (.int vb), .val (.int vc), .val (.int vd), .val (.int (((0 : Int32) ||| ((1 : Int32) <<< (va &&& 31))) ||| ((1 : Int32) <<< (vb &&& 31))))]) rfl ?_
    show Steps p.tables e below (s₁.setTop (mkF m 28 #[.val (.int (2 : Int32)), .val (.int va), .val (.int vb), .val (.int vc), .val (.int vd), .val (.int (((0 : Int32) ||| ((1 : Int32) <<< (va &&& 31))) ||| ((1 : Int32) <<< (vb &&& 31))))] [])) _
    refine XS.iloadN X0.here hx rfl (hb hby d9_28) rfl ?_
    show Steps p.tables e below (s₁.setTop (mkF m 29 #[.val (.int (2 : Int32)), .val (.int va), .val (.int vb), .val (.int vc), .val (.int vd), .val (.int (((0 : Int32) ||| ((1 : Int32) <<< (va &&& 31))) ||| ((1 : Int32) <<< (vb &&& 31))))] [(.int (2 : Int32))])) _
    refine XS.iconst X0.here hx rfl (hb hby d9_29) ?_
    show Steps p.tables e below (s₁.setTop (mkF m 30 #[.val (.int (2 : Int32)), .val (.int va), .val (.int vb), .val (.int vc), .val (.int vd), .val (.int (((0 : Int32) ||| ((1 : Int32) <<< (va &&& 31))) ||| ((1 : Int32) <<< (vb &&& 31))))] [(.int (2 : Int32)), (.int (2 : Int32))])) _
    refine XS.icmpYes X0.here hx rfl (pc0 := 30) (pc' := 41) rfl (hb hby d9_30) rfl (flt (by decide : ¬ ((2 : Int32) < (2 : Int32)))).2.2.2 (by decide) (by decide) ?_
    show Steps p.tables e below (s₁.setTop (mkF m 41 #[.val (.int (2 : Int32)), .val (.int va), .val (.int vb), .val (.int vc), .val (.int vd), .val (.int (((0 : Int32) ||| ((1 : Int32) <<< (va &&& 31))) ||| ((1 : Int32) <<< (vb &&& 31))))] [])) _
    refine XS.iloadN X0.here hx rfl (hb hby d9_41) rfl ?_
    show Steps p.tables e below (s₁.setTop (mkF m 42 #[.val (.int (2 : Int32)), .val (.int va), .val (.int vb), .val (.int vc), .val (.int vd), .val (.int (((0 : Int32) ||| ((1 : Int32) <<< (va &&& 31))) ||| ((1 : Int32) <<< (vb &&& 31))))] [(.int (2 : Int32))])) _
    refine XS.iconst X0.here hx rfl (hb hby d9_42) ?_
    show Steps p.tables e below (s₁.setTop (mkF m 43 #[.val (.int (2 : Int32)), .val (.int va), .val (.int vb), .val (.int vc), .val (.int vd), .val (.int (((0 : Int32) ||| ((1 : Int32) <<< (va &&& 31))) ||| ((1 : Int32) <<< (vb &&& 31))))] [(.int (3 : Int32)), (.int (2 : Int32))])) _
    refine XS.icmpYes X0.here hx rfl (pc0 := 43) (pc' := 55) rfl (hb hby d9_43) rfl (flt (by decide : ¬ ((3 : Int32) < (2 : Int32)))).2.2.2 (by decide) (by decide) ?_
    show Steps p.tables e below (s₁.setTop (mkF m 55 #[.val (.int (2 : Int32)), .val (.int va), .val (.int vb), .val (.int vc), .val (.int vd), .val (.int (((0 : Int32) ||| ((1 : Int32) <<< (va &&& 31))) ||| ((1 : Int32) <<< (vb &&& 31))))] [])) _
    refine XS.iload X0.here hx rfl (hb hby d9_55) rfl ?_
    show Steps p.tables e below (s₁.setTop (mkF m 57 #[.val (.int (2 : Int32)), .val (.int va), .val (.int vb), .val (.int vc), .val (.int vd), .val (.int (((0 : Int32) ||| ((1 : Int32) <<< (va &&& 31))) ||| ((1 : Int32) <<< (vb &&& 31))))] [(.int (((0 : Int32) ||| ((1 : Int32) <<< (va &&& 31))) ||| ((1 : Int32) <<< (vb &&& 31))))])) _
    exact Jvm.RoadKit.retI X0 hx Bd.returns (hb hby d9_57) hr
  · exact ⟨rfl, N0, e0⟩
theorem d9_33 : decode method_4_code 33 = .ok (.iload 5, 2) := by decide +kernel
theorem d9_35 : decode method_4_code 35 = .ok (.iconst 1, 1) := by decide +kernel
theorem d9_36 : decode method_4_code 36 = .ok (.iload_n 3, 1) := by decide +kernel
theorem d9_37 : decode method_4_code 37 = .ok (.ishl, 1) := by decide +kernel
theorem d9_38 : decode method_4_code 38 = .ok (.ior, 1) := by decide +kernel
theorem d9_39 : decode method_4_code 39 = .ok (.istore 5, 2) := by decide +kernel
def Q9_11 (Z : State) (va : Int32) (vb : Int32) (vc : Int32) (vd : Int32) (h0 : Heap) (n0 : Nat) (v : Option Value) (h : Heap) (L : List Loc) : Prop := v = some (.int ((((0 : Int32) ||| ((1 : Int32) <<< (va &&& 31))) ||| ((1 : Int32) <<< (vb &&& 31))) ||| ((1 : Int32) <<< (vc &&& 31)))) ∧ Fr n0 L ∧ h = h0
set_option maxRecDepth 65536 in
set_option maxHeartbeats 40000000 in
theorem rm9_11 (l : Launch) (Z : State) (a0 : Array Value) (hw : ∀ d ∈ tables_1, d.before a0 Z = true) (ws : List Jvm.Cond) (va : Int32) (vb : Int32) (vc : Int32) (vd : Int32) (h0 : Heap) (n0 : Nat) (Z0 : n0 ≤ h0.size) (O0 : Old Z n0 h0) :
    MetFree l (⟨"com/example/caprice/caprice/solver/DomainsGatherReasonsPinLaw", "bits", "(IIIII)I"⟩ : MethodName) (head1 (Jvm.Cond.code (⟨"com/example/caprice/caprice/solver/DomainsGatherReasonsPinLaw", "bits", "(IIIII)I"⟩ : MethodName) method_4_code 6 (some .int) :: ws) ({ frames := 0, cells := 0, slots := 0, locals := 0 } : Room)) (fun a U => a = #[(.int (3 : Int32)), (.int va), (.int vb), (.int vc), (.int vd)] ∧ Z.Warmed39 U.vm ∧ U.heap = h0) (fun _ _ _ _ _ => True) (fun _ U o U' => ∃ v L, o = .returned v ∧ Q9_11 Z  va vb vc vd h0 n0 v U'.heap L ∧ FrameEnd U o U' L ({ frames := 0, cells := 0, slots := 0, locals := 0 } : Room).cells ({ frames := 0, cells := 0, slots := 0, locals := 0 } : Room).slots) := by
  refine MetFree.of_bodySF (plainFor_of_name pn152) hisR ?_
  intro p e s m args below meth c s₁ Bd hml0 hP hK
  obtain ⟨rfl, hZ, hh⟩ := hP
  have hx := Bd.exec
  have hby := Bd.bytes
  have hml : c.maxLocals = 6 := hml0
  have hown : s.vm.findClass "com/example/caprice/caprice/solver/DomainsGatherReasonsPinLaw" = some m.cls := findClass_of_methodNamed Bd.named
  have hnm := (name_of_methodNamed Bd.named Bd.method).1
  have X0 : Stand p l e ({ frames := 0, cells := 0, slots := 0, locals := 0 } : Room) s m #[(.int (3 : Int32)), (.int va), (.int vb), (.int vc), (.int vd)] below meth c s₁ [] 0 0 := Stand.of_body Bd
  have e0 : s₁.heap = h0 := by rw [← hh, Bd.state]; rfl
  have N0 := Fr.nil n0
  have pre0 : ∀ t, Steps p.tables e below (s₁.setTop (mkF m 0 #[.val (.int (3 : Int32)), .val (.int va), .val (.int vb), .val (.int vc), .val (.int vd), .unset] [])) t → Steps p.tables e below (s₁.setTop (entryFrame m #[(.int (3 : Int32)), (.int va), (.int vb), (.int vc), (.int vd)] 6)) t := fun t k => castTop (ef234 m (3 : Int32) va vb vc vd) k
  obtain ⟨fs, hr, hrun, hended, hW, hsame⟩ := X0.leave (v := some (.int ((((0 : Int32) ||| ((1 : Int32) <<< (va &&& 31))) ||| ((1 : Int32) <<< (vb &&& 31))) ||| ((1 : Int32) <<< (vc &&& 31))))) (fun h => by rw [Bd.returns] at h; cases h)
  refine ⟨_, _, pre0 _ ?_, hrun, hended, _, _, rfl, ?_, ⟨_, rfl⟩, hW, hsame.mono (by decide) (by decide)⟩
  · show Steps p.tables e below (s₁.setTop (mkF m 0 #[.val (.int (3 : Int32)), .val (.int va), .val (.int vb), .val (.int vc), .val (.int vd), .unset] [])) _
    refine XS.iconst X0.here hx rfl (hb hby d9_0) ?_
    show Steps p.tables e below (s₁.setTop (mkF m 1 #[.val (.int (3 : Int32)), .val (.int va), .val (.int vb), .val (.int vc), .val (.int vd), .unset] [(.int (0 : Int32))])) _
    refine XS.istore X0.here hx rfl (hb hby d9_1) rfl (l' := #[.val (.int (3 : Int32)), .val (.int va), .val (.int vb), .val (.int vc), .val (.int vd), .val (.int (0 : Int32))]) rfl ?_
    show Steps p.tables e below (s₁.setTop (mkF m 3 #[.val (.int (3 : Int32)), .val (.int va), .val (.int vb), .val (.int vc), .val (.int vd), .val (.int (0 : Int32))] [])) _
    refine XS.iloadN X0.here hx rfl (hb hby d9_3) rfl ?_
    show Steps p.tables e below (s₁.setTop (mkF m 4 #[.val (.int (3 : Int32)), .val (.int va), .val (.int vb), .val (.int vc), .val (.int vd), .val (.int (0 : Int32))] [(.int (3 : Int32))])) _
    refine XS.ifNo X0.here hx rfl (hb hby d9_4) rfl ((if0 _ _).trans (tlt (by decide : (0 : Int32) < (3 : Int32))).2.2.2) ?_
    show Steps p.tables e below (s₁.setTop (mkF m 7 #[.val (.int (3 : Int32)), .val (.int va), .val (.int vb), .val (.int vc), .val (.int vd), .val (.int (0 : Int32))] [])) _
    refine XS.iload X0.here hx rfl (hb hby d9_7) rfl ?_
    show Steps p.tables e below (s₁.setTop (mkF m 9 #[.val (.int (3 : Int32)), .val (.int va), .val (.int vb), .val (.int vc), .val (.int vd), .val (.int (0 : Int32))] [(.int (0 : Int32))])) _
    refine XS.iconst X0.here hx rfl (hb hby d9_9) ?_
    show Steps p.tables e below (s₁.setTop (mkF m 10 #[.val (.int (3 : Int32)), .val (.int va), .val (.int vb), .val (.int vc), .val (.int vd), .val (.int (0 : Int32))] [(.int (1 : Int32)), (.int (0 : Int32))])) _
    refine XS.iloadN X0.here hx rfl (hb hby d9_10) rfl ?_
    show Steps p.tables e below (s₁.setTop (mkF m 11 #[.val (.int (3 : Int32)), .val (.int va), .val (.int vb), .val (.int vc), .val (.int vd), .val (.int (0 : Int32))] [(.int va), (.int (1 : Int32)), (.int (0 : Int32))])) _
    refine XS.ishl X0.here hx rfl (hb hby d9_11) rfl ?_
    show Steps p.tables e below (s₁.setTop (mkF m 12 #[.val (.int (3 : Int32)), .val (.int va), .val (.int vb), .val (.int vc), .val (.int vd), .val (.int (0 : Int32))] [(.int ((1 : Int32) <<< (va &&& 31))), (.int (0 : Int32))])) _
    refine XS.ior X0.here hx rfl (hb hby d9_12) rfl ?_
    show Steps p.tables e below (s₁.setTop (mkF m 13 #[.val (.int (3 : Int32)), .val (.int va), .val (.int vb), .val (.int vc), .val (.int vd), .val (.int (0 : Int32))] [(.int ((0 : Int32) ||| ((1 : Int32) <<< (va &&& 31))))])) _
    refine XS.istore X0.here hx rfl (hb hby d9_13) rfl (l' := #[.val (.int (3 : Int32)), .val (.int va), .val (.int vb), .val (.int vc), .val (.int vd), .val (.int ((0 : Int32) ||| ((1 : Int32) <<< (va &&& 31))))]) rfl ?_
    show Steps p.tables e below (s₁.setTop (mkF m 15 #[.val (.int (3 : Int32)), .val (.int va), .val (.int vb), .val (.int vc), .val (.int vd), .val (.int ((0 : Int32) ||| ((1 : Int32) <<< (va &&& 31))))] [])) _
    refine XS.iloadN X0.here hx rfl (hb hby d9_15) rfl ?_
    show Steps p.tables e below (s₁.setTop (mkF m 16 #[.val (.int (3 : Int32)), .val (.int va), .val (.int vb), .val (.int vc), .val (.int vd), .val (.int ((0 : Int32) ||| ((1 : Int32) <<< (va &&& 31))))] [(.int (3 : Int32))])) _
    refine XS.iconst X0.here hx rfl (hb hby d9_16) ?_
    show Steps p.tables e below (s₁.setTop (mkF m 17 #[.val (.int (3 : Int32)), .val (.int va), .val (.int vb), .val (.int vc), .val (.int vd), .val (.int ((0 : Int32) ||| ((1 : Int32) <<< (va &&& 31))))] [(.int (1 : Int32)), (.int (3 : Int32))])) _
    refine XS.icmpNo X0.here hx rfl (hb hby d9_17) rfl (tlt (by decide : (1 : Int32) < (3 : Int32))).2.2.2 ?_
    show Steps p.tables e below (s₁.setTop (mkF m 20 #[.val (.int (3 : Int32)), .val (.int va), .val (.int vb), .val (.int vc), .val (.int vd), .val (.int ((0 : Int32) ||| ((1 : Int32) <<< (va &&& 31))))] [])) _
    refine XS.iload X0.here hx rfl (hb hby d9_20) rfl ?_
    show Steps p.tables e below (s₁.setTop (mkF m 22 #[.val (.int (3 : Int32)), .val (.int va), .val (.int vb), .val (.int vc), .val (.int vd), .val (.int ((0 : Int32) ||| ((1 : Int32) <<< (va &&& 31))))] [(.int ((0 : Int32) ||| ((1 : Int32) <<< (va &&& 31))))])) _
    refine XS.iconst X0.here hx rfl (hb hby d9_22) ?_
    show Steps p.tables e below (s₁.setTop (mkF m 23 #[.val (.int (3 : Int32)), .val (.int va), .val (.int vb), .val (.int vc), .val (.int vd), .val (.int ((0 : Int32) ||| ((1 : Int32) <<< (va &&& 31))))] [(.int (1 : Int32)), (.int ((0 : Int32) ||| ((1 : Int32) <<< (va &&& 31))))])) _
    refine XS.iloadN X0.here hx rfl (hb hby d9_23) rfl ?_
    show Steps p.tables e below (s₁.setTop (mkF m 24 #[.val (.int (3 : Int32)), .val (.int va), .val (.int vb), .val (.int vc), .val (.int vd), .val (.int ((0 : Int32) ||| ((1 : Int32) <<< (va &&& 31))))] [(.int vb), (.int (1 : Int32)), (.int ((0 : Int32) ||| ((1 : Int32) <<< (va &&& 31))))])) _
    refine XS.ishl X0.here hx rfl (hb hby d9_24) rfl ?_
    show Steps p.tables e below (s₁.setTop (mkF m 25 #[.val (.int (3 : Int32)), .val (.int va), .val (.int vb), .val (.int vc), .val (.int vd), .val (.int ((0 : Int32) ||| ((1 : Int32) <<< (va &&& 31))))] [(.int ((1 : Int32) <<< (vb &&& 31))), (.int ((0 : Int32) ||| ((1 : Int32) <<< (va &&& 31))))])) _
    refine XS.ior X0.here hx rfl (hb hby d9_25) rfl ?_
    show Steps p.tables e below (s₁.setTop (mkF m 26 #[.val (.int (3 : Int32)), .val (.int va), .val (.int vb), .val (.int vc), .val (.int vd), .val (.int ((0 : Int32) ||| ((1 : Int32) <<< (va &&& 31))))] [(.int (((0 : Int32) ||| ((1 : Int32) <<< (va &&& 31))) ||| ((1 : Int32) <<< (vb &&& 31))))])) _
    refine XS.istore X0.here hx rfl (hb hby d9_26) rfl (l' := #[.val (.int (3 : Int32)), .val (.int va), .val (.int vb), .val (.int vc), .val (.int vd), .val (.int (((0 : Int32) ||| ((1 : Int32) <<< (va &&& 31))) ||| ((1 : Int32) <<< (vb &&& 31))))]) rfl ?_
    show Steps p.tables e below (s₁.setTop (mkF m 28 #[.val (.int (3 : Int32)), .val (.int va), .val (.int vb), .val (.int vc), .val (.int vd), .val (.int (((0 : Int32) ||| ((1 : Int32) <<< (va &&& 31))) ||| ((1 : Int32) <<< (vb &&& 31))))] [])) _
    refine XS.iloadN X0.here hx rfl (hb hby d9_28) rfl ?_
    show Steps p.tables e below (s₁.setTop (mkF m 29 #[.val (.int (3 : Int32)), .val (.int va), .val (.int vb), .val (.int vc), .val (.int vd), .val (.int (((0 : Int32) ||| ((1 : Int32) <<< (va &&& 31))) ||| ((1 : Int32) <<< (vb &&& 31))))] [(.int (3 : Int32))])) _
    refine XS.iconst X0.here hx rfl (hb hby d9_29) ?_
    show Steps p.tables e below (s₁.setTop (mkF m 30 #[.val (.int (3 : Int32)), .val (.int va), .val (.int vb), .val (.int vc), .val (.int vd), .val (.int (((0 : Int32) ||| ((1 : Int32) <<< (va &&& 31))) ||| ((1 : Int32) <<< (vb &&& 31))))] [(.int (2 : Int32)), (.int (3 : Int32))])) _
    refine XS.icmpNo X0.here hx rfl (hb hby d9_30) rfl (tlt (by decide : (2 : Int32) < (3 : Int32))).2.2.2 ?_
    show Steps p.tables e below (s₁.setTop (mkF m 33 #[.val (.int (3 : Int32)), .val (.int va), .val (.int vb), .val (.int vc), .val (.int vd), .val (.int (((0 : Int32) ||| ((1 : Int32) <<< (va &&& 31))) ||| ((1 : Int32) <<< (vb &&& 31))))] [])) _
    refine XS.iload X0.here hx rfl (hb hby d9_33) rfl ?_
    show Steps p.tables e below (s₁.setTop (mkF m 35 #[.val (.int (3 : Int32)), .val (.int va), .val (.int vb), .val (.int vc), .val (.int vd), .val (.int (((0 : Int32) ||| ((1 : Int32) <<< (va &&& 31))) ||| ((1 : Int32) <<< (vb &&& 31))))] [(.int (((0 : Int32) ||| ((1 : Int32) <<< (va &&& 31))) ||| ((1 : Int32) <<< (vb &&& 31))))])) _
    refine XS.iconst X0.here hx rfl (hb hby d9_35) ?_
    show Steps p.tables e below (s₁.setTop (mkF m 36 #[.val (.int (3 : Int32)), .val (.int va), .val (.int vb), .val (.int vc), .val (.int vd), .val (.int (((0 : Int32) ||| ((1 : Int32) <<< (va &&& 31))) ||| ((1 : Int32) <<< (vb &&& 31))))] [(.int (1 : Int32)), (.int (((0 : Int32) ||| ((1 : Int32) <<< (va &&& 31))) ||| ((1 : Int32) <<< (vb &&& 31))))])) _
    refine XS.iloadN X0.here hx rfl (hb hby d9_36) rfl ?_
    show Steps p.tables e below (s₁.setTop (mkF m 37 #[.val (.int (3 : Int32)), .val (.int va), .val (.int vb), .val (.int vc), .val (.int vd), .val (.int (((0 : Int32) ||| ((1 : Int32) <<< (va &&& 31))) ||| ((1 : Int32) <<< (vb &&& 31))))] [(.int vc), (.int (1 : Int32)), (.int (((0 : Int32) ||| ((1 : Int32) <<< (va &&& 31))) ||| ((1 : Int32) <<< (vb &&& 31))))])) _
    refine XS.ishl X0.here hx rfl (hb hby d9_37) rfl ?_
    show Steps p.tables e below (s₁.setTop (mkF m 38 #[.val (.int (3 : Int32)), .val (.int va), .val (.int vb), .val (.int vc), .val (.int vd), .val (.int (((0 : Int32) ||| ((1 : Int32) <<< (va &&& 31))) ||| ((1 : Int32) <<< (vb &&& 31))))] [(.int ((1 : Int32) <<< (vc &&& 31))), (.int (((0 : Int32) ||| ((1 : Int32) <<< (va &&& 31))) ||| ((1 : Int32) <<< (vb &&& 31))))])) _
    refine XS.ior X0.here hx rfl (hb hby d9_38) rfl ?_
    show Steps p.tables e below (s₁.setTop (mkF m 39 #[.val (.int (3 : Int32)), .val (.int va), .val (.int vb), .val (.int vc), .val (.int vd), .val (.int (((0 : Int32) ||| ((1 : Int32) <<< (va &&& 31))) ||| ((1 : Int32) <<< (vb &&& 31))))] [(.int ((((0 : Int32) ||| ((1 : Int32) <<< (va &&& 31))) ||| ((1 : Int32) <<< (vb &&& 31))) ||| ((1 : Int32) <<< (vc &&& 31))))])) _
    refine XS.istore X0.here hx rfl (hb hby d9_39) rfl (l' := #[.val (.int (3 : Int32)), .val (.int va), .val (.int vb), .val (.int vc), .val (.int vd), .val (.int ((((0 : Int32) ||| ((1 : Int32) <<< (va &&& 31))) ||| ((1 : Int32) <<< (vb &&& 31))) ||| ((1 : Int32) <<< (vc &&& 31))))]) rfl ?_
    show Steps p.tables e below (s₁.setTop (mkF m 41 #[.val (.int (3 : Int32)), .val (.int va), .val (.int vb), .val (.int vc), .val (.int vd), .val (.int ((((0 : Int32) ||| ((1 : Int32) <<< (va &&& 31))) ||| ((1 : Int32) <<< (vb &&& 31))) ||| ((1 : Int32) <<< (vc &&& 31))))] [])) _
    refine XS.iloadN X0.here hx rfl (hb hby d9_41) rfl ?_
    show Steps p.tables e below (s₁.setTop (mkF m 42 #[.val (.int (3 : Int32)), .val (.int va), .val (.int vb), .val (.int vc), .val (.int vd), .val (.int ((((0 : Int32) ||| ((1 : Int32) <<< (va &&& 31))) ||| ((1 : Int32) <<< (vb &&& 31))) ||| ((1 : Int32) <<< (vc &&& 31))))] [(.int (3 : Int32))])) _
    refine XS.iconst X0.here hx rfl (hb hby d9_42) ?_
    show Steps p.tables e below (s₁.setTop (mkF m 43 #[.val (.int (3 : Int32)), .val (.int va), .val (.int vb), .val (.int vc), .val (.int vd), .val (.int ((((0 : Int32) ||| ((1 : Int32) <<< (va &&& 31))) ||| ((1 : Int32) <<< (vb &&& 31))) ||| ((1 : Int32) <<< (vc &&& 31))))] [(.int (3 : Int32)), (.int (3 : Int32))])) _
    refine XS.icmpYes X0.here hx rfl (pc0 := 43) (pc' := 55) rfl (hb hby d9_43) rfl (flt (by decide : ¬ ((3 : Int32) < (3 : Int32)))).2.2.2 (by decide) (by decide) ?_
    show Steps p.tables e below (s₁.setTop (mkF m 55 #[.val (.int (3 : Int32)), .val (.int va), .val (.int vb), .val (.int vc), .val (.int vd), .val (.int ((((0 : Int32) ||| ((1 : Int32) <<< (va &&& 31))) ||| ((1 : Int32) <<< (vb &&& 31))) ||| ((1 : Int32) <<< (vc &&& 31))))] [])) _
    refine XS.iload X0.here hx rfl (hb hby d9_55) rfl ?_
    show Steps p.tables e below (s₁.setTop (mkF m 57 #[.val (.int (3 : Int32)), .val (.int va), .val (.int vb), .val (.int vc), .val (.int vd), .val (.int ((((0 : Int32) ||| ((1 : Int32) <<< (va &&& 31))) ||| ((1 : Int32) <<< (vb &&& 31))) ||| ((1 : Int32) <<< (vc &&& 31))))] [(.int ((((0 : Int32) ||| ((1 : Int32) <<< (va &&& 31))) ||| ((1 : Int32) <<< (vb &&& 31))) ||| ((1 : Int32) <<< (vc &&& 31))))])) _
    exact Jvm.RoadKit.retI X0 hx Bd.returns (hb hby d9_57) hr
  · exact ⟨rfl, N0, e0⟩
theorem d9_46 : decode method_4_code 46 = .ok (.iload 5, 2) := by decide +kernel
theorem d9_48 : decode method_4_code 48 = .ok (.iconst 1, 1) := by decide +kernel
theorem d9_49 : decode method_4_code 49 = .ok (.iload 4, 2) := by decide +kernel
theorem d9_51 : decode method_4_code 51 = .ok (.ishl, 1) := by decide +kernel
theorem d9_52 : decode method_4_code 52 = .ok (.ior, 1) := by decide +kernel
theorem d9_53 : decode method_4_code 53 = .ok (.istore 5, 2) := by decide +kernel
def Q9_12 (Z : State) (va : Int32) (vb : Int32) (vc : Int32) (vd : Int32) (h0 : Heap) (n0 : Nat) (v : Option Value) (h : Heap) (L : List Loc) : Prop := v = some (.int (((((0 : Int32) ||| ((1 : Int32) <<< (va &&& 31))) ||| ((1 : Int32) <<< (vb &&& 31))) ||| ((1 : Int32) <<< (vc &&& 31))) ||| ((1 : Int32) <<< (vd &&& 31)))) ∧ Fr n0 L ∧ h = h0
set_option maxRecDepth 65536 in
set_option maxHeartbeats 40000000 in
theorem rm9_12 (l : Launch) (Z : State) (a0 : Array Value) (hw : ∀ d ∈ tables_1, d.before a0 Z = true) (ws : List Jvm.Cond) (va : Int32) (vb : Int32) (vc : Int32) (vd : Int32) (h0 : Heap) (n0 : Nat) (Z0 : n0 ≤ h0.size) (O0 : Old Z n0 h0) :
    MetFree l (⟨"com/example/caprice/caprice/solver/DomainsGatherReasonsPinLaw", "bits", "(IIIII)I"⟩ : MethodName) (head1 (Jvm.Cond.code (⟨"com/example/caprice/caprice/solver/DomainsGatherReasonsPinLaw", "bits", "(IIIII)I"⟩ : MethodName) method_4_code 6 (some .int) :: ws) ({ frames := 0, cells := 0, slots := 0, locals := 0 } : Room)) (fun a U => a = #[(.int (4 : Int32)), (.int va), (.int vb), (.int vc), (.int vd)] ∧ Z.Warmed39 U.vm ∧ U.heap = h0) (fun _ _ _ _ _ => True) (fun _ U o U' => ∃ v L, o = .returned v ∧ Q9_12 Z  va vb vc vd h0 n0 v U'.heap L ∧ FrameEnd U o U' L ({ frames := 0, cells := 0, slots := 0, locals := 0 } : Room).cells ({ frames := 0, cells := 0, slots := 0, locals := 0 } : Room).slots) := by
  refine MetFree.of_bodySF (plainFor_of_name pn152) hisR ?_
  intro p e s m args below meth c s₁ Bd hml0 hP hK
  obtain ⟨rfl, hZ, hh⟩ := hP
  have hx := Bd.exec
  have hby := Bd.bytes
  have hml : c.maxLocals = 6 := hml0
  have hown : s.vm.findClass "com/example/caprice/caprice/solver/DomainsGatherReasonsPinLaw" = some m.cls := findClass_of_methodNamed Bd.named
  have hnm := (name_of_methodNamed Bd.named Bd.method).1
  have X0 : Stand p l e ({ frames := 0, cells := 0, slots := 0, locals := 0 } : Room) s m #[(.int (4 : Int32)), (.int va), (.int vb), (.int vc), (.int vd)] below meth c s₁ [] 0 0 := Stand.of_body Bd
  have e0 : s₁.heap = h0 := by rw [← hh, Bd.state]; rfl
  have N0 := Fr.nil n0
  have pre0 : ∀ t, Steps p.tables e below (s₁.setTop (mkF m 0 #[.val (.int (4 : Int32)), .val (.int va), .val (.int vb), .val (.int vc), .val (.int vd), .unset] [])) t → Steps p.tables e below (s₁.setTop (entryFrame m #[(.int (4 : Int32)), (.int va), (.int vb), (.int vc), (.int vd)] 6)) t := fun t k => castTop (ef234 m (4 : Int32) va vb vc vd) k
  obtain ⟨fs, hr, hrun, hended, hW, hsame⟩ := X0.leave (v := some (.int (((((0 : Int32) ||| ((1 : Int32) <<< (va &&& 31))) ||| ((1 : Int32) <<< (vb &&& 31))) ||| ((1 : Int32) <<< (vc &&& 31))) ||| ((1 : Int32) <<< (vd &&& 31))))) (fun h => by rw [Bd.returns] at h; cases h)
  refine ⟨_, _, pre0 _ ?_, hrun, hended, _, _, rfl, ?_, ⟨_, rfl⟩, hW, hsame.mono (by decide) (by decide)⟩
  · show Steps p.tables e below (s₁.setTop (mkF m 0 #[.val (.int (4 : Int32)), .val (.int va), .val (.int vb), .val (.int vc), .val (.int vd), .unset] [])) _
    refine XS.iconst X0.here hx rfl (hb hby d9_0) ?_
    show Steps p.tables e below (s₁.setTop (mkF m 1 #[.val (.int (4 : Int32)), .val (.int va), .val (.int vb), .val (.int vc), .val (.int vd), .unset] [(.int (0 : Int32))])) _
    refine XS.istore X0.here hx rfl (hb hby d9_1) rfl (l' := #[.val (.int (4 : Int32)), .val (.int va), .val (.int vb), .val (.int vc), .val (.int vd), .val (.int (0 : Int32))]) rfl ?_
    show Steps p.tables e below (s₁.setTop (mkF m 3 #[.val (.int (4 : Int32)), .val (.int va), .val (.int vb), .val (.int vc), .val (.int vd), .val (.int (0 : Int32))] [])) _
    refine XS.iloadN X0.here hx rfl (hb hby d9_3) rfl ?_
    show Steps p.tables e below (s₁.setTop (mkF m 4 #[.val (.int (4 : Int32)), .val (.int va), .val (.int vb), .val (.int vc), .val (.int vd), .val (.int (0 : Int32))] [(.int (4 : Int32))])) _
    refine XS.ifNo X0.here hx rfl (hb hby d9_4) rfl ((if0 _ _).trans (tlt (by decide : (0 : Int32) < (4 : Int32))).2.2.2) ?_
    show Steps p.tables e below (s₁.setTop (mkF m 7 #[.val (.int (4 : Int32)), .val (.int va), .val (.int vb), .val (.int vc), .val (.int vd), .val (.int (0 : Int32))] [])) _
    refine XS.iload X0.here hx rfl (hb hby d9_7) rfl ?_
    show Steps p.tables e below (s₁.setTop (mkF m 9 #[.val (.int (4 : Int32)), .val (.int va), .val (.int vb), .val (.int vc), .val (.int vd), .val (.int (0 : Int32))] [(.int (0 : Int32))])) _
    refine XS.iconst X0.here hx rfl (hb hby d9_9) ?_
    show Steps p.tables e below (s₁.setTop (mkF m 10 #[.val (.int (4 : Int32)), .val (.int va), .val (.int vb), .val (.int vc), .val (.int vd), .val (.int (0 : Int32))] [(.int (1 : Int32)), (.int (0 : Int32))])) _
    refine XS.iloadN X0.here hx rfl (hb hby d9_10) rfl ?_
    show Steps p.tables e below (s₁.setTop (mkF m 11 #[.val (.int (4 : Int32)), .val (.int va), .val (.int vb), .val (.int vc), .val (.int vd), .val (.int (0 : Int32))] [(.int va), (.int (1 : Int32)), (.int (0 : Int32))])) _
    refine XS.ishl X0.here hx rfl (hb hby d9_11) rfl ?_
    show Steps p.tables e below (s₁.setTop (mkF m 12 #[.val (.int (4 : Int32)), .val (.int va), .val (.int vb), .val (.int vc), .val (.int vd), .val (.int (0 : Int32))] [(.int ((1 : Int32) <<< (va &&& 31))), (.int (0 : Int32))])) _
    refine XS.ior X0.here hx rfl (hb hby d9_12) rfl ?_
    show Steps p.tables e below (s₁.setTop (mkF m 13 #[.val (.int (4 : Int32)), .val (.int va), .val (.int vb), .val (.int vc), .val (.int vd), .val (.int (0 : Int32))] [(.int ((0 : Int32) ||| ((1 : Int32) <<< (va &&& 31))))])) _
    refine XS.istore X0.here hx rfl (hb hby d9_13) rfl (l' := #[.val (.int (4 : Int32)), .val (.int va), .val (.int vb), .val (.int vc), .val (.int vd), .val (.int ((0 : Int32) ||| ((1 : Int32) <<< (va &&& 31))))]) rfl ?_
    show Steps p.tables e below (s₁.setTop (mkF m 15 #[.val (.int (4 : Int32)), .val (.int va), .val (.int vb), .val (.int vc), .val (.int vd), .val (.int ((0 : Int32) ||| ((1 : Int32) <<< (va &&& 31))))] [])) _
    refine XS.iloadN X0.here hx rfl (hb hby d9_15) rfl ?_
    show Steps p.tables e below (s₁.setTop (mkF m 16 #[.val (.int (4 : Int32)), .val (.int va), .val (.int vb), .val (.int vc), .val (.int vd), .val (.int ((0 : Int32) ||| ((1 : Int32) <<< (va &&& 31))))] [(.int (4 : Int32))])) _
    refine XS.iconst X0.here hx rfl (hb hby d9_16) ?_
    show Steps p.tables e below (s₁.setTop (mkF m 17 #[.val (.int (4 : Int32)), .val (.int va), .val (.int vb), .val (.int vc), .val (.int vd), .val (.int ((0 : Int32) ||| ((1 : Int32) <<< (va &&& 31))))] [(.int (1 : Int32)), (.int (4 : Int32))])) _
    refine XS.icmpNo X0.here hx rfl (hb hby d9_17) rfl (tlt (by decide : (1 : Int32) < (4 : Int32))).2.2.2 ?_
    show Steps p.tables e below (s₁.setTop (mkF m 20 #[.val (.int (4 : Int32)), .val (.int va), .val (.int vb), .val (.int vc), .val (.int vd), .val (.int ((0 : Int32) ||| ((1 : Int32) <<< (va &&& 31))))] [])) _
    refine XS.iload X0.here hx rfl (hb hby d9_20) rfl ?_
    show Steps p.tables e below (s₁.setTop (mkF m 22 #[.val (.int (4 : Int32)), .val (.int va), .val (.int vb), .val (.int vc), .val (.int vd), .val (.int ((0 : Int32) ||| ((1 : Int32) <<< (va &&& 31))))] [(.int ((0 : Int32) ||| ((1 : Int32) <<< (va &&& 31))))])) _
    refine XS.iconst X0.here hx rfl (hb hby d9_22) ?_
    show Steps p.tables e below (s₁.setTop (mkF m 23 #[.val (.int (4 : Int32)), .val (.int va), .val (.int vb), .val (.int vc), .val (.int vd), .val (.int ((0 : Int32) ||| ((1 : Int32) <<< (va &&& 31))))] [(.int (1 : Int32)), (.int ((0 : Int32) ||| ((1 : Int32) <<< (va &&& 31))))])) _
    refine XS.iloadN X0.here hx rfl (hb hby d9_23) rfl ?_
    show Steps p.tables e below (s₁.setTop (mkF m 24 #[.val (.int (4 : Int32)), .val (.int va), .val (.int vb), .val (.int vc), .val (.int vd), .val (.int ((0 : Int32) ||| ((1 : Int32) <<< (va &&& 31))))] [(.int vb), (.int (1 : Int32)), (.int ((0 : Int32) ||| ((1 : Int32) <<< (va &&& 31))))])) _
    refine XS.ishl X0.here hx rfl (hb hby d9_24) rfl ?_
    show Steps p.tables e below (s₁.setTop (mkF m 25 #[.val (.int (4 : Int32)), .val (.int va), .val (.int vb), .val (.int vc), .val (.int vd), .val (.int ((0 : Int32) ||| ((1 : Int32) <<< (va &&& 31))))] [(.int ((1 : Int32) <<< (vb &&& 31))), (.int ((0 : Int32) ||| ((1 : Int32) <<< (va &&& 31))))])) _
    refine XS.ior X0.here hx rfl (hb hby d9_25) rfl ?_
    show Steps p.tables e below (s₁.setTop (mkF m 26 #[.val (.int (4 : Int32)), .val (.int va), .val (.int vb), .val (.int vc), .val (.int vd), .val (.int ((0 : Int32) ||| ((1 : Int32) <<< (va &&& 31))))] [(.int (((0 : Int32) ||| ((1 : Int32) <<< (va &&& 31))) ||| ((1 : Int32) <<< (vb &&& 31))))])) _
    refine XS.istore X0.here hx rfl (hb hby d9_26) rfl (l' := #[.val (.int (4 : Int32)), .val (.int va), .val (.int vb), .val (.int vc), .val (.int vd), .val (.int (((0 : Int32) ||| ((1 : Int32) <<< (va &&& 31))) ||| ((1 : Int32) <<< (vb &&& 31))))]) rfl ?_
    show Steps p.tables e below (s₁.setTop (mkF m 28 #[.val (.int (4 : Int32)), .val (.int va), .val (.int vb), .val (.int vc), .val (.int vd), .val (.int (((0 : Int32) ||| ((1 : Int32) <<< (va &&& 31))) ||| ((1 : Int32) <<< (vb &&& 31))))] [])) _
    refine XS.iloadN X0.here hx rfl (hb hby d9_28) rfl ?_
    show Steps p.tables e below (s₁.setTop (mkF m 29 #[.val (.int (4 : Int32)), .val (.int va), .val (.int vb), .val (.int vc), .val (.int vd), .val (.int (((0 : Int32) ||| ((1 : Int32) <<< (va &&& 31))) ||| ((1 : Int32) <<< (vb &&& 31))))] [(.int (4 : Int32))])) _
    refine XS.iconst X0.here hx rfl (hb hby d9_29) ?_
    show Steps p.tables e below (s₁.setTop (mkF m 30 #[.val (.int (4 : Int32)), .val (.int va), .val (.int vb), .val (.int vc), .val (.int vd), .val (.int (((0 : Int32) ||| ((1 : Int32) <<< (va &&& 31))) ||| ((1 : Int32) <<< (vb &&& 31))))] [(.int (2 : Int32)), (.int (4 : Int32))])) _
    refine XS.icmpNo X0.here hx rfl (hb hby d9_30) rfl (tlt (by decide : (2 : Int32) < (4 : Int32))).2.2.2 ?_
    show Steps p.tables e below (s₁.setTop (mkF m 33 #[.val (.int (4 : Int32)), .val (.int va), .val (.int vb), .val (.int vc), .val (.int vd), .val (.int (((0 : Int32) ||| ((1 : Int32) <<< (va &&& 31))) ||| ((1 : Int32) <<< (vb &&& 31))))] [])) _
    refine XS.iload X0.here hx rfl (hb hby d9_33) rfl ?_
    show Steps p.tables e below (s₁.setTop (mkF m 35 #[.val (.int (4 : Int32)), .val (.int va), .val (.int vb), .val (.int vc), .val (.int vd), .val (.int (((0 : Int32) ||| ((1 : Int32) <<< (va &&& 31))) ||| ((1 : Int32) <<< (vb &&& 31))))] [(.int (((0 : Int32) ||| ((1 : Int32) <<< (va &&& 31))) ||| ((1 : Int32) <<< (vb &&& 31))))])) _
    refine XS.iconst X0.here hx rfl (hb hby d9_35) ?_
    show Steps p.tables e below (s₁.setTop (mkF m 36 #[.val (.int (4 : Int32)), .val (.int va), .val (.int vb), .val (.int vc), .val (.int vd), .val (.int (((0 : Int32) ||| ((1 : Int32) <<< (va &&& 31))) ||| ((1 : Int32) <<< (vb &&& 31))))] [(.int (1 : Int32)), (.int (((0 : Int32) ||| ((1 : Int32) <<< (va &&& 31))) ||| ((1 : Int32) <<< (vb &&& 31))))])) _
    refine XS.iloadN X0.here hx rfl (hb hby d9_36) rfl ?_
    show Steps p.tables e below (s₁.setTop (mkF m 37 #[.val (.int (4 : Int32)), .val (.int va), .val (.int vb), .val (.int vc), .val (.int vd), .val (.int (((0 : Int32) ||| ((1 : Int32) <<< (va &&& 31))) ||| ((1 : Int32) <<< (vb &&& 31))))] [(.int vc), (.int (1 : Int32)), (.int (((0 : Int32) ||| ((1 : Int32) <<< (va &&& 31))) ||| ((1 : Int32) <<< (vb &&& 31))))])) _
    refine XS.ishl X0.here hx rfl (hb hby d9_37) rfl ?_
    show Steps p.tables e below (s₁.setTop (mkF m 38 #[.val (.int (4 : Int32)), .val (.int va), .val (.int vb), .val (.int vc), .val (.int vd), .val (.int (((0 : Int32) ||| ((1 : Int32) <<< (va &&& 31))) ||| ((1 : Int32) <<< (vb &&& 31))))] [(.int ((1 : Int32) <<< (vc &&& 31))), (.int (((0 : Int32) ||| ((1 : Int32) <<< (va &&& 31))) ||| ((1 : Int32) <<< (vb &&& 31))))])) _
    refine XS.ior X0.here hx rfl (hb hby d9_38) rfl ?_
    show Steps p.tables e below (s₁.setTop (mkF m 39 #[.val (.int (4 : Int32)), .val (.int va), .val (.int vb), .val (.int vc), .val (.int vd), .val (.int (((0 : Int32) ||| ((1 : Int32) <<< (va &&& 31))) ||| ((1 : Int32) <<< (vb &&& 31))))] [(.int ((((0 : Int32) ||| ((1 : Int32) <<< (va &&& 31))) ||| ((1 : Int32) <<< (vb &&& 31))) ||| ((1 : Int32) <<< (vc &&& 31))))])) _
    refine XS.istore X0.here hx rfl (hb hby d9_39) rfl (l' := #[.val (.int (4 : Int32)), .val (.int va), .val (.int vb), .val (.int vc), .val (.int vd), .val (.int ((((0 : Int32) ||| ((1 : Int32) <<< (va &&& 31))) ||| ((1 : Int32) <<< (vb &&& 31))) ||| ((1 : Int32) <<< (vc &&& 31))))]) rfl ?_
    show Steps p.tables e below (s₁.setTop (mkF m 41 #[.val (.int (4 : Int32)), .val (.int va), .val (.int vb), .val (.int vc), .val (.int vd), .val (.int ((((0 : Int32) ||| ((1 : Int32) <<< (va &&& 31))) ||| ((1 : Int32) <<< (vb &&& 31))) ||| ((1 : Int32) <<< (vc &&& 31))))] [])) _
    refine XS.iloadN X0.here hx rfl (hb hby d9_41) rfl ?_
    show Steps p.tables e below (s₁.setTop (mkF m 42 #[.val (.int (4 : Int32)), .val (.int va), .val (.int vb), .val (.int vc), .val (.int vd), .val (.int ((((0 : Int32) ||| ((1 : Int32) <<< (va &&& 31))) ||| ((1 : Int32) <<< (vb &&& 31))) ||| ((1 : Int32) <<< (vc &&& 31))))] [(.int (4 : Int32))])) _
    refine XS.iconst X0.here hx rfl (hb hby d9_42) ?_
    show Steps p.tables e below (s₁.setTop (mkF m 43 #[.val (.int (4 : Int32)), .val (.int va), .val (.int vb), .val (.int vc), .val (.int vd), .val (.int ((((0 : Int32) ||| ((1 : Int32) <<< (va &&& 31))) ||| ((1 : Int32) <<< (vb &&& 31))) ||| ((1 : Int32) <<< (vc &&& 31))))] [(.int (3 : Int32)), (.int (4 : Int32))])) _
    refine XS.icmpNo X0.here hx rfl (hb hby d9_43) rfl (tlt (by decide : (3 : Int32) < (4 : Int32))).2.2.2 ?_
    show Steps p.tables e below (s₁.setTop (mkF m 46 #[.val (.int (4 : Int32)), .val (.int va), .val (.int vb), .val (.int vc), .val (.int vd), .val (.int ((((0 : Int32) ||| ((1 : Int32) <<< (va &&& 31))) ||| ((1 : Int32) <<< (vb &&& 31))) ||| ((1 : Int32) <<< (vc &&& 31))))] [])) _
    refine XS.iload X0.here hx rfl (hb hby d9_46) rfl ?_
    show Steps p.tables e below (s₁.setTop (mkF m 48 #[.val (.int (4 : Int32)), .val (.int va), .val (.int vb), .val (.int vc), .val (.int vd), .val (.int ((((0 : Int32) ||| ((1 : Int32) <<< (va &&& 31))) ||| ((1 : Int32) <<< (vb &&& 31))) ||| ((1 : Int32) <<< (vc &&& 31))))] [(.int ((((0 : Int32) ||| ((1 : Int32) <<< (va &&& 31))) ||| ((1 : Int32) <<< (vb &&& 31))) ||| ((1 : Int32) <<< (vc &&& 31))))])) _
    refine XS.iconst X0.here hx rfl (hb hby d9_48) ?_
    show Steps p.tables e below (s₁.setTop (mkF m 49 #[.val (.int (4 : Int32)), .val (.int va), .val (.int vb), .val (.int vc), .val (.int vd), .val (.int ((((0 : Int32) ||| ((1 : Int32) <<< (va &&& 31))) ||| ((1 : Int32) <<< (vb &&& 31))) ||| ((1 : Int32) <<< (vc &&& 31))))] [(.int (1 : Int32)), (.int ((((0 : Int32) ||| ((1 : Int32) <<< (va &&& 31))) ||| ((1 : Int32) <<< (vb &&& 31))) ||| ((1 : Int32) <<< (vc &&& 31))))])) _
    refine XS.iload X0.here hx rfl (hb hby d9_49) rfl ?_
    show Steps p.tables e below (s₁.setTop (mkF m 51 #[.val (.int (4 : Int32)), .val (.int va), .val (.int vb), .val (.int vc), .val (.int vd), .val (.int ((((0 : Int32) ||| ((1 : Int32) <<< (va &&& 31))) ||| ((1 : Int32) <<< (vb &&& 31))) ||| ((1 : Int32) <<< (vc &&& 31))))] [(.int vd), (.int (1 : Int32)), (.int ((((0 : Int32) ||| ((1 : Int32) <<< (va &&& 31))) ||| ((1 : Int32) <<< (vb &&& 31))) ||| ((1 : Int32) <<< (vc &&& 31))))])) _
    refine XS.ishl X0.here hx rfl (hb hby d9_51) rfl ?_
    show Steps p.tables e below (s₁.setTop (mkF m 52 #[.val (.int (4 : Int32)), .val (.int va), .val (.int vb), .val (.int vc), .val (.int vd), .val (.int ((((0 : Int32) ||| ((1 : Int32) <<< (va &&& 31))) ||| ((1 : Int32) <<< (vb &&& 31))) ||| ((1 : Int32) <<< (vc &&& 31))))] [(.int ((1 : Int32) <<< (vd &&& 31))), (.int ((((0 : Int32) ||| ((1 : Int32) <<< (va &&& 31))) ||| ((1 : Int32) <<< (vb &&& 31))) ||| ((1 : Int32) <<< (vc &&& 31))))])) _
    refine XS.ior X0.here hx rfl (hb hby d9_52) rfl ?_
    show Steps p.tables e below (s₁.setTop (mkF m 53 #[.val (.int (4 : Int32)), .val (.int va), .val (.int vb), .val (.int vc), .val (.int vd), .val (.int ((((0 : Int32) ||| ((1 : Int32) <<< (va &&& 31))) ||| ((1 : Int32) <<< (vb &&& 31))) ||| ((1 : Int32) <<< (vc &&& 31))))] [(.int (((((0 : Int32) ||| ((1 : Int32) <<< (va &&& 31))) ||| ((1 : Int32) <<< (vb &&& 31))) ||| ((1 : Int32) <<< (vc &&& 31))) ||| ((1 : Int32) <<< (vd &&& 31))))])) _
    refine XS.istore X0.here hx rfl (hb hby d9_53) rfl (l' := #[.val (.int (4 : Int32)), .val (.int va), .val (.int vb), .val (.int vc), .val (.int vd), .val (.int (((((0 : Int32) ||| ((1 : Int32) <<< (va &&& 31))) ||| ((1 : Int32) <<< (vb &&& 31))) ||| ((1 : Int32) <<< (vc &&& 31))) ||| ((1 : Int32) <<< (vd &&& 31))))]) rfl ?_
    show Steps p.tables e below (s₁.setTop (mkF m 55 #[.val (.int (4 : Int32)), .val (.int va), .val (.int vb), .val (.int vc), .val (.int vd), .val (.int (((((0 : Int32) ||| ((1 : Int32) <<< (va &&& 31))) ||| ((1 : Int32) <<< (vb &&& 31))) ||| ((1 : Int32) <<< (vc &&& 31))) ||| ((1 : Int32) <<< (vd &&& 31))))] [])) _
    refine XS.iload X0.here hx rfl (hb hby d9_55) rfl ?_
    show Steps p.tables e below (s₁.setTop (mkF m 57 #[.val (.int (4 : Int32)), .val (.int va), .val (.int vb), .val (.int vc), .val (.int vd), .val (.int (((((0 : Int32) ||| ((1 : Int32) <<< (va &&& 31))) ||| ((1 : Int32) <<< (vb &&& 31))) ||| ((1 : Int32) <<< (vc &&& 31))) ||| ((1 : Int32) <<< (vd &&& 31))))] [(.int (((((0 : Int32) ||| ((1 : Int32) <<< (va &&& 31))) ||| ((1 : Int32) <<< (vb &&& 31))) ||| ((1 : Int32) <<< (vc &&& 31))) ||| ((1 : Int32) <<< (vd &&& 31))))])) _
    exact Jvm.RoadKit.retI X0 hx Bd.returns (hb hby d9_57) hr
  · exact ⟨rfl, N0, e0⟩
theorem d8_0 : decode method_6_code 0 = .ok (.aload_n 0, 1) := by decide +kernel
theorem d8_1 : decode method_6_code 1 = .ok (.arraylength, 1) := by decide +kernel
theorem d8_2 : decode method_6_code 2 = .ok (.istore_n 1, 1) := by decide +kernel
theorem d8_3 : decode method_6_code 3 = .ok (.iload_n 1, 1) := by decide +kernel
theorem d8_4 : decode method_6_code 4 = .ok (.iconst 4, 1) := by decide +kernel
theorem d8_5 : decode method_6_code 5 = .ok (.if_icmp .le 5, 3) := by decide +kernel
theorem d8_10 : decode method_6_code 10 = .ok (.iconst 0, 1) := by decide +kernel
theorem d8_11 : decode method_6_code 11 = .ok (.istore_n 2, 1) := by decide +kernel
theorem d8_12 : decode method_6_code 12 = .ok (.iload_n 1, 1) := by decide +kernel
theorem d8_13 : decode method_6_code 13 = .ok (.ifCond .le 11, 3) := by decide +kernel
theorem d8_16 : decode method_6_code 16 = .ok (.iload_n 2, 1) := by decide +kernel
theorem d8_17 : decode method_6_code 17 = .ok (.aload_n 0, 1) := by decide +kernel
theorem d8_18 : decode method_6_code 18 = .ok (.iconst 0, 1) := by decide +kernel
theorem d8_19 : decode method_6_code 19 = .ok (.iaload, 1) := by decide +kernel
theorem d12_0 : decode method_5_code 0 = .ok (.iload_n 0, 1) := by decide +kernel
theorem d12_1 : decode method_5_code 1 = .ok (.ifCond .lt 12, 3) := by decide +kernel
theorem d12_4 : decode method_5_code 4 = .ok (.iload_n 1, 1) := by decide +kernel
theorem d12_5 : decode method_5_code 5 = .ok (.ifCond .lt 8, 3) := by decide +kernel
theorem d12_8 : decode method_5_code 8 = .ok (.iload_n 1, 1) := by decide +kernel
theorem d12_9 : decode method_5_code 9 = .ok (.iconst 3, 1) := by decide +kernel
theorem d12_10 : decode method_5_code 10 = .ok (.if_icmp .le 5, 3) := by decide +kernel
theorem d12_15 : decode method_5_code 15 = .ok (.iconst 1, 1) := by decide +kernel
theorem d12_16 : decode method_5_code 16 = .ok (.iload_n 1, 1) := by decide +kernel
theorem d12_17 : decode method_5_code 17 = .ok (.ishl, 1) := by decide +kernel
theorem d12_18 : decode method_5_code 18 = .ok (.istore_n 2, 1) := by decide +kernel
theorem d12_19 : decode method_5_code 19 = .ok (.iload_n 0, 1) := by decide +kernel
theorem d12_20 : decode method_5_code 20 = .ok (.iload_n 2, 1) := by decide +kernel
theorem d12_21 : decode method_5_code 21 = .ok (.iand, 1) := by decide +kernel
theorem d12_22 : decode method_5_code 22 = .ok (.ifCond .eq 5, 3) := by decide +kernel
theorem d12_27 : decode method_5_code 27 = .ok (.iload_n 0, 1) := by decide +kernel
theorem d12_28 : decode method_5_code 28 = .ok (.iload_n 2, 1) := by decide +kernel
theorem d12_29 : decode method_5_code 29 = .ok (.ior, 1) := by decide +kernel
theorem d12_30 : decode method_5_code 30 = .ok (.ireturn, 1) := by decide +kernel
theorem ef297 (m : MethodId) (x0 : Int32) (x1 : Int32) : entryFrame m #[(.int x0), (.int x1)] 3 = mkF m 0 #[.val (.int x0), .val (.int x1), .unset] [] := by first | (simp [entryFrame, mkF, argsToLocals, Value.category]; done) | rfl
def Q12_13 (Z : State) (q0 : Int32) (h0 : Heap) (n0 : Nat) (v : Option Value) (h : Heap) (L : List Loc) : Prop := v = some (.int ((0 : Int32) ||| ((1 : Int32) <<< (q0 &&& 31)))) ∧ Fr n0 L ∧ h = h0
set_option maxRecDepth 65536 in
set_option maxHeartbeats 40000000 in
theorem rm12_13 (l : Launch) (Z : State) (a0 : Array Value) (hw : ∀ d ∈ tables_1, d.before a0 Z = true) (ws : List Jvm.Cond) (q0 : Int32) (h0 : Heap) (n0 : Nat) (Z0 : n0 ≤ h0.size) (O0 : Old Z n0 h0) (hd0 : ¬ (q0 < (0 : Int32))) (hd1 : ¬ ((3 : Int32) < q0)) (hd2 : ((0 : Int32) &&& ((1 : Int32) <<< (q0 &&& 31))) = (0 : Int32)) :
    MetFree l (⟨"com/example/caprice/caprice/solver/DomainsGatherReasonsPinLaw", "add", "(II)I"⟩ : MethodName) (head1 (Jvm.Cond.code (⟨"com/example/caprice/caprice/solver/DomainsGatherReasonsPinLaw", "add", "(II)I"⟩ : MethodName) method_5_code 3 (some .int) :: ws) ({ frames := 0, cells := 0, slots := 0, locals := 0 } : Room)) (fun a U => a = #[(.int (0 : Int32)), (.int q0)] ∧ Z.Warmed39 U.vm ∧ U.heap = h0) (fun _ _ _ _ _ => True) (fun _ U o U' => ∃ v L, o = .returned v ∧ Q12_13 Z  q0 h0 n0 v U'.heap L ∧ FrameEnd U o U' L ({ frames := 0, cells := 0, slots := 0, locals := 0 } : Room).cells ({ frames := 0, cells := 0, slots := 0, locals := 0 } : Room).slots) := by
  refine MetFree.of_bodySF (plainFor_of_name pn152) hisR ?_
  intro p e s m args below meth c s₁ Bd hml0 hP hK
  obtain ⟨rfl, hZ, hh⟩ := hP
  have hx := Bd.exec
  have hby := Bd.bytes
  have hml : c.maxLocals = 3 := hml0
  have hown : s.vm.findClass "com/example/caprice/caprice/solver/DomainsGatherReasonsPinLaw" = some m.cls := findClass_of_methodNamed Bd.named
  have hnm := (name_of_methodNamed Bd.named Bd.method).1
  have X0 : Stand p l e ({ frames := 0, cells := 0, slots := 0, locals := 0 } : Room) s m #[(.int (0 : Int32)), (.int q0)] below meth c s₁ [] 0 0 := Stand.of_body Bd
  have e0 : s₁.heap = h0 := by rw [← hh, Bd.state]; rfl
  have N0 := Fr.nil n0
  have pre0 : ∀ t, Steps p.tables e below (s₁.setTop (mkF m 0 #[.val (.int (0 : Int32)), .val (.int q0), .unset] [])) t → Steps p.tables e below (s₁.setTop (entryFrame m #[(.int (0 : Int32)), (.int q0)] 3)) t := fun t k => castTop (ef297 m (0 : Int32) q0) k
  obtain ⟨fs, hr, hrun, hended, hW, hsame⟩ := X0.leave (v := some (.int ((0 : Int32) ||| ((1 : Int32) <<< (q0 &&& 31))))) (fun h => by rw [Bd.returns] at h; cases h)
  refine ⟨_, _, pre0 _ ?_, hrun, hended, _, _, rfl, ?_, ⟨_, rfl⟩, hW, hsame.mono (by decide) (by decide)⟩
  · show Steps p.tables e below (s₁.setTop (mkF m 0 #[.val (.int (0 : Int32)), .val (.int q0), .unset] [])) _
    refine XS.iloadN X0.here hx rfl (hb hby d12_0) rfl ?_
    show Steps p.tables e below (s₁.setTop (mkF m 1 #[.val (.int (0 : Int32)), .val (.int q0), .unset] [(.int (0 : Int32))])) _
    refine XS.ifNo X0.here hx rfl (hb hby d12_1) rfl ((if0 _ _).trans (flt (by decide : ¬ ((0 : Int32) < (0 : Int32)))).1) ?_
    show Steps p.tables e below (s₁.setTop (mkF m 4 #[.val (.int (0 : Int32)), .val (.int q0), .unset] [])) _
    refine XS.iloadN X0.here hx rfl (hb hby d12_4) rfl ?_
    show Steps p.tables e below (s₁.setTop (mkF m 5 #[.val (.int (0 : Int32)), .val (.int q0), .unset] [(.int q0)])) _
    refine XS.ifNo X0.here hx rfl (hb hby d12_5) rfl ((if0 _ _).trans (flt hd0).1) ?_
    show Steps p.tables e below (s₁.setTop (mkF m 8 #[.val (.int (0 : Int32)), .val (.int q0), .unset] [])) _
    refine XS.iloadN X0.here hx rfl (hb hby d12_8) rfl ?_
    show Steps p.tables e below (s₁.setTop (mkF m 9 #[.val (.int (0 : Int32)), .val (.int q0), .unset] [(.int q0)])) _
    refine XS.iconst X0.here hx rfl (hb hby d12_9) ?_
    show Steps p.tables e below (s₁.setTop (mkF m 10 #[.val (.int (0 : Int32)), .val (.int q0), .unset] [(.int (3 : Int32)), (.int q0)])) _
    refine XS.icmpYes X0.here hx rfl (pc0 := 10) (pc' := 15) rfl (hb hby d12_10) rfl (flt hd1).2.2.2 (by decide) (by decide) ?_
    show Steps p.tables e below (s₁.setTop (mkF m 15 #[.val (.int (0 : Int32)), .val (.int q0), .unset] [])) _
    refine XS.iconst X0.here hx rfl (hb hby d12_15) ?_
    show Steps p.tables e below (s₁.setTop (mkF m 16 #[.val (.int (0 : Int32)), .val (.int q0), .unset] [(.int (1 : Int32))])) _
    refine XS.iloadN X0.here hx rfl (hb hby d12_16) rfl ?_
    show Steps p.tables e below (s₁.setTop (mkF m 17 #[.val (.int (0 : Int32)), .val (.int q0), .unset] [(.int q0), (.int (1 : Int32))])) _
    refine XS.ishl X0.here hx rfl (hb hby d12_17) rfl ?_
    show Steps p.tables e below (s₁.setTop (mkF m 18 #[.val (.int (0 : Int32)), .val (.int q0), .unset] [(.int ((1 : Int32) <<< (q0 &&& 31)))])) _
    refine XS.istoreN X0.here hx rfl (hb hby d12_18) rfl (l' := #[.val (.int (0 : Int32)), .val (.int q0), .val (.int ((1 : Int32) <<< (q0 &&& 31)))]) rfl ?_
    show Steps p.tables e below (s₁.setTop (mkF m 19 #[.val (.int (0 : Int32)), .val (.int q0), .val (.int ((1 : Int32) <<< (q0 &&& 31)))] [])) _
    refine XS.iloadN X0.here hx rfl (hb hby d12_19) rfl ?_
    show Steps p.tables e below (s₁.setTop (mkF m 20 #[.val (.int (0 : Int32)), .val (.int q0), .val (.int ((1 : Int32) <<< (q0 &&& 31)))] [(.int (0 : Int32))])) _
    refine XS.iloadN X0.here hx rfl (hb hby d12_20) rfl ?_
    show Steps p.tables e below (s₁.setTop (mkF m 21 #[.val (.int (0 : Int32)), .val (.int q0), .val (.int ((1 : Int32) <<< (q0 &&& 31)))] [(.int ((1 : Int32) <<< (q0 &&& 31))), (.int (0 : Int32))])) _
    refine XS.iand X0.here hx rfl (hb hby d12_21) rfl ?_
    show Steps p.tables e below (s₁.setTop (mkF m 22 #[.val (.int (0 : Int32)), .val (.int q0), .val (.int ((1 : Int32) <<< (q0 &&& 31)))] [(.int ((0 : Int32) &&& ((1 : Int32) <<< (q0 &&& 31))))])) _
    refine XS.ifYes X0.here hx rfl (pc0 := 22) (pc' := 27) rfl (hb hby d12_22) rfl ((if0 _ _).trans (teq hd2).1) (by decide) (by decide) ?_
    show Steps p.tables e below (s₁.setTop (mkF m 27 #[.val (.int (0 : Int32)), .val (.int q0), .val (.int ((1 : Int32) <<< (q0 &&& 31)))] [])) _
    refine XS.iloadN X0.here hx rfl (hb hby d12_27) rfl ?_
    show Steps p.tables e below (s₁.setTop (mkF m 28 #[.val (.int (0 : Int32)), .val (.int q0), .val (.int ((1 : Int32) <<< (q0 &&& 31)))] [(.int (0 : Int32))])) _
    refine XS.iloadN X0.here hx rfl (hb hby d12_28) rfl ?_
    show Steps p.tables e below (s₁.setTop (mkF m 29 #[.val (.int (0 : Int32)), .val (.int q0), .val (.int ((1 : Int32) <<< (q0 &&& 31)))] [(.int ((1 : Int32) <<< (q0 &&& 31))), (.int (0 : Int32))])) _
    refine XS.ior X0.here hx rfl (hb hby d12_29) rfl ?_
    show Steps p.tables e below (s₁.setTop (mkF m 30 #[.val (.int (0 : Int32)), .val (.int q0), .val (.int ((1 : Int32) <<< (q0 &&& 31)))] [(.int ((0 : Int32) ||| ((1 : Int32) <<< (q0 &&& 31))))])) _
    exact Jvm.RoadKit.retI X0 hx Bd.returns (hb hby d12_30) hr
  · exact ⟨rfl, N0, e0⟩
theorem pd298 : parseMethodDescriptor "(II)I" = some ⟨[.int, .int], some .int⟩ := by decide +kernel
theorem d8_20 : decode method_6_code 20 = .ok (.invokestatic 38, 3) := by decide +kernel
theorem d8_23 : decode method_6_code 23 = .ok (.istore_n 2, 1) := by decide +kernel
theorem d8_24 : decode method_6_code 24 = .ok (.iload_n 1, 1) := by decide +kernel
theorem d8_25 : decode method_6_code 25 = .ok (.iconst 1, 1) := by decide +kernel
theorem d8_26 : decode method_6_code 26 = .ok (.if_icmp .le 11, 3) := by decide +kernel
theorem d8_37 : decode method_6_code 37 = .ok (.iload_n 1, 1) := by decide +kernel
theorem d8_38 : decode method_6_code 38 = .ok (.iconst 2, 1) := by decide +kernel
theorem d8_39 : decode method_6_code 39 = .ok (.if_icmp .le 11, 3) := by decide +kernel
theorem d8_50 : decode method_6_code 50 = .ok (.iload_n 1, 1) := by decide +kernel
theorem d8_51 : decode method_6_code 51 = .ok (.iconst 3, 1) := by decide +kernel
theorem d8_52 : decode method_6_code 52 = .ok (.if_icmp .le 11, 3) := by decide +kernel
theorem d8_63 : decode method_6_code 63 = .ok (.iload_n 2, 1) := by decide +kernel
theorem d8_64 : decode method_6_code 64 = .ok (.ireturn, 1) := by decide +kernel
theorem ef313 (m : MethodId) (x0 : Addr) : entryFrame m #[(.ref x0)] 3 = mkF m 0 #[.val (.ref x0), .unset, .unset] [] := by first | (simp [entryFrame, mkF, argsToLocals, Value.category]; done) | rfl
def Q8_14 (Z : State) (ob0 : Addr) (k_ob0 : ClassId) (va : Int32) (h0 : Heap) (n0 : Nat) (v : Option Value) (h : Heap) (L : List Loc) : Prop := v = some (.int ((0 : Int32) ||| ((1 : Int32) <<< (va &&& 31)))) ∧ Fr n0 L ∧ h = h0
set_option maxRecDepth 65536 in
set_option maxHeartbeats 40000000 in
theorem rm8_14 (l : Launch) (Z : State) (a0 : Array Value) (hw : ∀ d ∈ tables_1, d.before a0 Z = true) (ws : List Jvm.Cond) (ob0 : Addr) (k_ob0 : ClassId) (va : Int32) (h0 : Heap) (n0 : Nat) (Z0 : n0 ≤ h0.size) (O0 : Old Z n0 h0) (PV_ob0 : Arv Z h0 ob0 k_ob0 .int (1 : Int32) [(.int va)] (.int (0 : Int32))) (hd0 : ¬ (va < (0 : Int32))) (hd1 : ¬ ((3 : Int32) < va)) (hd2 : ((0 : Int32) &&& ((1 : Int32) <<< (va &&& 31))) = (0 : Int32)) :
    MetFree l (⟨"com/example/caprice/caprice/solver/DomainsGatherReasonsPinLaw", "maskOf", "([I)I"⟩ : MethodName) (head1 (Jvm.Cond.code (⟨"com/example/caprice/caprice/solver/DomainsGatherReasonsPinLaw", "maskOf", "([I)I"⟩ : MethodName) method_6_code 3 (some .int) :: ws) ({ frames := 1, cells := 0, slots := 0, locals := 14 } : Room)) (fun a U => a = #[(.ref ob0)] ∧ Z.Warmed39 U.vm ∧ U.heap = h0) (fun _ _ _ _ _ => True) (fun _ U o U' => ∃ v L, o = .returned v ∧ Q8_14 Z  ob0 k_ob0 va h0 n0 v U'.heap L ∧ FrameEnd U o U' L ({ frames := 1, cells := 0, slots := 0, locals := 14 } : Room).cells ({ frames := 1, cells := 0, slots := 0, locals := 14 } : Room).slots) := by
  refine MetFree.of_bodySF (plainFor_of_name pn152) hisR ?_
  intro p e s m args below meth c s₁ Bd hml0 hP hK
  obtain ⟨rfl, hZ, hh⟩ := hP
  have hx := Bd.exec
  have hby := Bd.bytes
  have hml : c.maxLocals = 3 := hml0
  have hown : s.vm.findClass "com/example/caprice/caprice/solver/DomainsGatherReasonsPinLaw" = some m.cls := findClass_of_methodNamed Bd.named
  have hnm := (name_of_methodNamed Bd.named Bd.method).1
  have X0 : Stand p l e ({ frames := 1, cells := 0, slots := 0, locals := 14 } : Room) s m #[(.ref ob0)] below meth c s₁ [] 0 0 := Stand.of_body Bd
  have e0 : s₁.heap = h0 := by rw [← hh, Bd.state]; rfl
  have N0 := Fr.nil n0
  have pre0 : ∀ t, Steps p.tables e below (s₁.setTop (mkF m 0 #[.val (.ref ob0), .unset, .unset] [])) t → Steps p.tables e below (s₁.setTop (entryFrame m #[(.ref ob0)] 3)) t := fun t k => castTop (ef313 m ob0) k
  obtain ⟨ac1, aA1, aq1, aS1, aN1, aH1, aG1⟩ := id PV_ob0
  obtain ⟨ac2, aA2, aq2, aS2, aN2, aH2, aG2⟩ := id PV_ob0
  obtain ⟨_, _, ⟨T3, L3, k3, n3⟩, -, X3, ⟨Lc3, hQ3, l3, y3, z3⟩, st3⟩ := Jvm.LawKit.callS X0 hx (y := (⟨"com/example/caprice/caprice/solver/DomainsGatherReasonsPinLaw", "add", "(II)I"⟩ : MethodName)) hown (mvT hZ (hw _ (List.mem_of_getElem? (i := 77) rfl))) (mvT hZ (hw _ (List.mem_of_getElem? (i := 78) rfl))) (mvT hZ (hw _ (List.mem_of_getElem? (i := 2) rfl))) (mvT hZ (hw _ (List.mem_of_getElem? (i := 79) rfl))) (by decide) (backOf (W := 0) (rm12_13 l Z a0 hw []  va h0 n0 (own_n0 O0) O0 hd0 hd1 hd2) hZ (hw _ (List.mem_of_getElem? (i := 79) rfl)) (hw _ (List.mem_of_getElem? (i := 2) rfl)) (by decide) (by decide)) (g := (mkF m 20 #[.val (.ref ob0), .val (.int (1 : Int32)), .val (.int (0 : Int32))] [(.int va), (.int (0 : Int32))])) rfl (by rw [hml]; rfl) (argsL := [(.int (0 : Int32)), (.int va)]) (rest := []) (lenOf pd298 rfl) rfl (by show 2 * 0 + _ ≤ _; exact Nat.le_of_eq rfl) (hb hby d8_20) (fun _ _ => ⟨rfl, e0, (by decide : 0 + 0 ≤ _), (by decide : 0 + 0 ≤ _)⟩)
  dsimp only [Pt.U, Pt.locs, Pt.cells, Pt.slots] at X3 l3 y3 z3 st3 hQ3
  subst l3 y3 z3
  obtain ⟨rfl, N3q, e3⟩ := hQ3
  have N3 := Fr.app N0 N3q
  obtain ⟨fs, hr, hrun, hended, hW, hsame⟩ := X3.leave (v := some (.int ((0 : Int32) ||| ((1 : Int32) <<< (va &&& 31))))) (fun h => by rw [Bd.returns] at h; cases h)
  refine ⟨_, _, pre0 _ ?_, hrun, hended, _, _, rfl, ?_, ⟨_, rfl⟩, hW, hsame.mono (by decide) (by decide)⟩
  · show Steps p.tables e below (s₁.setTop (mkF m 0 #[.val (.ref ob0), .unset, .unset] [])) _
    refine XS.aloadN X0.here hx rfl (hb hby d8_0) rfl rfl ?_
    show Steps p.tables e below (s₁.setTop (mkF m 1 #[.val (.ref ob0), .unset, .unset] [(.ref ob0)])) _
    refine X0.arraylength hx (by rw [e0]; exact aA1.1) (State.isArrayOf_alike hZ.alike aA1.2.1) (g := (mkF m 1 #[.val (.ref ob0), .unset, .unset] [(.ref ob0)])) rfl rfl (hb hby d8_1) _ ?_
    rw [len_of aS1 aN1]
    show Steps p.tables e below (s₁.setTop (mkF m 2 #[.val (.ref ob0), .unset, .unset] [(.int (1 : Int32))])) _
    refine XS.istoreN X0.here hx rfl (hb hby d8_2) rfl (l' := #[.val (.ref ob0), .val (.int (1 : Int32)), .unset]) rfl ?_
    show Steps p.tables e below (s₁.setTop (mkF m 3 #[.val (.ref ob0), .val (.int (1 : Int32)), .unset] [])) _
    refine XS.iloadN X0.here hx rfl (hb hby d8_3) rfl ?_
    show Steps p.tables e below (s₁.setTop (mkF m 4 #[.val (.ref ob0), .val (.int (1 : Int32)), .unset] [(.int (1 : Int32))])) _
    refine XS.iconst X0.here hx rfl (hb hby d8_4) ?_
    show Steps p.tables e below (s₁.setTop (mkF m 5 #[.val (.ref ob0), .val (.int (1 : Int32)), .unset] [(.int (4 : Int32)), (.int (1 : Int32))])) _
    refine XS.icmpYes X0.here hx rfl (pc0 := 5) (pc' := 10) rfl (hb hby d8_5) rfl (flt (by decide : ¬ ((4 : Int32) < (1 : Int32)))).2.2.2 (by decide) (by decide) ?_
    show Steps p.tables e below (s₁.setTop (mkF m 10 #[.val (.ref ob0), .val (.int (1 : Int32)), .unset] [])) _
    refine XS.iconst X0.here hx rfl (hb hby d8_10) ?_
    show Steps p.tables e below (s₁.setTop (mkF m 11 #[.val (.ref ob0), .val (.int (1 : Int32)), .unset] [(.int (0 : Int32))])) _
    refine XS.istoreN X0.here hx rfl (hb hby d8_11) rfl (l' := #[.val (.ref ob0), .val (.int (1 : Int32)), .val (.int (0 : Int32))]) rfl ?_
    show Steps p.tables e below (s₁.setTop (mkF m 12 #[.val (.ref ob0), .val (.int (1 : Int32)), .val (.int (0 : Int32))] [])) _
    refine XS.iloadN X0.here hx rfl (hb hby d8_12) rfl ?_
    show Steps p.tables e below (s₁.setTop (mkF m 13 #[.val (.ref ob0), .val (.int (1 : Int32)), .val (.int (0 : Int32))] [(.int (1 : Int32))])) _
    refine XS.ifNo X0.here hx rfl (hb hby d8_13) rfl ((if0 _ _).trans (tlt (by decide : (0 : Int32) < (1 : Int32))).2.2.2) ?_
    show Steps p.tables e below (s₁.setTop (mkF m 16 #[.val (.ref ob0), .val (.int (1 : Int32)), .val (.int (0 : Int32))] [])) _
    refine XS.iloadN X0.here hx rfl (hb hby d8_16) rfl ?_
    show Steps p.tables e below (s₁.setTop (mkF m 17 #[.val (.ref ob0), .val (.int (1 : Int32)), .val (.int (0 : Int32))] [(.int (0 : Int32))])) _
    refine XS.aloadN X0.here hx rfl (hb hby d8_17) rfl rfl ?_
    show Steps p.tables e below (s₁.setTop (mkF m 18 #[.val (.ref ob0), .val (.int (1 : Int32)), .val (.int (0 : Int32))] [(.ref ob0), (.int (0 : Int32))])) _
    refine XS.iconst X0.here hx rfl (hb hby d8_18) ?_
    show Steps p.tables e below (s₁.setTop (mkF m 19 #[.val (.ref ob0), .val (.int (1 : Int32)), .val (.int (0 : Int32))] [(.int (0 : Int32)), (.ref ob0), (.int (0 : Int32))])) _
    refine X0.iaload hx (j := (0 : Int32)) (v := (.int va)) (by rw [e0]; exact aA2.1) (State.isArrayOf_alike hZ.alike aA2.2.1) aA2.2.2 (inb_of aS2 ⟨by decide, by decide⟩) (aH2.at (inb_of aS2 ⟨by decide, by decide⟩) rfl) (g := (mkF m 19 #[.val (.ref ob0), .val (.int (1 : Int32)), .val (.int (0 : Int32))] [(.int (0 : Int32)), (.ref ob0), (.int (0 : Int32))])) rfl rfl (hb hby d8_19) _ ?_
    show Steps p.tables e below (s₁.setTop (mkF m 20 #[.val (.ref ob0), .val (.int (1 : Int32)), .val (.int (0 : Int32))] [(.int va), (.int (0 : Int32))])) _
    refine st3 _ ?_
    show Steps p.tables e below (T3.setTop (mkF m 23 #[.val (.ref ob0), .val (.int (1 : Int32)), .val (.int (0 : Int32))] [(.int ((0 : Int32) ||| ((1 : Int32) <<< (va &&& 31))))])) _
    refine XS.istoreN X3.here hx rfl (hb hby d8_23) rfl (l' := #[.val (.ref ob0), .val (.int (1 : Int32)), .val (.int ((0 : Int32) ||| ((1 : Int32) <<< (va &&& 31))))]) rfl ?_
    show Steps p.tables e below (T3.setTop (mkF m 24 #[.val (.ref ob0), .val (.int (1 : Int32)), .val (.int ((0 : Int32) ||| ((1 : Int32) <<< (va &&& 31))))] [])) _
    refine XS.iloadN X3.here hx rfl (hb hby d8_24) rfl ?_
    show Steps p.tables e below (T3.setTop (mkF m 25 #[.val (.ref ob0), .val (.int (1 : Int32)), .val (.int ((0 : Int32) ||| ((1 : Int32) <<< (va &&& 31))))] [(.int (1 : Int32))])) _
    refine XS.iconst X3.here hx rfl (hb hby d8_25) ?_
    show Steps p.tables e below (T3.setTop (mkF m 26 #[.val (.ref ob0), .val (.int (1 : Int32)), .val (.int ((0 : Int32) ||| ((1 : Int32) <<< (va &&& 31))))] [(.int (1 : Int32)), (.int (1 : Int32))])) _
    refine XS.icmpYes X3.here hx rfl (pc0 := 26) (pc' := 37) rfl (hb hby d8_26) rfl (flt (by decide : ¬ ((1 : Int32) < (1 : Int32)))).2.2.2 (by decide) (by decide) ?_
    show Steps p.tables e below (T3.setTop (mkF m 37 #[.val (.ref ob0), .val (.int (1 : Int32)), .val (.int ((0 : Int32) ||| ((1 : Int32) <<< (va &&& 31))))] [])) _
    refine XS.iloadN X3.here hx rfl (hb hby d8_37) rfl ?_
    show Steps p.tables e below (T3.setTop (mkF m 38 #[.val (.ref ob0), .val (.int (1 : Int32)), .val (.int ((0 : Int32) ||| ((1 : Int32) <<< (va &&& 31))))] [(.int (1 : Int32))])) _
    refine XS.iconst X3.here hx rfl (hb hby d8_38) ?_
    show Steps p.tables e below (T3.setTop (mkF m 39 #[.val (.ref ob0), .val (.int (1 : Int32)), .val (.int ((0 : Int32) ||| ((1 : Int32) <<< (va &&& 31))))] [(.int (2 : Int32)), (.int (1 : Int32))])) _
    refine XS.icmpYes X3.here hx rfl (pc0 := 39) (pc' := 50) rfl (hb hby d8_39) rfl (flt (by decide : ¬ ((2 : Int32) < (1 : Int32)))).2.2.2 (by decide) (by decide) ?_
    show Steps p.tables e below (T3.setTop (mkF m 50 #[.val (.ref ob0), .val (.int (1 : Int32)), .val (.int ((0 : Int32) ||| ((1 : Int32) <<< (va &&& 31))))] [])) _
    refine XS.iloadN X3.here hx rfl (hb hby d8_50) rfl ?_
    show Steps p.tables e below (T3.setTop (mkF m 51 #[.val (.ref ob0), .val (.int (1 : Int32)), .val (.int ((0 : Int32) ||| ((1 : Int32) <<< (va &&& 31))))] [(.int (1 : Int32))])) _
    refine XS.iconst X3.here hx rfl (hb hby d8_51) ?_
    show Steps p.tables e below (T3.setTop (mkF m 52 #[.val (.ref ob0), .val (.int (1 : Int32)), .val (.int ((0 : Int32) ||| ((1 : Int32) <<< (va &&& 31))))] [(.int (3 : Int32)), (.int (1 : Int32))])) _
    refine XS.icmpYes X3.here hx rfl (pc0 := 52) (pc' := 63) rfl (hb hby d8_52) rfl (flt (by decide : ¬ ((3 : Int32) < (1 : Int32)))).2.2.2 (by decide) (by decide) ?_
    show Steps p.tables e below (T3.setTop (mkF m 63 #[.val (.ref ob0), .val (.int (1 : Int32)), .val (.int ((0 : Int32) ||| ((1 : Int32) <<< (va &&& 31))))] [])) _
    refine XS.iloadN X3.here hx rfl (hb hby d8_63) rfl ?_
    show Steps p.tables e below (T3.setTop (mkF m 64 #[.val (.ref ob0), .val (.int (1 : Int32)), .val (.int ((0 : Int32) ||| ((1 : Int32) <<< (va &&& 31))))] [(.int ((0 : Int32) ||| ((1 : Int32) <<< (va &&& 31))))])) _
    exact Jvm.RoadKit.retI X3 hx Bd.returns (hb hby d8_64) hr
  · exact ⟨rfl, N3, e3⟩
theorem d8_29 : decode method_6_code 29 = .ok (.iload_n 2, 1) := by decide +kernel
theorem d8_30 : decode method_6_code 30 = .ok (.aload_n 0, 1) := by decide +kernel
theorem d8_31 : decode method_6_code 31 = .ok (.iconst 1, 1) := by decide +kernel
theorem d8_32 : decode method_6_code 32 = .ok (.iaload, 1) := by decide +kernel
def Q12_15 (Z : State) (q0 : Int32) (q1 : Int32) (h0 : Heap) (n0 : Nat) (v : Option Value) (h : Heap) (L : List Loc) : Prop := v = some (.int (q0 ||| ((1 : Int32) <<< (q1 &&& 31)))) ∧ Fr n0 L ∧ h = h0
set_option maxRecDepth 65536 in
set_option maxHeartbeats 40000000 in
theorem rm12_15 (l : Launch) (Z : State) (a0 : Array Value) (hw : ∀ d ∈ tables_1, d.before a0 Z = true) (ws : List Jvm.Cond) (q0 : Int32) (q1 : Int32) (h0 : Heap) (n0 : Nat) (Z0 : n0 ≤ h0.size) (O0 : Old Z n0 h0) (hd0 : ¬ (q0 < (0 : Int32))) (hd1 : ¬ (q1 < (0 : Int32))) (hd2 : ¬ ((3 : Int32) < q1)) (hd3 : (q0 &&& ((1 : Int32) <<< (q1 &&& 31))) = (0 : Int32)) :
    MetFree l (⟨"com/example/caprice/caprice/solver/DomainsGatherReasonsPinLaw", "add", "(II)I"⟩ : MethodName) (head1 (Jvm.Cond.code (⟨"com/example/caprice/caprice/solver/DomainsGatherReasonsPinLaw", "add", "(II)I"⟩ : MethodName) method_5_code 3 (some .int) :: ws) ({ frames := 0, cells := 0, slots := 0, locals := 0 } : Room)) (fun a U => a = #[(.int q0), (.int q1)] ∧ Z.Warmed39 U.vm ∧ U.heap = h0) (fun _ _ _ _ _ => True) (fun _ U o U' => ∃ v L, o = .returned v ∧ Q12_15 Z  q0 q1 h0 n0 v U'.heap L ∧ FrameEnd U o U' L ({ frames := 0, cells := 0, slots := 0, locals := 0 } : Room).cells ({ frames := 0, cells := 0, slots := 0, locals := 0 } : Room).slots) := by
  refine MetFree.of_bodySF (plainFor_of_name pn152) hisR ?_
  intro p e s m args below meth c s₁ Bd hml0 hP hK
  obtain ⟨rfl, hZ, hh⟩ := hP
  have hx := Bd.exec
  have hby := Bd.bytes
  have hml : c.maxLocals = 3 := hml0
  have hown : s.vm.findClass "com/example/caprice/caprice/solver/DomainsGatherReasonsPinLaw" = some m.cls := findClass_of_methodNamed Bd.named
  have hnm := (name_of_methodNamed Bd.named Bd.method).1
  have X0 : Stand p l e ({ frames := 0, cells := 0, slots := 0, locals := 0 } : Room) s m #[(.int q0), (.int q1)] below meth c s₁ [] 0 0 := Stand.of_body Bd
  have e0 : s₁.heap = h0 := by rw [← hh, Bd.state]; rfl
  have N0 := Fr.nil n0
  have pre0 : ∀ t, Steps p.tables e below (s₁.setTop (mkF m 0 #[.val (.int q0), .val (.int q1), .unset] [])) t → Steps p.tables e below (s₁.setTop (entryFrame m #[(.int q0), (.int q1)] 3)) t := fun t k => castTop (ef297 m q0 q1) k
  obtain ⟨fs, hr, hrun, hended, hW, hsame⟩ := X0.leave (v := some (.int (q0 ||| ((1 : Int32) <<< (q1 &&& 31))))) (fun h => by rw [Bd.returns] at h; cases h)
  refine ⟨_, _, pre0 _ ?_, hrun, hended, _, _, rfl, ?_, ⟨_, rfl⟩, hW, hsame.mono (by decide) (by decide)⟩
  · show Steps p.tables e below (s₁.setTop (mkF m 0 #[.val (.int q0), .val (.int q1), .unset] [])) _
    refine XS.iloadN X0.here hx rfl (hb hby d12_0) rfl ?_
    show Steps p.tables e below (s₁.setTop (mkF m 1 #[.val (.int q0), .val (.int q1), .unset] [(.int q0)])) _
    refine XS.ifNo X0.here hx rfl (hb hby d12_1) rfl ((if0 _ _).trans (flt hd0).1) ?_
    show Steps p.tables e below (s₁.setTop (mkF m 4 #[.val (.int q0), .val (.int q1), .unset] [])) _
    refine XS.iloadN X0.here hx rfl (hb hby d12_4) rfl ?_
    show Steps p.tables e below (s₁.setTop (mkF m 5 #[.val (.int q0), .val (.int q1), .unset] [(.int q1)])) _
    refine XS.ifNo X0.here hx rfl (hb hby d12_5) rfl ((if0 _ _).trans (flt hd1).1) ?_
    show Steps p.tables e below (s₁.setTop (mkF m 8 #[.val (.int q0), .val (.int q1), .unset] [])) _
    refine XS.iloadN X0.here hx rfl (hb hby d12_8) rfl ?_
    show Steps p.tables e below (s₁.setTop (mkF m 9 #[.val (.int q0), .val (.int q1), .unset] [(.int q1)])) _
    refine XS.iconst X0.here hx rfl (hb hby d12_9) ?_
    show Steps p.tables e below (s₁.setTop (mkF m 10 #[.val (.int q0), .val (.int q1), .unset] [(.int (3 : Int32)), (.int q1)])) _
    refine XS.icmpYes X0.here hx rfl (pc0 := 10) (pc' := 15) rfl (hb hby d12_10) rfl (flt hd2).2.2.2 (by decide) (by decide) ?_
    show Steps p.tables e below (s₁.setTop (mkF m 15 #[.val (.int q0), .val (.int q1), .unset] [])) _
    refine XS.iconst X0.here hx rfl (hb hby d12_15) ?_
    show Steps p.tables e below (s₁.setTop (mkF m 16 #[.val (.int q0), .val (.int q1), .unset] [(.int (1 : Int32))])) _
    refine XS.iloadN X0.here hx rfl (hb hby d12_16) rfl ?_
    show Steps p.tables e below (s₁.setTop (mkF m 17 #[.val (.int q0), .val (.int q1), .unset] [(.int q1), (.int (1 : Int32))])) _
    refine XS.ishl X0.here hx rfl (hb hby d12_17) rfl ?_
    show Steps p.tables e below (s₁.setTop (mkF m 18 #[.val (.int q0), .val (.int q1), .unset] [(.int ((1 : Int32) <<< (q1 &&& 31)))])) _
    refine XS.istoreN X0.here hx rfl (hb hby d12_18) rfl (l' := #[.val (.int q0), .val (.int q1), .val (.int ((1 : Int32) <<< (q1 &&& 31)))]) rfl ?_
    show Steps p.tables e below (s₁.setTop (mkF m 19 #[.val (.int q0), .val (.int q1), .val (.int ((1 : Int32) <<< (q1 &&& 31)))] [])) _
    refine XS.iloadN X0.here hx rfl (hb hby d12_19) rfl ?_
    show Steps p.tables e below (s₁.setTop (mkF m 20 #[.val (.int q0), .val (.int q1), .val (.int ((1 : Int32) <<< (q1 &&& 31)))] [(.int q0)])) _
    refine XS.iloadN X0.here hx rfl (hb hby d12_20) rfl ?_
    show Steps p.tables e below (s₁.setTop (mkF m 21 #[.val (.int q0), .val (.int q1), .val (.int ((1 : Int32) <<< (q1 &&& 31)))] [(.int ((1 : Int32) <<< (q1 &&& 31))), (.int q0)])) _
    refine XS.iand X0.here hx rfl (hb hby d12_21) rfl ?_
    show Steps p.tables e below (s₁.setTop (mkF m 22 #[.val (.int q0), .val (.int q1), .val (.int ((1 : Int32) <<< (q1 &&& 31)))] [(.int (q0 &&& ((1 : Int32) <<< (q1 &&& 31))))])) _
    refine XS.ifYes X0.here hx rfl (pc0 := 22) (pc' := 27) rfl (hb hby d12_22) rfl ((if0 _ _).trans (teq hd3).1) (by decide) (by decide) ?_
    show Steps p.tables e below (s₁.setTop (mkF m 27 #[.val (.int q0), .val (.int q1), .val (.int ((1 : Int32) <<< (q1 &&& 31)))] [])) _
    refine XS.iloadN X0.here hx rfl (hb hby d12_27) rfl ?_
    show Steps p.tables e below (s₁.setTop (mkF m 28 #[.val (.int q0), .val (.int q1), .val (.int ((1 : Int32) <<< (q1 &&& 31)))] [(.int q0)])) _
    refine XS.iloadN X0.here hx rfl (hb hby d12_28) rfl ?_
    show Steps p.tables e below (s₁.setTop (mkF m 29 #[.val (.int q0), .val (.int q1), .val (.int ((1 : Int32) <<< (q1 &&& 31)))] [(.int ((1 : Int32) <<< (q1 &&& 31))), (.int q0)])) _
    refine XS.ior X0.here hx rfl (hb hby d12_29) rfl ?_
    show Steps p.tables e below (s₁.setTop (mkF m 30 #[.val (.int q0), .val (.int q1), .val (.int ((1 : Int32) <<< (q1 &&& 31)))] [(.int (q0 ||| ((1 : Int32) <<< (q1 &&& 31))))])) _
    exact Jvm.RoadKit.retI X0 hx Bd.returns (hb hby d12_30) hr
  · exact ⟨rfl, N0, e0⟩
theorem d8_33 : decode method_6_code 33 = .ok (.invokestatic 38, 3) := by decide +kernel
theorem d8_36 : decode method_6_code 36 = .ok (.istore_n 2, 1) := by decide +kernel
def Q8_16 (Z : State) (ob0 : Addr) (k_ob0 : ClassId) (va : Int32) (vb : Int32) (h0 : Heap) (n0 : Nat) (v : Option Value) (h : Heap) (L : List Loc) : Prop := v = some (.int (((0 : Int32) ||| ((1 : Int32) <<< (va &&& 31))) ||| ((1 : Int32) <<< (vb &&& 31)))) ∧ Fr n0 L ∧ h = h0
set_option maxRecDepth 65536 in
set_option maxHeartbeats 40000000 in
theorem rm8_16 (l : Launch) (Z : State) (a0 : Array Value) (hw : ∀ d ∈ tables_1, d.before a0 Z = true) (ws : List Jvm.Cond) (ob0 : Addr) (k_ob0 : ClassId) (va : Int32) (vb : Int32) (h0 : Heap) (n0 : Nat) (Z0 : n0 ≤ h0.size) (O0 : Old Z n0 h0) (PV_ob0 : Arv Z h0 ob0 k_ob0 .int (2 : Int32) [(.int va), (.int vb)] (.int (0 : Int32))) (hd0 : ¬ (va < (0 : Int32))) (hd1 : ¬ ((3 : Int32) < va)) (hd2 : ((0 : Int32) &&& ((1 : Int32) <<< (va &&& 31))) = (0 : Int32)) (hd3 : ¬ (((0 : Int32) ||| ((1 : Int32) <<< (va &&& 31))) < (0 : Int32))) (hd4 : ¬ (vb < (0 : Int32))) (hd5 : ¬ ((3 : Int32) < vb)) (hd6 : (((0 : Int32) ||| ((1 : Int32) <<< (va &&& 31))) &&& ((1 : Int32) <<< (vb &&& 31))) = (0 : Int32)) :
    MetFree l (⟨"com/example/caprice/caprice/solver/DomainsGatherReasonsPinLaw", "maskOf", "([I)I"⟩ : MethodName) (head1 (Jvm.Cond.code (⟨"com/example/caprice/caprice/solver/DomainsGatherReasonsPinLaw", "maskOf", "([I)I"⟩ : MethodName) method_6_code 3 (some .int) :: ws) ({ frames := 1, cells := 0, slots := 0, locals := 14 } : Room)) (fun a U => a = #[(.ref ob0)] ∧ Z.Warmed39 U.vm ∧ U.heap = h0) (fun _ _ _ _ _ => True) (fun _ U o U' => ∃ v L, o = .returned v ∧ Q8_16 Z  ob0 k_ob0 va vb h0 n0 v U'.heap L ∧ FrameEnd U o U' L ({ frames := 1, cells := 0, slots := 0, locals := 14 } : Room).cells ({ frames := 1, cells := 0, slots := 0, locals := 14 } : Room).slots) := by
  refine MetFree.of_bodySF (plainFor_of_name pn152) hisR ?_
  intro p e s m args below meth c s₁ Bd hml0 hP hK
  obtain ⟨rfl, hZ, hh⟩ := hP
  have hx := Bd.exec
  have hby := Bd.bytes
  have hml : c.maxLocals = 3 := hml0
  have hown : s.vm.findClass "com/example/caprice/caprice/solver/DomainsGatherReasonsPinLaw" = some m.cls := findClass_of_methodNamed Bd.named
  have hnm := (name_of_methodNamed Bd.named Bd.method).1
  have X0 : Stand p l e ({ frames := 1, cells := 0, slots := 0, locals := 14 } : Room) s m #[(.ref ob0)] below meth c s₁ [] 0 0 := Stand.of_body Bd
  have e0 : s₁.heap = h0 := by rw [← hh, Bd.state]; rfl
  have N0 := Fr.nil n0
  have pre0 : ∀ t, Steps p.tables e below (s₁.setTop (mkF m 0 #[.val (.ref ob0), .unset, .unset] [])) t → Steps p.tables e below (s₁.setTop (entryFrame m #[(.ref ob0)] 3)) t := fun t k => castTop (ef313 m ob0) k
  obtain ⟨ac1, aA1, aq1, aS1, aN1, aH1, aG1⟩ := id PV_ob0
  obtain ⟨ac2, aA2, aq2, aS2, aN2, aH2, aG2⟩ := id PV_ob0
  obtain ⟨_, _, ⟨T3, L3, k3, n3⟩, -, X3, ⟨Lc3, hQ3, l3, y3, z3⟩, st3⟩ := Jvm.LawKit.callS X0 hx (y := (⟨"com/example/caprice/caprice/solver/DomainsGatherReasonsPinLaw", "add", "(II)I"⟩ : MethodName)) hown (mvT hZ (hw _ (List.mem_of_getElem? (i := 77) rfl))) (mvT hZ (hw _ (List.mem_of_getElem? (i := 78) rfl))) (mvT hZ (hw _ (List.mem_of_getElem? (i := 2) rfl))) (mvT hZ (hw _ (List.mem_of_getElem? (i := 79) rfl))) (by decide) (backOf (W := 0) (rm12_13 l Z a0 hw []  va h0 n0 (own_n0 O0) O0 hd0 hd1 hd2) hZ (hw _ (List.mem_of_getElem? (i := 79) rfl)) (hw _ (List.mem_of_getElem? (i := 2) rfl)) (by decide) (by decide)) (g := (mkF m 20 #[.val (.ref ob0), .val (.int (2 : Int32)), .val (.int (0 : Int32))] [(.int va), (.int (0 : Int32))])) rfl (by rw [hml]; rfl) (argsL := [(.int (0 : Int32)), (.int va)]) (rest := []) (lenOf pd298 rfl) rfl (by show 2 * 0 + _ ≤ _; exact Nat.le_of_eq rfl) (hb hby d8_20) (fun _ _ => ⟨rfl, e0, (by decide : 0 + 0 ≤ _), (by decide : 0 + 0 ≤ _)⟩)
  dsimp only [Pt.U, Pt.locs, Pt.cells, Pt.slots] at X3 l3 y3 z3 st3 hQ3
  subst l3 y3 z3
  obtain ⟨rfl, N3q, e3⟩ := hQ3
  have N3 := Fr.app N0 N3q
  obtain ⟨ac4, aA4, aq4, aS4, aN4, aH4, aG4⟩ := id PV_ob0
  obtain ⟨_, _, ⟨T5, L5, k5, n5⟩, -, X5, ⟨Lc5, hQ5, l5, y5, z5⟩, st5⟩ := Jvm.LawKit.callS X3 hx (y := (⟨"com/example/caprice/caprice/solver/DomainsGatherReasonsPinLaw", "add", "(II)I"⟩ : MethodName)) hown (mvT hZ (hw _ (List.mem_of_getElem? (i := 77) rfl))) (mvT hZ (hw _ (List.mem_of_getElem? (i := 78) rfl))) (mvT hZ (hw _ (List.mem_of_getElem? (i := 2) rfl))) (mvT hZ (hw _ (List.mem_of_getElem? (i := 79) rfl))) (by decide) (backOf (W := 0) (rm12_15 l Z a0 hw []  ((0 : Int32) ||| ((1 : Int32) <<< (va &&& 31))) vb h0 n0 (own_n0 O0) O0 hd3 hd4 hd5 hd6) hZ (hw _ (List.mem_of_getElem? (i := 79) rfl)) (hw _ (List.mem_of_getElem? (i := 2) rfl)) (by decide) (by decide)) (g := (mkF m 33 #[.val (.ref ob0), .val (.int (2 : Int32)), .val (.int ((0 : Int32) ||| ((1 : Int32) <<< (va &&& 31))))] [(.int vb), (.int ((0 : Int32) ||| ((1 : Int32) <<< (va &&& 31))))])) rfl (by rw [hml]; rfl) (argsL := [(.int ((0 : Int32) ||| ((1 : Int32) <<< (va &&& 31)))), (.int vb)]) (rest := []) (lenOf pd298 rfl) rfl (by show 2 * 0 + _ ≤ _; exact Nat.le_of_eq rfl) (hb hby d8_33) (fun _ _ => ⟨rfl, e3, (by decide : 0 + 0 ≤ _), (by decide : 0 + 0 ≤ _)⟩)
  dsimp only [Pt.U, Pt.locs, Pt.cells, Pt.slots] at X5 l5 y5 z5 st5 hQ5
  subst l5 y5 z5
  obtain ⟨rfl, N5q, e5⟩ := hQ5
  have N5 := Fr.app N3 N5q
  obtain ⟨fs, hr, hrun, hended, hW, hsame⟩ := X5.leave (v := some (.int (((0 : Int32) ||| ((1 : Int32) <<< (va &&& 31))) ||| ((1 : Int32) <<< (vb &&& 31))))) (fun h => by rw [Bd.returns] at h; cases h)
  refine ⟨_, _, pre0 _ ?_, hrun, hended, _, _, rfl, ?_, ⟨_, rfl⟩, hW, hsame.mono (by decide) (by decide)⟩
  · show Steps p.tables e below (s₁.setTop (mkF m 0 #[.val (.ref ob0), .unset, .unset] [])) _
    refine XS.aloadN X0.here hx rfl (hb hby d8_0) rfl rfl ?_
    show Steps p.tables e below (s₁.setTop (mkF m 1 #[.val (.ref ob0), .unset, .unset] [(.ref ob0)])) _
    refine X0.arraylength hx (by rw [e0]; exact aA1.1) (State.isArrayOf_alike hZ.alike aA1.2.1) (g := (mkF m 1 #[.val (.ref ob0), .unset, .unset] [(.ref ob0)])) rfl rfl (hb hby d8_1) _ ?_
    rw [len_of aS1 aN1]
    show Steps p.tables e below (s₁.setTop (mkF m 2 #[.val (.ref ob0), .unset, .unset] [(.int (2 : Int32))])) _
    refine XS.istoreN X0.here hx rfl (hb hby d8_2) rfl (l' := #[.val (.ref ob0), .val (.int (2 : Int32)), .unset]) rfl ?_
    show Steps p.tables e below (s₁.setTop (mkF m 3 #[.val (.ref ob0), .val (.int (2 : Int32)), .unset] [])) _
    refine XS.iloadN X0.here hx rfl (hb hby d8_3) rfl ?_
    show Steps p.tables e below (s₁.setTop (mkF m 4 #[.val (.ref ob0), .val (.int (2 : Int32)), .unset] [(.int (2 : Int32))])) _
    refine XS.iconst X0.here hx rfl (hb hby d8_4) ?_
    show Steps p.tables e below (s₁.setTop (mkF m 5 #[.val (.ref ob0), .val (.int (2 : Int32)), .unset] [(.int (4 : Int32)), (.int (2 : Int32))])) _
    refine XS.icmpYes X0.here hx rfl (pc0 := 5) (pc' := 10) rfl (hb hby d8_5) rfl (flt (by decide : ¬ ((4 : Int32) < (2 : Int32)))).2.2.2 (by decide) (by decide) ?_
    show Steps p.tables e below (s₁.setTop (mkF m 10 #[.val (.ref ob0), .val (.int (2 : Int32)), .unset] [])) _
    refine XS.iconst X0.here hx rfl (hb hby d8_10) ?_
    show Steps p.tables e below (s₁.setTop (mkF m 11 #[.val (.ref ob0), .val (.int (2 : Int32)), .unset] [(.int (0 : Int32))])) _
    refine XS.istoreN X0.here hx rfl (hb hby d8_11) rfl (l' := #[.val (.ref ob0), .val (.int (2 : Int32)), .val (.int (0 : Int32))]) rfl ?_
    show Steps p.tables e below (s₁.setTop (mkF m 12 #[.val (.ref ob0), .val (.int (2 : Int32)), .val (.int (0 : Int32))] [])) _
    refine XS.iloadN X0.here hx rfl (hb hby d8_12) rfl ?_
    show Steps p.tables e below (s₁.setTop (mkF m 13 #[.val (.ref ob0), .val (.int (2 : Int32)), .val (.int (0 : Int32))] [(.int (2 : Int32))])) _
    refine XS.ifNo X0.here hx rfl (hb hby d8_13) rfl ((if0 _ _).trans (tlt (by decide : (0 : Int32) < (2 : Int32))).2.2.2) ?_
    show Steps p.tables e below (s₁.setTop (mkF m 16 #[.val (.ref ob0), .val (.int (2 : Int32)), .val (.int (0 : Int32))] [])) _
    refine XS.iloadN X0.here hx rfl (hb hby d8_16) rfl ?_
    show Steps p.tables e below (s₁.setTop (mkF m 17 #[.val (.ref ob0), .val (.int (2 : Int32)), .val (.int (0 : Int32))] [(.int (0 : Int32))])) _
    refine XS.aloadN X0.here hx rfl (hb hby d8_17) rfl rfl ?_
    show Steps p.tables e below (s₁.setTop (mkF m 18 #[.val (.ref ob0), .val (.int (2 : Int32)), .val (.int (0 : Int32))] [(.ref ob0), (.int (0 : Int32))])) _
    refine XS.iconst X0.here hx rfl (hb hby d8_18) ?_
    show Steps p.tables e below (s₁.setTop (mkF m 19 #[.val (.ref ob0), .val (.int (2 : Int32)), .val (.int (0 : Int32))] [(.int (0 : Int32)), (.ref ob0), (.int (0 : Int32))])) _
    refine X0.iaload hx (j := (0 : Int32)) (v := (.int va)) (by rw [e0]; exact aA2.1) (State.isArrayOf_alike hZ.alike aA2.2.1) aA2.2.2 (inb_of aS2 ⟨by decide, by decide⟩) (aH2.at (inb_of aS2 ⟨by decide, by decide⟩) rfl) (g := (mkF m 19 #[.val (.ref ob0), .val (.int (2 : Int32)), .val (.int (0 : Int32))] [(.int (0 : Int32)), (.ref ob0), (.int (0 : Int32))])) rfl rfl (hb hby d8_19) _ ?_
    show Steps p.tables e below (s₁.setTop (mkF m 20 #[.val (.ref ob0), .val (.int (2 : Int32)), .val (.int (0 : Int32))] [(.int va), (.int (0 : Int32))])) _
    refine st3 _ ?_
    show Steps p.tables e below (T3.setTop (mkF m 23 #[.val (.ref ob0), .val (.int (2 : Int32)), .val (.int (0 : Int32))] [(.int ((0 : Int32) ||| ((1 : Int32) <<< (va &&& 31))))])) _
    refine XS.istoreN X3.here hx rfl (hb hby d8_23) rfl (l' := #[.val (.ref ob0), .val (.int (2 : Int32)), .val (.int ((0 : Int32) ||| ((1 : Int32) <<< (va &&& 31))))]) rfl ?_
    show Steps p.tables e below (T3.setTop (mkF m 24 #[.val (.ref ob0), .val (.int (2 : Int32)), .val (.int ((0 : Int32) ||| ((1 : Int32) <<< (va &&& 31))))] [])) _
    refine XS.iloadN X3.here hx rfl (hb hby d8_24) rfl ?_
    show Steps p.tables e below (T3.setTop (mkF m 25 #[.val (.ref ob0), .val (.int (2 : Int32)), .val (.int ((0 : Int32) ||| ((1 : Int32) <<< (va &&& 31))))] [(.int (2 : Int32))])) _
    refine XS.iconst X3.here hx rfl (hb hby d8_25) ?_
    show Steps p.tables e below (T3.setTop (mkF m 26 #[.val (.ref ob0), .val (.int (2 : Int32)), .val (.int ((0 : Int32) ||| ((1 : Int32) <<< (va &&& 31))))] [(.int (1 : Int32)), (.int (2 : Int32))])) _
    refine XS.icmpNo X3.here hx rfl (hb hby d8_26) rfl (tlt (by decide : (1 : Int32) < (2 : Int32))).2.2.2 ?_
    show Steps p.tables e below (T3.setTop (mkF m 29 #[.val (.ref ob0), .val (.int (2 : Int32)), .val (.int ((0 : Int32) ||| ((1 : Int32) <<< (va &&& 31))))] [])) _
    refine XS.iloadN X3.here hx rfl (hb hby d8_29) rfl ?_
    show Steps p.tables e below (T3.setTop (mkF m 30 #[.val (.ref ob0), .val (.int (2 : Int32)), .val (.int ((0 : Int32) ||| ((1 : Int32) <<< (va &&& 31))))] [(.int ((0 : Int32) ||| ((1 : Int32) <<< (va &&& 31))))])) _
    refine XS.aloadN X3.here hx rfl (hb hby d8_30) rfl rfl ?_
    show Steps p.tables e below (T3.setTop (mkF m 31 #[.val (.ref ob0), .val (.int (2 : Int32)), .val (.int ((0 : Int32) ||| ((1 : Int32) <<< (va &&& 31))))] [(.ref ob0), (.int ((0 : Int32) ||| ((1 : Int32) <<< (va &&& 31))))])) _
    refine XS.iconst X3.here hx rfl (hb hby d8_31) ?_
    show Steps p.tables e below (T3.setTop (mkF m 32 #[.val (.ref ob0), .val (.int (2 : Int32)), .val (.int ((0 : Int32) ||| ((1 : Int32) <<< (va &&& 31))))] [(.int (1 : Int32)), (.ref ob0), (.int ((0 : Int32) ||| ((1 : Int32) <<< (va &&& 31))))])) _
    refine X3.iaload hx (j := (1 : Int32)) (v := (.int vb)) (by rw [e3]; exact aA4.1) (State.isArrayOf_alike hZ.alike aA4.2.1) aA4.2.2 (inb_of aS4 ⟨by decide, by decide⟩) (aH4.at (inb_of aS4 ⟨by decide, by decide⟩) rfl) (g := (mkF m 32 #[.val (.ref ob0), .val (.int (2 : Int32)), .val (.int ((0 : Int32) ||| ((1 : Int32) <<< (va &&& 31))))] [(.int (1 : Int32)), (.ref ob0), (.int ((0 : Int32) ||| ((1 : Int32) <<< (va &&& 31))))])) rfl rfl (hb hby d8_32) _ ?_
    show Steps p.tables e below (T3.setTop (mkF m 33 #[.val (.ref ob0), .val (.int (2 : Int32)), .val (.int ((0 : Int32) ||| ((1 : Int32) <<< (va &&& 31))))] [(.int vb), (.int ((0 : Int32) ||| ((1 : Int32) <<< (va &&& 31))))])) _
    refine st5 _ ?_
    show Steps p.tables e below (T5.setTop (mkF m 36 #[.val (.ref ob0), .val (.int (2 : Int32)), .val (.int ((0 : Int32) ||| ((1 : Int32) <<< (va &&& 31))))] [(.int (((0 : Int32) ||| ((1 : Int32) <<< (va &&& 31))) ||| ((1 : Int32) <<< (vb &&& 31))))])) _
    refine XS.istoreN X5.here hx rfl (hb hby d8_36) rfl (l' := #[.val (.ref ob0), .val (.int (2 : Int32)), .val (.int (((0 : Int32) ||| ((1 : Int32) <<< (va &&& 31))) ||| ((1 : Int32) <<< (vb &&& 31))))]) rfl ?_
    show Steps p.tables e below (T5.setTop (mkF m 37 #[.val (.ref ob0), .val (.int (2 : Int32)), .val (.int (((0 : Int32) ||| ((1 : Int32) <<< (va &&& 31))) ||| ((1 : Int32) <<< (vb &&& 31))))] [])) _
    refine XS.iloadN X5.here hx rfl (hb hby d8_37) rfl ?_
    show Steps p.tables e below (T5.setTop (mkF m 38 #[.val (.ref ob0), .val (.int (2 : Int32)), .val (.int (((0 : Int32) ||| ((1 : Int32) <<< (va &&& 31))) ||| ((1 : Int32) <<< (vb &&& 31))))] [(.int (2 : Int32))])) _
    refine XS.iconst X5.here hx rfl (hb hby d8_38) ?_
    show Steps p.tables e below (T5.setTop (mkF m 39 #[.val (.ref ob0), .val (.int (2 : Int32)), .val (.int (((0 : Int32) ||| ((1 : Int32) <<< (va &&& 31))) ||| ((1 : Int32) <<< (vb &&& 31))))] [(.int (2 : Int32)), (.int (2 : Int32))])) _
    refine XS.icmpYes X5.here hx rfl (pc0 := 39) (pc' := 50) rfl (hb hby d8_39) rfl (flt (by decide : ¬ ((2 : Int32) < (2 : Int32)))).2.2.2 (by decide) (by decide) ?_
    show Steps p.tables e below (T5.setTop (mkF m 50 #[.val (.ref ob0), .val (.int (2 : Int32)), .val (.int (((0 : Int32) ||| ((1 : Int32) <<< (va &&& 31))) ||| ((1 : Int32) <<< (vb &&& 31))))] [])) _
    refine XS.iloadN X5.here hx rfl (hb hby d8_50) rfl ?_
    show Steps p.tables e below (T5.setTop (mkF m 51 #[.val (.ref ob0), .val (.int (2 : Int32)), .val (.int (((0 : Int32) ||| ((1 : Int32) <<< (va &&& 31))) ||| ((1 : Int32) <<< (vb &&& 31))))] [(.int (2 : Int32))])) _
    refine XS.iconst X5.here hx rfl (hb hby d8_51) ?_
    show Steps p.tables e below (T5.setTop (mkF m 52 #[.val (.ref ob0), .val (.int (2 : Int32)), .val (.int (((0 : Int32) ||| ((1 : Int32) <<< (va &&& 31))) ||| ((1 : Int32) <<< (vb &&& 31))))] [(.int (3 : Int32)), (.int (2 : Int32))])) _
    refine XS.icmpYes X5.here hx rfl (pc0 := 52) (pc' := 63) rfl (hb hby d8_52) rfl (flt (by decide : ¬ ((3 : Int32) < (2 : Int32)))).2.2.2 (by decide) (by decide) ?_
    show Steps p.tables e below (T5.setTop (mkF m 63 #[.val (.ref ob0), .val (.int (2 : Int32)), .val (.int (((0 : Int32) ||| ((1 : Int32) <<< (va &&& 31))) ||| ((1 : Int32) <<< (vb &&& 31))))] [])) _
    refine XS.iloadN X5.here hx rfl (hb hby d8_63) rfl ?_
    show Steps p.tables e below (T5.setTop (mkF m 64 #[.val (.ref ob0), .val (.int (2 : Int32)), .val (.int (((0 : Int32) ||| ((1 : Int32) <<< (va &&& 31))) ||| ((1 : Int32) <<< (vb &&& 31))))] [(.int (((0 : Int32) ||| ((1 : Int32) <<< (va &&& 31))) ||| ((1 : Int32) <<< (vb &&& 31))))])) _
    exact Jvm.RoadKit.retI X5 hx Bd.returns (hb hby d8_64) hr
  · exact ⟨rfl, N5, e5⟩
theorem d8_42 : decode method_6_code 42 = .ok (.iload_n 2, 1) := by decide +kernel
theorem d8_43 : decode method_6_code 43 = .ok (.aload_n 0, 1) := by decide +kernel
theorem d8_44 : decode method_6_code 44 = .ok (.iconst 2, 1) := by decide +kernel
theorem d8_45 : decode method_6_code 45 = .ok (.iaload, 1) := by decide +kernel
theorem d8_46 : decode method_6_code 46 = .ok (.invokestatic 38, 3) := by decide +kernel
theorem d8_49 : decode method_6_code 49 = .ok (.istore_n 2, 1) := by decide +kernel
def Q8_17 (Z : State) (ob0 : Addr) (k_ob0 : ClassId) (va : Int32) (vb : Int32) (vc : Int32) (h0 : Heap) (n0 : Nat) (v : Option Value) (h : Heap) (L : List Loc) : Prop := v = some (.int ((((0 : Int32) ||| ((1 : Int32) <<< (va &&& 31))) ||| ((1 : Int32) <<< (vb &&& 31))) ||| ((1 : Int32) <<< (vc &&& 31)))) ∧ Fr n0 L ∧ h = h0
set_option maxRecDepth 65536 in
set_option maxHeartbeats 40000000 in
theorem rm8_17 (l : Launch) (Z : State) (a0 : Array Value) (hw : ∀ d ∈ tables_1, d.before a0 Z = true) (ws : List Jvm.Cond) (ob0 : Addr) (k_ob0 : ClassId) (va : Int32) (vb : Int32) (vc : Int32) (h0 : Heap) (n0 : Nat) (Z0 : n0 ≤ h0.size) (O0 : Old Z n0 h0) (PV_ob0 : Arv Z h0 ob0 k_ob0 .int (3 : Int32) [(.int va), (.int vb), (.int vc)] (.int (0 : Int32))) (hd0 : ¬ (va < (0 : Int32))) (hd1 : ¬ ((3 : Int32) < va)) (hd2 : ((0 : Int32) &&& ((1 : Int32) <<< (va &&& 31))) = (0 : Int32)) (hd3 : ¬ (((0 : Int32) ||| ((1 : Int32) <<< (va &&& 31))) < (0 : Int32))) (hd4 : ¬ (vb < (0 : Int32))) (hd5 : ¬ ((3 : Int32) < vb)) (hd6 : (((0 : Int32) ||| ((1 : Int32) <<< (va &&& 31))) &&& ((1 : Int32) <<< (vb &&& 31))) = (0 : Int32)) (hd7 : ¬ ((((0 : Int32) ||| ((1 : Int32) <<< (va &&& 31))) ||| ((1 : Int32) <<< (vb &&& 31))) < (0 : Int32))) (hd8 : ¬ (vc < (0 : Int32))) (hd9 : ¬ ((3 : Int32) < vc)) (hd10 : ((((0 : Int32) ||| ((1 : Int32) <<< (va &&& 31))) ||| ((1 : Int32) <<< (vb &&& 31))) &&& ((1 : Int32) <<< (vc &&& 31))) = (0 : Int32)) :
    MetFree l (⟨"com/example/caprice/caprice/solver/DomainsGatherReasonsPinLaw", "maskOf", "([I)I"⟩ : MethodName) (head1 (Jvm.Cond.code (⟨"com/example/caprice/caprice/solver/DomainsGatherReasonsPinLaw", "maskOf", "([I)I"⟩ : MethodName) method_6_code 3 (some .int) :: ws) ({ frames := 1, cells := 0, slots := 0, locals := 14 } : Room)) (fun a U => a = #[(.ref ob0)] ∧ Z.Warmed39 U.vm ∧ U.heap = h0) (fun _ _ _ _ _ => True) (fun _ U o U' => ∃ v L, o = .returned v ∧ Q8_17 Z  ob0 k_ob0 va vb vc h0 n0 v U'.heap L ∧ FrameEnd U o U' L ({ frames := 1, cells := 0, slots := 0, locals := 14 } : Room).cells ({ frames := 1, cells := 0, slots := 0, locals := 14 } : Room).slots) := by
  refine MetFree.of_bodySF (plainFor_of_name pn152) hisR ?_
  intro p e s m args below meth c s₁ Bd hml0 hP hK
  obtain ⟨rfl, hZ, hh⟩ := hP
  have hx := Bd.exec
  have hby := Bd.bytes
  have hml : c.maxLocals = 3 := hml0
  have hown : s.vm.findClass "com/example/caprice/caprice/solver/DomainsGatherReasonsPinLaw" = some m.cls := findClass_of_methodNamed Bd.named
  have hnm := (name_of_methodNamed Bd.named Bd.method).1
  have X0 : Stand p l e ({ frames := 1, cells := 0, slots := 0, locals := 14 } : Room) s m #[(.ref ob0)] below meth c s₁ [] 0 0 := Stand.of_body Bd
  have e0 : s₁.heap = h0 := by rw [← hh, Bd.state]; rfl
  have N0 := Fr.nil n0
  have pre0 : ∀ t, Steps p.tables e below (s₁.setTop (mkF m 0 #[.val (.ref ob0), .unset, .unset] [])) t → Steps p.tables e below (s₁.setTop (entryFrame m #[(.ref ob0)] 3)) t := fun t k => castTop (ef313 m ob0) k
  obtain ⟨ac1, aA1, aq1, aS1, aN1, aH1, aG1⟩ := id PV_ob0
  obtain ⟨ac2, aA2, aq2, aS2, aN2, aH2, aG2⟩ := id PV_ob0
  obtain ⟨_, _, ⟨T3, L3, k3, n3⟩, -, X3, ⟨Lc3, hQ3, l3, y3, z3⟩, st3⟩ := Jvm.LawKit.callS X0 hx (y := (⟨"com/example/caprice/caprice/solver/DomainsGatherReasonsPinLaw", "add", "(II)I"⟩ : MethodName)) hown (mvT hZ (hw _ (List.mem_of_getElem? (i := 77) rfl))) (mvT hZ (hw _ (List.mem_of_getElem? (i := 78) rfl))) (mvT hZ (hw _ (List.mem_of_getElem? (i := 2) rfl))) (mvT hZ (hw _ (List.mem_of_getElem? (i := 79) rfl))) (by decide) (backOf (W := 0) (rm12_13 l Z a0 hw []  va h0 n0 (own_n0 O0) O0 hd0 hd1 hd2) hZ (hw _ (List.mem_of_getElem? (i := 79) rfl)) (hw _ (List.mem_of_getElem? (i := 2) rfl)) (by decide) (by decide)) (g := (mkF m 20 #[.val (.ref ob0), .val (.int (3 : Int32)), .val (.int (0 : Int32))] [(.int va), (.int (0 : Int32))])) rfl (by rw [hml]; rfl) (argsL := [(.int (0 : Int32)), (.int va)]) (rest := []) (lenOf pd298 rfl) rfl (by show 2 * 0 + _ ≤ _; exact Nat.le_of_eq rfl) (hb hby d8_20) (fun _ _ => ⟨rfl, e0, (by decide : 0 + 0 ≤ _), (by decide : 0 + 0 ≤ _)⟩)
  dsimp only [Pt.U, Pt.locs, Pt.cells, Pt.slots] at X3 l3 y3 z3 st3 hQ3
  subst l3 y3 z3
  obtain ⟨rfl, N3q, e3⟩ := hQ3
  have N3 := Fr.app N0 N3q
  obtain ⟨ac4, aA4, aq4, aS4, aN4, aH4, aG4⟩ := id PV_ob0
  obtain ⟨_, _, ⟨T5, L5, k5, n5⟩, -, X5, ⟨Lc5, hQ5, l5, y5, z5⟩, st5⟩ := Jvm.LawKit.callS X3 hx (y := (⟨"com/example/caprice/caprice/solver/DomainsGatherReasonsPinLaw", "add", "(II)I"⟩ : MethodName)) hown (mvT hZ (hw _ (List.mem_of_getElem? (i := 77) rfl))) (mvT hZ (hw _ (List.mem_of_getElem? (i := 78) rfl))) (mvT hZ (hw _ (List.mem_of_getElem? (i := 2) rfl))) (mvT hZ (hw _ (List.mem_of_getElem? (i := 79) rfl))) (by decide) (backOf (W := 0) (rm12_15 l Z a0 hw []  ((0 : Int32) ||| ((1 : Int32) <<< (va &&& 31))) vb h0 n0 (own_n0 O0) O0 hd3 hd4 hd5 hd6) hZ (hw _ (List.mem_of_getElem? (i := 79) rfl)) (hw _ (List.mem_of_getElem? (i := 2) rfl)) (by decide) (by decide)) (g := (mkF m 33 #[.val (.ref ob0), .val (.int (3 : Int32)), .val (.int ((0 : Int32) ||| ((1 : Int32) <<< (va &&& 31))))] [(.int vb), (.int ((0 : Int32) ||| ((1 : Int32) <<< (va &&& 31))))])) rfl (by rw [hml]; rfl) (argsL := [(.int ((0 : Int32) ||| ((1 : Int32) <<< (va &&& 31)))), (.int vb)]) (rest := []) (lenOf pd298 rfl) rfl (by show 2 * 0 + _ ≤ _; exact Nat.le_of_eq rfl) (hb hby d8_33) (fun _ _ => ⟨rfl, e3, (by decide : 0 + 0 ≤ _), (by decide : 0 + 0 ≤ _)⟩)
  dsimp only [Pt.U, Pt.locs, Pt.cells, Pt.slots] at X5 l5 y5 z5 st5 hQ5
  subst l5 y5 z5
  obtain ⟨rfl, N5q, e5⟩ := hQ5
  have N5 := Fr.app N3 N5q
  obtain ⟨ac6, aA6, aq6, aS6, aN6, aH6, aG6⟩ := id PV_ob0
  obtain ⟨_, _, ⟨T7, L7, k7, n7⟩, -, X7, ⟨Lc7, hQ7, l7, y7, z7⟩, st7⟩ := Jvm.LawKit.callS X5 hx (y := (⟨"com/example/caprice/caprice/solver/DomainsGatherReasonsPinLaw", "add", "(II)I"⟩ : MethodName)) hown (mvT hZ (hw _ (List.mem_of_getElem? (i := 77) rfl))) (mvT hZ (hw _ (List.mem_of_getElem? (i := 78) rfl))) (mvT hZ (hw _ (List.mem_of_getElem? (i := 2) rfl))) (mvT hZ (hw _ (List.mem_of_getElem? (i := 79) rfl))) (by decide) (backOf (W := 0) (rm12_15 l Z a0 hw []  (((0 : Int32) ||| ((1 : Int32) <<< (va &&& 31))) ||| ((1 : Int32) <<< (vb &&& 31))) vc h0 n0 (own_n0 O0) O0 hd7 hd8 hd9 hd10) hZ (hw _ (List.mem_of_getElem? (i := 79) rfl)) (hw _ (List.mem_of_getElem? (i := 2) rfl)) (by decide) (by decide)) (g := (mkF m 46 #[.val (.ref ob0), .val (.int (3 : Int32)), .val (.int (((0 : Int32) ||| ((1 : Int32) <<< (va &&& 31))) ||| ((1 : Int32) <<< (vb &&& 31))))] [(.int vc), (.int (((0 : Int32) ||| ((1 : Int32) <<< (va &&& 31))) ||| ((1 : Int32) <<< (vb &&& 31))))])) rfl (by rw [hml]; rfl) (argsL := [(.int (((0 : Int32) ||| ((1 : Int32) <<< (va &&& 31))) ||| ((1 : Int32) <<< (vb &&& 31)))), (.int vc)]) (rest := []) (lenOf pd298 rfl) rfl (by show 2 * 0 + _ ≤ _; exact Nat.le_of_eq rfl) (hb hby d8_46) (fun _ _ => ⟨rfl, e5, (by decide : 0 + 0 ≤ _), (by decide : 0 + 0 ≤ _)⟩)
  dsimp only [Pt.U, Pt.locs, Pt.cells, Pt.slots] at X7 l7 y7 z7 st7 hQ7
  subst l7 y7 z7
  obtain ⟨rfl, N7q, e7⟩ := hQ7
  have N7 := Fr.app N5 N7q
  obtain ⟨fs, hr, hrun, hended, hW, hsame⟩ := X7.leave (v := some (.int ((((0 : Int32) ||| ((1 : Int32) <<< (va &&& 31))) ||| ((1 : Int32) <<< (vb &&& 31))) ||| ((1 : Int32) <<< (vc &&& 31))))) (fun h => by rw [Bd.returns] at h; cases h)
  refine ⟨_, _, pre0 _ ?_, hrun, hended, _, _, rfl, ?_, ⟨_, rfl⟩, hW, hsame.mono (by decide) (by decide)⟩
  · show Steps p.tables e below (s₁.setTop (mkF m 0 #[.val (.ref ob0), .unset, .unset] [])) _
    refine XS.aloadN X0.here hx rfl (hb hby d8_0) rfl rfl ?_
    show Steps p.tables e below (s₁.setTop (mkF m 1 #[.val (.ref ob0), .unset, .unset] [(.ref ob0)])) _
    refine X0.arraylength hx (by rw [e0]; exact aA1.1) (State.isArrayOf_alike hZ.alike aA1.2.1) (g := (mkF m 1 #[.val (.ref ob0), .unset, .unset] [(.ref ob0)])) rfl rfl (hb hby d8_1) _ ?_
    rw [len_of aS1 aN1]
    show Steps p.tables e below (s₁.setTop (mkF m 2 #[.val (.ref ob0), .unset, .unset] [(.int (3 : Int32))])) _
    refine XS.istoreN X0.here hx rfl (hb hby d8_2) rfl (l' := #[.val (.ref ob0), .val (.int (3 : Int32)), .unset]) rfl ?_
    show Steps p.tables e below (s₁.setTop (mkF m 3 #[.val (.ref ob0), .val (.int (3 : Int32)), .unset] [])) _
    refine XS.iloadN X0.here hx rfl (hb hby d8_3) rfl ?_
    show Steps p.tables e below (s₁.setTop (mkF m 4 #[.val (.ref ob0), .val (.int (3 : Int32)), .unset] [(.int (3 : Int32))])) _
    refine XS.iconst X0.here hx rfl (hb hby d8_4) ?_
    show Steps p.tables e below (s₁.setTop (mkF m 5 #[.val (.ref ob0), .val (.int (3 : Int32)), .unset] [(.int (4 : Int32)), (.int (3 : Int32))])) _
    refine XS.icmpYes X0.here hx rfl (pc0 := 5) (pc' := 10) rfl (hb hby d8_5) rfl (flt (by decide : ¬ ((4 : Int32) < (3 : Int32)))).2.2.2 (by decide) (by decide) ?_
    show Steps p.tables e below (s₁.setTop (mkF m 10 #[.val (.ref ob0), .val (.int (3 : Int32)), .unset] [])) _
    refine XS.iconst X0.here hx rfl (hb hby d8_10) ?_
    show Steps p.tables e below (s₁.setTop (mkF m 11 #[.val (.ref ob0), .val (.int (3 : Int32)), .unset] [(.int (0 : Int32))])) _
    refine XS.istoreN X0.here hx rfl (hb hby d8_11) rfl (l' := #[.val (.ref ob0), .val (.int (3 : Int32)), .val (.int (0 : Int32))]) rfl ?_
    show Steps p.tables e below (s₁.setTop (mkF m 12 #[.val (.ref ob0), .val (.int (3 : Int32)), .val (.int (0 : Int32))] [])) _
    refine XS.iloadN X0.here hx rfl (hb hby d8_12) rfl ?_
    show Steps p.tables e below (s₁.setTop (mkF m 13 #[.val (.ref ob0), .val (.int (3 : Int32)), .val (.int (0 : Int32))] [(.int (3 : Int32))])) _
    refine XS.ifNo X0.here hx rfl (hb hby d8_13) rfl ((if0 _ _).trans (tlt (by decide : (0 : Int32) < (3 : Int32))).2.2.2) ?_
    show Steps p.tables e below (s₁.setTop (mkF m 16 #[.val (.ref ob0), .val (.int (3 : Int32)), .val (.int (0 : Int32))] [])) _
    refine XS.iloadN X0.here hx rfl (hb hby d8_16) rfl ?_
    show Steps p.tables e below (s₁.setTop (mkF m 17 #[.val (.ref ob0), .val (.int (3 : Int32)), .val (.int (0 : Int32))] [(.int (0 : Int32))])) _
    refine XS.aloadN X0.here hx rfl (hb hby d8_17) rfl rfl ?_
    show Steps p.tables e below (s₁.setTop (mkF m 18 #[.val (.ref ob0), .val (.int (3 : Int32)), .val (.int (0 : Int32))] [(.ref ob0), (.int (0 : Int32))])) _
    refine XS.iconst X0.here hx rfl (hb hby d8_18) ?_
    show Steps p.tables e below (s₁.setTop (mkF m 19 #[.val (.ref ob0), .val (.int (3 : Int32)), .val (.int (0 : Int32))] [(.int (0 : Int32)), (.ref ob0), (.int (0 : Int32))])) _
    refine X0.iaload hx (j := (0 : Int32)) (v := (.int va)) (by rw [e0]; exact aA2.1) (State.isArrayOf_alike hZ.alike aA2.2.1) aA2.2.2 (inb_of aS2 ⟨by decide, by decide⟩) (aH2.at (inb_of aS2 ⟨by decide, by decide⟩) rfl) (g := (mkF m 19 #[.val (.ref ob0), .val (.int (3 : Int32)), .val (.int (0 : Int32))] [(.int (0 : Int32)), (.ref ob0), (.int (0 : Int32))])) rfl rfl (hb hby d8_19) _ ?_
    show Steps p.tables e below (s₁.setTop (mkF m 20 #[.val (.ref ob0), .val (.int (3 : Int32)), .val (.int (0 : Int32))] [(.int va), (.int (0 : Int32))])) _
    refine st3 _ ?_
    show Steps p.tables e below (T3.setTop (mkF m 23 #[.val (.ref ob0), .val (.int (3 : Int32)), .val (.int (0 : Int32))] [(.int ((0 : Int32) ||| ((1 : Int32) <<< (va &&& 31))))])) _
    refine XS.istoreN X3.here hx rfl (hb hby d8_23) rfl (l' := #[.val (.ref ob0), .val (.int (3 : Int32)), .val (.int ((0 : Int32) ||| ((1 : Int32) <<< (va &&& 31))))]) rfl ?_
    show Steps p.tables e below (T3.setTop (mkF m 24 #[.val (.ref ob0), .val (.int (3 : Int32)), .val (.int ((0 : Int32) ||| ((1 : Int32) <<< (va &&& 31))))] [])) _
    refine XS.iloadN X3.here hx rfl (hb hby d8_24) rfl ?_
    show Steps p.tables e below (T3.setTop (mkF m 25 #[.val (.ref ob0), .val (.int (3 : Int32)), .val (.int ((0 : Int32) ||| ((1 : Int32) <<< (va &&& 31))))] [(.int (3 : Int32))])) _
    refine XS.iconst X3.here hx rfl (hb hby d8_25) ?_
    show Steps p.tables e below (T3.setTop (mkF m 26 #[.val (.ref ob0), .val (.int (3 : Int32)), .val (.int ((0 : Int32) ||| ((1 : Int32) <<< (va &&& 31))))] [(.int (1 : Int32)), (.int (3 : Int32))])) _
    refine XS.icmpNo X3.here hx rfl (hb hby d8_26) rfl (tlt (by decide : (1 : Int32) < (3 : Int32))).2.2.2 ?_
    show Steps p.tables e below (T3.setTop (mkF m 29 #[.val (.ref ob0), .val (.int (3 : Int32)), .val (.int ((0 : Int32) ||| ((1 : Int32) <<< (va &&& 31))))] [])) _
    refine XS.iloadN X3.here hx rfl (hb hby d8_29) rfl ?_
    show Steps p.tables e below (T3.setTop (mkF m 30 #[.val (.ref ob0), .val (.int (3 : Int32)), .val (.int ((0 : Int32) ||| ((1 : Int32) <<< (va &&& 31))))] [(.int ((0 : Int32) ||| ((1 : Int32) <<< (va &&& 31))))])) _
    refine XS.aloadN X3.here hx rfl (hb hby d8_30) rfl rfl ?_
    show Steps p.tables e below (T3.setTop (mkF m 31 #[.val (.ref ob0), .val (.int (3 : Int32)), .val (.int ((0 : Int32) ||| ((1 : Int32) <<< (va &&& 31))))] [(.ref ob0), (.int ((0 : Int32) ||| ((1 : Int32) <<< (va &&& 31))))])) _
    refine XS.iconst X3.here hx rfl (hb hby d8_31) ?_
    show Steps p.tables e below (T3.setTop (mkF m 32 #[.val (.ref ob0), .val (.int (3 : Int32)), .val (.int ((0 : Int32) ||| ((1 : Int32) <<< (va &&& 31))))] [(.int (1 : Int32)), (.ref ob0), (.int ((0 : Int32) ||| ((1 : Int32) <<< (va &&& 31))))])) _
    refine X3.iaload hx (j := (1 : Int32)) (v := (.int vb)) (by rw [e3]; exact aA4.1) (State.isArrayOf_alike hZ.alike aA4.2.1) aA4.2.2 (inb_of aS4 ⟨by decide, by decide⟩) (aH4.at (inb_of aS4 ⟨by decide, by decide⟩) rfl) (g := (mkF m 32 #[.val (.ref ob0), .val (.int (3 : Int32)), .val (.int ((0 : Int32) ||| ((1 : Int32) <<< (va &&& 31))))] [(.int (1 : Int32)), (.ref ob0), (.int ((0 : Int32) ||| ((1 : Int32) <<< (va &&& 31))))])) rfl rfl (hb hby d8_32) _ ?_
    show Steps p.tables e below (T3.setTop (mkF m 33 #[.val (.ref ob0), .val (.int (3 : Int32)), .val (.int ((0 : Int32) ||| ((1 : Int32) <<< (va &&& 31))))] [(.int vb), (.int ((0 : Int32) ||| ((1 : Int32) <<< (va &&& 31))))])) _
    refine st5 _ ?_
    show Steps p.tables e below (T5.setTop (mkF m 36 #[.val (.ref ob0), .val (.int (3 : Int32)), .val (.int ((0 : Int32) ||| ((1 : Int32) <<< (va &&& 31))))] [(.int (((0 : Int32) ||| ((1 : Int32) <<< (va &&& 31))) ||| ((1 : Int32) <<< (vb &&& 31))))])) _
    refine XS.istoreN X5.here hx rfl (hb hby d8_36) rfl (l' := #[.val (.ref ob0), .val (.int (3 : Int32)), .val (.int (((0 : Int32) ||| ((1 : Int32) <<< (va &&& 31))) ||| ((1 : Int32) <<< (vb &&& 31))))]) rfl ?_
    show Steps p.tables e below (T5.setTop (mkF m 37 #[.val (.ref ob0), .val (.int (3 : Int32)), .val (.int (((0 : Int32) ||| ((1 : Int32) <<< (va &&& 31))) ||| ((1 : Int32) <<< (vb &&& 31))))] [])) _
    refine XS.iloadN X5.here hx rfl (hb hby d8_37) rfl ?_
    show Steps p.tables e below (T5.setTop (mkF m 38 #[.val (.ref ob0), .val (.int (3 : Int32)), .val (.int (((0 : Int32) ||| ((1 : Int32) <<< (va &&& 31))) ||| ((1 : Int32) <<< (vb &&& 31))))] [(.int (3 : Int32))])) _
    refine XS.iconst X5.here hx rfl (hb hby d8_38) ?_
    show Steps p.tables e below (T5.setTop (mkF m 39 #[.val (.ref ob0), .val (.int (3 : Int32)), .val (.int (((0 : Int32) ||| ((1 : Int32) <<< (va &&& 31))) ||| ((1 : Int32) <<< (vb &&& 31))))] [(.int (2 : Int32)), (.int (3 : Int32))])) _
    refine XS.icmpNo X5.here hx rfl (hb hby d8_39) rfl (tlt (by decide : (2 : Int32) < (3 : Int32))).2.2.2 ?_
    show Steps p.tables e below (T5.setTop (mkF m 42 #[.val (.ref ob0), .val (.int (3 : Int32)), .val (.int (((0 : Int32) ||| ((1 : Int32) <<< (va &&& 31))) ||| ((1 : Int32) <<< (vb &&& 31))))] [])) _
    refine XS.iloadN X5.here hx rfl (hb hby d8_42) rfl ?_
    show Steps p.tables e below (T5.setTop (mkF m 43 #[.val (.ref ob0), .val (.int (3 : Int32)), .val (.int (((0 : Int32) ||| ((1 : Int32) <<< (va &&& 31))) ||| ((1 : Int32) <<< (vb &&& 31))))] [(.int (((0 : Int32) ||| ((1 : Int32) <<< (va &&& 31))) ||| ((1 : Int32) <<< (vb &&& 31))))])) _
    refine XS.aloadN X5.here hx rfl (hb hby d8_43) rfl rfl ?_
    show Steps p.tables e below (T5.setTop (mkF m 44 #[.val (.ref ob0), .val (.int (3 : Int32)), .val (.int (((0 : Int32) ||| ((1 : Int32) <<< (va &&& 31))) ||| ((1 : Int32) <<< (vb &&& 31))))] [(.ref ob0), (.int (((0 : Int32) ||| ((1 : Int32) <<< (va &&& 31))) ||| ((1 : Int32) <<< (vb &&& 31))))])) _
    refine XS.iconst X5.here hx rfl (hb hby d8_44) ?_
    show Steps p.tables e below (T5.setTop (mkF m 45 #[.val (.ref ob0), .val (.int (3 : Int32)), .val (.int (((0 : Int32) ||| ((1 : Int32) <<< (va &&& 31))) ||| ((1 : Int32) <<< (vb &&& 31))))] [(.int (2 : Int32)), (.ref ob0), (.int (((0 : Int32) ||| ((1 : Int32) <<< (va &&& 31))) ||| ((1 : Int32) <<< (vb &&& 31))))])) _
    refine X5.iaload hx (j := (2 : Int32)) (v := (.int vc)) (by rw [e5]; exact aA6.1) (State.isArrayOf_alike hZ.alike aA6.2.1) aA6.2.2 (inb_of aS6 ⟨by decide, by decide⟩) (aH6.at (inb_of aS6 ⟨by decide, by decide⟩) rfl) (g := (mkF m 45 #[.val (.ref ob0), .val (.int (3 : Int32)), .val (.int (((0 : Int32) ||| ((1 : Int32) <<< (va &&& 31))) ||| ((1 : Int32) <<< (vb &&& 31))))] [(.int (2 : Int32)), (.ref ob0), (.int (((0 : Int32) ||| ((1 : Int32) <<< (va &&& 31))) ||| ((1 : Int32) <<< (vb &&& 31))))])) rfl rfl (hb hby d8_45) _ ?_
    show Steps p.tables e below (T5.setTop (mkF m 46 #[.val (.ref ob0), .val (.int (3 : Int32)), .val (.int (((0 : Int32) ||| ((1 : Int32) <<< (va &&& 31))) ||| ((1 : Int32) <<< (vb &&& 31))))] [(.int vc), (.int (((0 : Int32) ||| ((1 : Int32) <<< (va &&& 31))) ||| ((1 : Int32) <<< (vb &&& 31))))])) _
    refine st7 _ ?_
    show Steps p.tables e below (T7.setTop (mkF m 49 #[.val (.ref ob0), .val (.int (3 : Int32)), .val (.int (((0 : Int32) ||| ((1 : Int32) <<< (va &&& 31))) ||| ((1 : Int32) <<< (vb &&& 31))))] [(.int ((((0 : Int32) ||| ((1 : Int32) <<< (va &&& 31))) ||| ((1 : Int32) <<< (vb &&& 31))) ||| ((1 : Int32) <<< (vc &&& 31))))])) _
    refine XS.istoreN X7.here hx rfl (hb hby d8_49) rfl (l' := #[.val (.ref ob0), .val (.int (3 : Int32)), .val (.int ((((0 : Int32) ||| ((1 : Int32) <<< (va &&& 31))) ||| ((1 : Int32) <<< (vb &&& 31))) ||| ((1 : Int32) <<< (vc &&& 31))))]) rfl ?_
    show Steps p.tables e below (T7.setTop (mkF m 50 #[.val (.ref ob0), .val (.int (3 : Int32)), .val (.int ((((0 : Int32) ||| ((1 : Int32) <<< (va &&& 31))) ||| ((1 : Int32) <<< (vb &&& 31))) ||| ((1 : Int32) <<< (vc &&& 31))))] [])) _
    refine XS.iloadN X7.here hx rfl (hb hby d8_50) rfl ?_
    show Steps p.tables e below (T7.setTop (mkF m 51 #[.val (.ref ob0), .val (.int (3 : Int32)), .val (.int ((((0 : Int32) ||| ((1 : Int32) <<< (va &&& 31))) ||| ((1 : Int32) <<< (vb &&& 31))) ||| ((1 : Int32) <<< (vc &&& 31))))] [(.int (3 : Int32))])) _
    refine XS.iconst X7.here hx rfl (hb hby d8_51) ?_
    show Steps p.tables e below (T7.setTop (mkF m 52 #[.val (.ref ob0), .val (.int (3 : Int32)), .val (.int ((((0 : Int32) ||| ((1 : Int32) <<< (va &&& 31))) ||| ((1 : Int32) <<< (vb &&& 31))) ||| ((1 : Int32) <<< (vc &&& 31))))] [(.int (3 : Int32)), (.int (3 : Int32))])) _
    refine XS.icmpYes X7.here hx rfl (pc0 := 52) (pc' := 63) rfl (hb hby d8_52) rfl (flt (by decide : ¬ ((3 : Int32) < (3 : Int32)))).2.2.2 (by decide) (by decide) ?_
    show Steps p.tables e below (T7.setTop (mkF m 63 #[.val (.ref ob0), .val (.int (3 : Int32)), .val (.int ((((0 : Int32) ||| ((1 : Int32) <<< (va &&& 31))) ||| ((1 : Int32) <<< (vb &&& 31))) ||| ((1 : Int32) <<< (vc &&& 31))))] [])) _
    refine XS.iloadN X7.here hx rfl (hb hby d8_63) rfl ?_
    show Steps p.tables e below (T7.setTop (mkF m 64 #[.val (.ref ob0), .val (.int (3 : Int32)), .val (.int ((((0 : Int32) ||| ((1 : Int32) <<< (va &&& 31))) ||| ((1 : Int32) <<< (vb &&& 31))) ||| ((1 : Int32) <<< (vc &&& 31))))] [(.int ((((0 : Int32) ||| ((1 : Int32) <<< (va &&& 31))) ||| ((1 : Int32) <<< (vb &&& 31))) ||| ((1 : Int32) <<< (vc &&& 31))))])) _
    exact Jvm.RoadKit.retI X7 hx Bd.returns (hb hby d8_64) hr
  · exact ⟨rfl, N7, e7⟩
theorem d8_55 : decode method_6_code 55 = .ok (.iload_n 2, 1) := by decide +kernel
theorem d8_56 : decode method_6_code 56 = .ok (.aload_n 0, 1) := by decide +kernel
theorem d8_57 : decode method_6_code 57 = .ok (.iconst 3, 1) := by decide +kernel
theorem d8_58 : decode method_6_code 58 = .ok (.iaload, 1) := by decide +kernel
theorem d8_59 : decode method_6_code 59 = .ok (.invokestatic 38, 3) := by decide +kernel
theorem d8_62 : decode method_6_code 62 = .ok (.istore_n 2, 1) := by decide +kernel
def Q8_18 (Z : State) (ob0 : Addr) (k_ob0 : ClassId) (va : Int32) (vb : Int32) (vc : Int32) (vd : Int32) (h0 : Heap) (n0 : Nat) (v : Option Value) (h : Heap) (L : List Loc) : Prop := v = some (.int (((((0 : Int32) ||| ((1 : Int32) <<< (va &&& 31))) ||| ((1 : Int32) <<< (vb &&& 31))) ||| ((1 : Int32) <<< (vc &&& 31))) ||| ((1 : Int32) <<< (vd &&& 31)))) ∧ Fr n0 L ∧ h = h0
set_option maxRecDepth 65536 in
set_option maxHeartbeats 40000000 in
theorem rm8_18 (l : Launch) (Z : State) (a0 : Array Value) (hw : ∀ d ∈ tables_1, d.before a0 Z = true) (ws : List Jvm.Cond) (ob0 : Addr) (k_ob0 : ClassId) (va : Int32) (vb : Int32) (vc : Int32) (vd : Int32) (h0 : Heap) (n0 : Nat) (Z0 : n0 ≤ h0.size) (O0 : Old Z n0 h0) (PV_ob0 : Arv Z h0 ob0 k_ob0 .int (4 : Int32) [(.int va), (.int vb), (.int vc), (.int vd)] (.int (0 : Int32))) (hd0 : ¬ (va < (0 : Int32))) (hd1 : ¬ ((3 : Int32) < va)) (hd2 : ((0 : Int32) &&& ((1 : Int32) <<< (va &&& 31))) = (0 : Int32)) (hd3 : ¬ (((0 : Int32) ||| ((1 : Int32) <<< (va &&& 31))) < (0 : Int32))) (hd4 : ¬ (vb < (0 : Int32))) (hd5 : ¬ ((3 : Int32) < vb)) (hd6 : (((0 : Int32) ||| ((1 : Int32) <<< (va &&& 31))) &&& ((1 : Int32) <<< (vb &&& 31))) = (0 : Int32)) (hd7 : ¬ ((((0 : Int32) ||| ((1 : Int32) <<< (va &&& 31))) ||| ((1 : Int32) <<< (vb &&& 31))) < (0 : Int32))) (hd8 : ¬ (vc < (0 : Int32))) (hd9 : ¬ ((3 : Int32) < vc)) (hd10 : ((((0 : Int32) ||| ((1 : Int32) <<< (va &&& 31))) ||| ((1 : Int32) <<< (vb &&& 31))) &&& ((1 : Int32) <<< (vc &&& 31))) = (0 : Int32)) (hd11 : ¬ (((((0 : Int32) ||| ((1 : Int32) <<< (va &&& 31))) ||| ((1 : Int32) <<< (vb &&& 31))) ||| ((1 : Int32) <<< (vc &&& 31))) < (0 : Int32))) (hd12 : ¬ (vd < (0 : Int32))) (hd13 : ¬ ((3 : Int32) < vd)) (hd14 : (((((0 : Int32) ||| ((1 : Int32) <<< (va &&& 31))) ||| ((1 : Int32) <<< (vb &&& 31))) ||| ((1 : Int32) <<< (vc &&& 31))) &&& ((1 : Int32) <<< (vd &&& 31))) = (0 : Int32)) :
    MetFree l (⟨"com/example/caprice/caprice/solver/DomainsGatherReasonsPinLaw", "maskOf", "([I)I"⟩ : MethodName) (head1 (Jvm.Cond.code (⟨"com/example/caprice/caprice/solver/DomainsGatherReasonsPinLaw", "maskOf", "([I)I"⟩ : MethodName) method_6_code 3 (some .int) :: ws) ({ frames := 1, cells := 0, slots := 0, locals := 14 } : Room)) (fun a U => a = #[(.ref ob0)] ∧ Z.Warmed39 U.vm ∧ U.heap = h0) (fun _ _ _ _ _ => True) (fun _ U o U' => ∃ v L, o = .returned v ∧ Q8_18 Z  ob0 k_ob0 va vb vc vd h0 n0 v U'.heap L ∧ FrameEnd U o U' L ({ frames := 1, cells := 0, slots := 0, locals := 14 } : Room).cells ({ frames := 1, cells := 0, slots := 0, locals := 14 } : Room).slots) := by
  refine MetFree.of_bodySF (plainFor_of_name pn152) hisR ?_
  intro p e s m args below meth c s₁ Bd hml0 hP hK
  obtain ⟨rfl, hZ, hh⟩ := hP
  have hx := Bd.exec
  have hby := Bd.bytes
  have hml : c.maxLocals = 3 := hml0
  have hown : s.vm.findClass "com/example/caprice/caprice/solver/DomainsGatherReasonsPinLaw" = some m.cls := findClass_of_methodNamed Bd.named
  have hnm := (name_of_methodNamed Bd.named Bd.method).1
  have X0 : Stand p l e ({ frames := 1, cells := 0, slots := 0, locals := 14 } : Room) s m #[(.ref ob0)] below meth c s₁ [] 0 0 := Stand.of_body Bd
  have e0 : s₁.heap = h0 := by rw [← hh, Bd.state]; rfl
  have N0 := Fr.nil n0
  have pre0 : ∀ t, Steps p.tables e below (s₁.setTop (mkF m 0 #[.val (.ref ob0), .unset, .unset] [])) t → Steps p.tables e below (s₁.setTop (entryFrame m #[(.ref ob0)] 3)) t := fun t k => castTop (ef313 m ob0) k
  obtain ⟨ac1, aA1, aq1, aS1, aN1, aH1, aG1⟩ := id PV_ob0
  obtain ⟨ac2, aA2, aq2, aS2, aN2, aH2, aG2⟩ := id PV_ob0
  obtain ⟨_, _, ⟨T3, L3, k3, n3⟩, -, X3, ⟨Lc3, hQ3, l3, y3, z3⟩, st3⟩ := Jvm.LawKit.callS X0 hx (y := (⟨"com/example/caprice/caprice/solver/DomainsGatherReasonsPinLaw", "add", "(II)I"⟩ : MethodName)) hown (mvT hZ (hw _ (List.mem_of_getElem? (i := 77) rfl))) (mvT hZ (hw _ (List.mem_of_getElem? (i := 78) rfl))) (mvT hZ (hw _ (List.mem_of_getElem? (i := 2) rfl))) (mvT hZ (hw _ (List.mem_of_getElem? (i := 79) rfl))) (by decide) (backOf (W := 0) (rm12_13 l Z a0 hw []  va h0 n0 (own_n0 O0) O0 hd0 hd1 hd2) hZ (hw _ (List.mem_of_getElem? (i := 79) rfl)) (hw _ (List.mem_of_getElem? (i := 2) rfl)) (by decide) (by decide)) (g := (mkF m 20 #[.val (.ref ob0), .val (.int (4 : Int32)), .val (.int (0 : Int32))] [(.int va), (.int (0 : Int32))])) rfl (by rw [hml]; rfl) (argsL := [(.int (0 : Int32)), (.int va)]) (rest := []) (lenOf pd298 rfl) rfl (by show 2 * 0 + _ ≤ _; exact Nat.le_of_eq rfl) (hb hby d8_20) (fun _ _ => ⟨rfl, e0, (by decide : 0 + 0 ≤ _), (by decide : 0 + 0 ≤ _)⟩)
  dsimp only [Pt.U, Pt.locs, Pt.cells, Pt.slots] at X3 l3 y3 z3 st3 hQ3
  subst l3 y3 z3
  obtain ⟨rfl, N3q, e3⟩ := hQ3
  have N3 := Fr.app N0 N3q
  obtain ⟨ac4, aA4, aq4, aS4, aN4, aH4, aG4⟩ := id PV_ob0
  obtain ⟨_, _, ⟨T5, L5, k5, n5⟩, -, X5, ⟨Lc5, hQ5, l5, y5, z5⟩, st5⟩ := Jvm.LawKit.callS X3 hx (y := (⟨"com/example/caprice/caprice/solver/DomainsGatherReasonsPinLaw", "add", "(II)I"⟩ : MethodName)) hown (mvT hZ (hw _ (List.mem_of_getElem? (i := 77) rfl))) (mvT hZ (hw _ (List.mem_of_getElem? (i := 78) rfl))) (mvT hZ (hw _ (List.mem_of_getElem? (i := 2) rfl))) (mvT hZ (hw _ (List.mem_of_getElem? (i := 79) rfl))) (by decide) (backOf (W := 0) (rm12_15 l Z a0 hw []  ((0 : Int32) ||| ((1 : Int32) <<< (va &&& 31))) vb h0 n0 (own_n0 O0) O0 hd3 hd4 hd5 hd6) hZ (hw _ (List.mem_of_getElem? (i := 79) rfl)) (hw _ (List.mem_of_getElem? (i := 2) rfl)) (by decide) (by decide)) (g := (mkF m 33 #[.val (.ref ob0), .val (.int (4 : Int32)), .val (.int ((0 : Int32) ||| ((1 : Int32) <<< (va &&& 31))))] [(.int vb), (.int ((0 : Int32) ||| ((1 : Int32) <<< (va &&& 31))))])) rfl (by rw [hml]; rfl) (argsL := [(.int ((0 : Int32) ||| ((1 : Int32) <<< (va &&& 31)))), (.int vb)]) (rest := []) (lenOf pd298 rfl) rfl (by show 2 * 0 + _ ≤ _; exact Nat.le_of_eq rfl) (hb hby d8_33) (fun _ _ => ⟨rfl, e3, (by decide : 0 + 0 ≤ _), (by decide : 0 + 0 ≤ _)⟩)
  dsimp only [Pt.U, Pt.locs, Pt.cells, Pt.slots] at X5 l5 y5 z5 st5 hQ5
  subst l5 y5 z5
  obtain ⟨rfl, N5q, e5⟩ := hQ5
  have N5 := Fr.app N3 N5q
  obtain ⟨ac6, aA6, aq6, aS6, aN6, aH6, aG6⟩ := id PV_ob0
  obtain ⟨_, _, ⟨T7, L7, k7, n7⟩, -, X7, ⟨Lc7, hQ7, l7, y7, z7⟩, st7⟩ := Jvm.LawKit.callS X5 hx (y := (⟨"com/example/caprice/caprice/solver/DomainsGatherReasonsPinLaw", "add", "(II)I"⟩ : MethodName)) hown (mvT hZ (hw _ (List.mem_of_getElem? (i := 77) rfl))) (mvT hZ (hw _ (List.mem_of_getElem? (i := 78) rfl))) (mvT hZ (hw _ (List.mem_of_getElem? (i := 2) rfl))) (mvT hZ (hw _ (List.mem_of_getElem? (i := 79) rfl))) (by decide) (backOf (W := 0) (rm12_15 l Z a0 hw []  (((0 : Int32) ||| ((1 : Int32) <<< (va &&& 31))) ||| ((1 : Int32) <<< (vb &&& 31))) vc h0 n0 (own_n0 O0) O0 hd7 hd8 hd9 hd10) hZ (hw _ (List.mem_of_getElem? (i := 79) rfl)) (hw _ (List.mem_of_getElem? (i := 2) rfl)) (by decide) (by decide)) (g := (mkF m 46 #[.val (.ref ob0), .val (.int (4 : Int32)), .val (.int (((0 : Int32) ||| ((1 : Int32) <<< (va &&& 31))) ||| ((1 : Int32) <<< (vb &&& 31))))] [(.int vc), (.int (((0 : Int32) ||| ((1 : Int32) <<< (va &&& 31))) ||| ((1 : Int32) <<< (vb &&& 31))))])) rfl (by rw [hml]; rfl) (argsL := [(.int (((0 : Int32) ||| ((1 : Int32) <<< (va &&& 31))) ||| ((1 : Int32) <<< (vb &&& 31)))), (.int vc)]) (rest := []) (lenOf pd298 rfl) rfl (by show 2 * 0 + _ ≤ _; exact Nat.le_of_eq rfl) (hb hby d8_46) (fun _ _ => ⟨rfl, e5, (by decide : 0 + 0 ≤ _), (by decide : 0 + 0 ≤ _)⟩)
  dsimp only [Pt.U, Pt.locs, Pt.cells, Pt.slots] at X7 l7 y7 z7 st7 hQ7
  subst l7 y7 z7
  obtain ⟨rfl, N7q, e7⟩ := hQ7
  have N7 := Fr.app N5 N7q
  obtain ⟨ac8, aA8, aq8, aS8, aN8, aH8, aG8⟩ := id PV_ob0
  obtain ⟨_, _, ⟨T9, L9, k9, n9⟩, -, X9, ⟨Lc9, hQ9, l9, y9, z9⟩, st9⟩ := Jvm.LawKit.callS X7 hx (y := (⟨"com/example/caprice/caprice/solver/DomainsGatherReasonsPinLaw", "add", "(II)I"⟩ : MethodName)) hown (mvT hZ (hw _ (List.mem_of_getElem? (i := 77) rfl))) (mvT hZ (hw _ (List.mem_of_getElem? (i := 78) rfl))) (mvT hZ (hw _ (List.mem_of_getElem? (i := 2) rfl))) (mvT hZ (hw _ (List.mem_of_getElem? (i := 79) rfl))) (by decide) (backOf (W := 0) (rm12_15 l Z a0 hw []  ((((0 : Int32) ||| ((1 : Int32) <<< (va &&& 31))) ||| ((1 : Int32) <<< (vb &&& 31))) ||| ((1 : Int32) <<< (vc &&& 31))) vd h0 n0 (own_n0 O0) O0 hd11 hd12 hd13 hd14) hZ (hw _ (List.mem_of_getElem? (i := 79) rfl)) (hw _ (List.mem_of_getElem? (i := 2) rfl)) (by decide) (by decide)) (g := (mkF m 59 #[.val (.ref ob0), .val (.int (4 : Int32)), .val (.int ((((0 : Int32) ||| ((1 : Int32) <<< (va &&& 31))) ||| ((1 : Int32) <<< (vb &&& 31))) ||| ((1 : Int32) <<< (vc &&& 31))))] [(.int vd), (.int ((((0 : Int32) ||| ((1 : Int32) <<< (va &&& 31))) ||| ((1 : Int32) <<< (vb &&& 31))) ||| ((1 : Int32) <<< (vc &&& 31))))])) rfl (by rw [hml]; rfl) (argsL := [(.int ((((0 : Int32) ||| ((1 : Int32) <<< (va &&& 31))) ||| ((1 : Int32) <<< (vb &&& 31))) ||| ((1 : Int32) <<< (vc &&& 31)))), (.int vd)]) (rest := []) (lenOf pd298 rfl) rfl (by show 2 * 0 + _ ≤ _; exact Nat.le_of_eq rfl) (hb hby d8_59) (fun _ _ => ⟨rfl, e7, (by decide : 0 + 0 ≤ _), (by decide : 0 + 0 ≤ _)⟩)
  dsimp only [Pt.U, Pt.locs, Pt.cells, Pt.slots] at X9 l9 y9 z9 st9 hQ9
  subst l9 y9 z9
  obtain ⟨rfl, N9q, e9⟩ := hQ9
  have N9 := Fr.app N7 N9q
  obtain ⟨fs, hr, hrun, hended, hW, hsame⟩ := X9.leave (v := some (.int (((((0 : Int32) ||| ((1 : Int32) <<< (va &&& 31))) ||| ((1 : Int32) <<< (vb &&& 31))) ||| ((1 : Int32) <<< (vc &&& 31))) ||| ((1 : Int32) <<< (vd &&& 31))))) (fun h => by rw [Bd.returns] at h; cases h)
  refine ⟨_, _, pre0 _ ?_, hrun, hended, _, _, rfl, ?_, ⟨_, rfl⟩, hW, hsame.mono (by decide) (by decide)⟩
  · show Steps p.tables e below (s₁.setTop (mkF m 0 #[.val (.ref ob0), .unset, .unset] [])) _
    refine XS.aloadN X0.here hx rfl (hb hby d8_0) rfl rfl ?_
    show Steps p.tables e below (s₁.setTop (mkF m 1 #[.val (.ref ob0), .unset, .unset] [(.ref ob0)])) _
    refine X0.arraylength hx (by rw [e0]; exact aA1.1) (State.isArrayOf_alike hZ.alike aA1.2.1) (g := (mkF m 1 #[.val (.ref ob0), .unset, .unset] [(.ref ob0)])) rfl rfl (hb hby d8_1) _ ?_
    rw [len_of aS1 aN1]
    show Steps p.tables e below (s₁.setTop (mkF m 2 #[.val (.ref ob0), .unset, .unset] [(.int (4 : Int32))])) _
    refine XS.istoreN X0.here hx rfl (hb hby d8_2) rfl (l' := #[.val (.ref ob0), .val (.int (4 : Int32)), .unset]) rfl ?_
    show Steps p.tables e below (s₁.setTop (mkF m 3 #[.val (.ref ob0), .val (.int (4 : Int32)), .unset] [])) _
    refine XS.iloadN X0.here hx rfl (hb hby d8_3) rfl ?_
    show Steps p.tables e below (s₁.setTop (mkF m 4 #[.val (.ref ob0), .val (.int (4 : Int32)), .unset] [(.int (4 : Int32))])) _
    refine XS.iconst X0.here hx rfl (hb hby d8_4) ?_
    show Steps p.tables e below (s₁.setTop (mkF m 5 #[.val (.ref ob0), .val (.int (4 : Int32)), .unset] [(.int (4 : Int32)), (.int (4 : Int32))])) _
    refine XS.icmpYes X0.here hx rfl (pc0 := 5) (pc' := 10) rfl (hb hby d8_5) rfl (flt (by decide : ¬ ((4 : Int32) < (4 : Int32)))).2.2.2 (by decide) (by decide) ?_
    show Steps p.tables e below (s₁.setTop (mkF m 10 #[.val (.ref ob0), .val (.int (4 : Int32)), .unset] [])) _
    refine XS.iconst X0.here hx rfl (hb hby d8_10) ?_
    show Steps p.tables e below (s₁.setTop (mkF m 11 #[.val (.ref ob0), .val (.int (4 : Int32)), .unset] [(.int (0 : Int32))])) _
    refine XS.istoreN X0.here hx rfl (hb hby d8_11) rfl (l' := #[.val (.ref ob0), .val (.int (4 : Int32)), .val (.int (0 : Int32))]) rfl ?_
    show Steps p.tables e below (s₁.setTop (mkF m 12 #[.val (.ref ob0), .val (.int (4 : Int32)), .val (.int (0 : Int32))] [])) _
    refine XS.iloadN X0.here hx rfl (hb hby d8_12) rfl ?_
    show Steps p.tables e below (s₁.setTop (mkF m 13 #[.val (.ref ob0), .val (.int (4 : Int32)), .val (.int (0 : Int32))] [(.int (4 : Int32))])) _
    refine XS.ifNo X0.here hx rfl (hb hby d8_13) rfl ((if0 _ _).trans (tlt (by decide : (0 : Int32) < (4 : Int32))).2.2.2) ?_
    show Steps p.tables e below (s₁.setTop (mkF m 16 #[.val (.ref ob0), .val (.int (4 : Int32)), .val (.int (0 : Int32))] [])) _
    refine XS.iloadN X0.here hx rfl (hb hby d8_16) rfl ?_
    show Steps p.tables e below (s₁.setTop (mkF m 17 #[.val (.ref ob0), .val (.int (4 : Int32)), .val (.int (0 : Int32))] [(.int (0 : Int32))])) _
    refine XS.aloadN X0.here hx rfl (hb hby d8_17) rfl rfl ?_
    show Steps p.tables e below (s₁.setTop (mkF m 18 #[.val (.ref ob0), .val (.int (4 : Int32)), .val (.int (0 : Int32))] [(.ref ob0), (.int (0 : Int32))])) _
    refine XS.iconst X0.here hx rfl (hb hby d8_18) ?_
    show Steps p.tables e below (s₁.setTop (mkF m 19 #[.val (.ref ob0), .val (.int (4 : Int32)), .val (.int (0 : Int32))] [(.int (0 : Int32)), (.ref ob0), (.int (0 : Int32))])) _
    refine X0.iaload hx (j := (0 : Int32)) (v := (.int va)) (by rw [e0]; exact aA2.1) (State.isArrayOf_alike hZ.alike aA2.2.1) aA2.2.2 (inb_of aS2 ⟨by decide, by decide⟩) (aH2.at (inb_of aS2 ⟨by decide, by decide⟩) rfl) (g := (mkF m 19 #[.val (.ref ob0), .val (.int (4 : Int32)), .val (.int (0 : Int32))] [(.int (0 : Int32)), (.ref ob0), (.int (0 : Int32))])) rfl rfl (hb hby d8_19) _ ?_
    show Steps p.tables e below (s₁.setTop (mkF m 20 #[.val (.ref ob0), .val (.int (4 : Int32)), .val (.int (0 : Int32))] [(.int va), (.int (0 : Int32))])) _
    refine st3 _ ?_
    show Steps p.tables e below (T3.setTop (mkF m 23 #[.val (.ref ob0), .val (.int (4 : Int32)), .val (.int (0 : Int32))] [(.int ((0 : Int32) ||| ((1 : Int32) <<< (va &&& 31))))])) _
    refine XS.istoreN X3.here hx rfl (hb hby d8_23) rfl (l' := #[.val (.ref ob0), .val (.int (4 : Int32)), .val (.int ((0 : Int32) ||| ((1 : Int32) <<< (va &&& 31))))]) rfl ?_
    show Steps p.tables e below (T3.setTop (mkF m 24 #[.val (.ref ob0), .val (.int (4 : Int32)), .val (.int ((0 : Int32) ||| ((1 : Int32) <<< (va &&& 31))))] [])) _
    refine XS.iloadN X3.here hx rfl (hb hby d8_24) rfl ?_
    show Steps p.tables e below (T3.setTop (mkF m 25 #[.val (.ref ob0), .val (.int (4 : Int32)), .val (.int ((0 : Int32) ||| ((1 : Int32) <<< (va &&& 31))))] [(.int (4 : Int32))])) _
    refine XS.iconst X3.here hx rfl (hb hby d8_25) ?_
    show Steps p.tables e below (T3.setTop (mkF m 26 #[.val (.ref ob0), .val (.int (4 : Int32)), .val (.int ((0 : Int32) ||| ((1 : Int32) <<< (va &&& 31))))] [(.int (1 : Int32)), (.int (4 : Int32))])) _
    refine XS.icmpNo X3.here hx rfl (hb hby d8_26) rfl (tlt (by decide : (1 : Int32) < (4 : Int32))).2.2.2 ?_
    show Steps p.tables e below (T3.setTop (mkF m 29 #[.val (.ref ob0), .val (.int (4 : Int32)), .val (.int ((0 : Int32) ||| ((1 : Int32) <<< (va &&& 31))))] [])) _
    refine XS.iloadN X3.here hx rfl (hb hby d8_29) rfl ?_
    show Steps p.tables e below (T3.setTop (mkF m 30 #[.val (.ref ob0), .val (.int (4 : Int32)), .val (.int ((0 : Int32) ||| ((1 : Int32) <<< (va &&& 31))))] [(.int ((0 : Int32) ||| ((1 : Int32) <<< (va &&& 31))))])) _
    refine XS.aloadN X3.here hx rfl (hb hby d8_30) rfl rfl ?_
    show Steps p.tables e below (T3.setTop (mkF m 31 #[.val (.ref ob0), .val (.int (4 : Int32)), .val (.int ((0 : Int32) ||| ((1 : Int32) <<< (va &&& 31))))] [(.ref ob0), (.int ((0 : Int32) ||| ((1 : Int32) <<< (va &&& 31))))])) _
    refine XS.iconst X3.here hx rfl (hb hby d8_31) ?_
    show Steps p.tables e below (T3.setTop (mkF m 32 #[.val (.ref ob0), .val (.int (4 : Int32)), .val (.int ((0 : Int32) ||| ((1 : Int32) <<< (va &&& 31))))] [(.int (1 : Int32)), (.ref ob0), (.int ((0 : Int32) ||| ((1 : Int32) <<< (va &&& 31))))])) _
    refine X3.iaload hx (j := (1 : Int32)) (v := (.int vb)) (by rw [e3]; exact aA4.1) (State.isArrayOf_alike hZ.alike aA4.2.1) aA4.2.2 (inb_of aS4 ⟨by decide, by decide⟩) (aH4.at (inb_of aS4 ⟨by decide, by decide⟩) rfl) (g := (mkF m 32 #[.val (.ref ob0), .val (.int (4 : Int32)), .val (.int ((0 : Int32) ||| ((1 : Int32) <<< (va &&& 31))))] [(.int (1 : Int32)), (.ref ob0), (.int ((0 : Int32) ||| ((1 : Int32) <<< (va &&& 31))))])) rfl rfl (hb hby d8_32) _ ?_
    show Steps p.tables e below (T3.setTop (mkF m 33 #[.val (.ref ob0), .val (.int (4 : Int32)), .val (.int ((0 : Int32) ||| ((1 : Int32) <<< (va &&& 31))))] [(.int vb), (.int ((0 : Int32) ||| ((1 : Int32) <<< (va &&& 31))))])) _
    refine st5 _ ?_
    show Steps p.tables e below (T5.setTop (mkF m 36 #[.val (.ref ob0), .val (.int (4 : Int32)), .val (.int ((0 : Int32) ||| ((1 : Int32) <<< (va &&& 31))))] [(.int (((0 : Int32) ||| ((1 : Int32) <<< (va &&& 31))) ||| ((1 : Int32) <<< (vb &&& 31))))])) _
    refine XS.istoreN X5.here hx rfl (hb hby d8_36) rfl (l' := #[.val (.ref ob0), .val (.int (4 : Int32)), .val (.int (((0 : Int32) ||| ((1 : Int32) <<< (va &&& 31))) ||| ((1 : Int32) <<< (vb &&& 31))))]) rfl ?_
    show Steps p.tables e below (T5.setTop (mkF m 37 #[.val (.ref ob0), .val (.int (4 : Int32)), .val (.int (((0 : Int32) ||| ((1 : Int32) <<< (va &&& 31))) ||| ((1 : Int32) <<< (vb &&& 31))))] [])) _
    refine XS.iloadN X5.here hx rfl (hb hby d8_37) rfl ?_
    show Steps p.tables e below (T5.setTop (mkF m 38 #[.val (.ref ob0), .val (.int (4 : Int32)), .val (.int (((0 : Int32) ||| ((1 : Int32) <<< (va &&& 31))) ||| ((1 : Int32) <<< (vb &&& 31))))] [(.int (4 : Int32))])) _
    refine XS.iconst X5.here hx rfl (hb hby d8_38) ?_
    show Steps p.tables e below (T5.setTop (mkF m 39 #[.val (.ref ob0), .val (.int (4 : Int32)), .val (.int (((0 : Int32) ||| ((1 : Int32) <<< (va &&& 31))) ||| ((1 : Int32) <<< (vb &&& 31))))] [(.int (2 : Int32)), (.int (4 : Int32))])) _
    refine XS.icmpNo X5.here hx rfl (hb hby d8_39) rfl (tlt (by decide : (2 : Int32) < (4 : Int32))).2.2.2 ?_
    show Steps p.tables e below (T5.setTop (mkF m 42 #[.val (.ref ob0), .val (.int (4 : Int32)), .val (.int (((0 : Int32) ||| ((1 : Int32) <<< (va &&& 31))) ||| ((1 : Int32) <<< (vb &&& 31))))] [])) _
    refine XS.iloadN X5.here hx rfl (hb hby d8_42) rfl ?_
    show Steps p.tables e below (T5.setTop (mkF m 43 #[.val (.ref ob0), .val (.int (4 : Int32)), .val (.int (((0 : Int32) ||| ((1 : Int32) <<< (va &&& 31))) ||| ((1 : Int32) <<< (vb &&& 31))))] [(.int (((0 : Int32) ||| ((1 : Int32) <<< (va &&& 31))) ||| ((1 : Int32) <<< (vb &&& 31))))])) _
    refine XS.aloadN X5.here hx rfl (hb hby d8_43) rfl rfl ?_
    show Steps p.tables e below (T5.setTop (mkF m 44 #[.val (.ref ob0), .val (.int (4 : Int32)), .val (.int (((0 : Int32) ||| ((1 : Int32) <<< (va &&& 31))) ||| ((1 : Int32) <<< (vb &&& 31))))] [(.ref ob0), (.int (((0 : Int32) ||| ((1 : Int32) <<< (va &&& 31))) ||| ((1 : Int32) <<< (vb &&& 31))))])) _
    refine XS.iconst X5.here hx rfl (hb hby d8_44) ?_
    show Steps p.tables e below (T5.setTop (mkF m 45 #[.val (.ref ob0), .val (.int (4 : Int32)), .val (.int (((0 : Int32) ||| ((1 : Int32) <<< (va &&& 31))) ||| ((1 : Int32) <<< (vb &&& 31))))] [(.int (2 : Int32)), (.ref ob0), (.int (((0 : Int32) ||| ((1 : Int32) <<< (va &&& 31))) ||| ((1 : Int32) <<< (vb &&& 31))))])) _
    refine X5.iaload hx (j := (2 : Int32)) (v := (.int vc)) (by rw [e5]; exact aA6.1) (State.isArrayOf_alike hZ.alike aA6.2.1) aA6.2.2 (inb_of aS6 ⟨by decide, by decide⟩) (aH6.at (inb_of aS6 ⟨by decide, by decide⟩) rfl) (g := (mkF m 45 #[.val (.ref ob0), .val (.int (4 : Int32)), .val (.int (((0 : Int32) ||| ((1 : Int32) <<< (va &&& 31))) ||| ((1 : Int32) <<< (vb &&& 31))))] [(.int (2 : Int32)), (.ref ob0), (.int (((0 : Int32) ||| ((1 : Int32) <<< (va &&& 31))) ||| ((1 : Int32) <<< (vb &&& 31))))])) rfl rfl (hb hby d8_45) _ ?_
    show Steps p.tables e below (T5.setTop (mkF m 46 #[.val (.ref ob0), .val (.int (4 : Int32)), .val (.int (((0 : Int32) ||| ((1 : Int32) <<< (va &&& 31))) ||| ((1 : Int32) <<< (vb &&& 31))))] [(.int vc), (.int (((0 : Int32) ||| ((1 : Int32) <<< (va &&& 31))) ||| ((1 : Int32) <<< (vb &&& 31))))])) _
    refine st7 _ ?_
    show Steps p.tables e below (T7.setTop (mkF m 49 #[.val (.ref ob0), .val (.int (4 : Int32)), .val (.int (((0 : Int32) ||| ((1 : Int32) <<< (va &&& 31))) ||| ((1 : Int32) <<< (vb &&& 31))))] [(.int ((((0 : Int32) ||| ((1 : Int32) <<< (va &&& 31))) ||| ((1 : Int32) <<< (vb &&& 31))) ||| ((1 : Int32) <<< (vc &&& 31))))])) _
    refine XS.istoreN X7.here hx rfl (hb hby d8_49) rfl (l' := #[.val (.ref ob0), .val (.int (4 : Int32)), .val (.int ((((0 : Int32) ||| ((1 : Int32) <<< (va &&& 31))) ||| ((1 : Int32) <<< (vb &&& 31))) ||| ((1 : Int32) <<< (vc &&& 31))))]) rfl ?_
    show Steps p.tables e below (T7.setTop (mkF m 50 #[.val (.ref ob0), .val (.int (4 : Int32)), .val (.int ((((0 : Int32) ||| ((1 : Int32) <<< (va &&& 31))) ||| ((1 : Int32) <<< (vb &&& 31))) ||| ((1 : Int32) <<< (vc &&& 31))))] [])) _
    refine XS.iloadN X7.here hx rfl (hb hby d8_50) rfl ?_
    show Steps p.tables e below (T7.setTop (mkF m 51 #[.val (.ref ob0), .val (.int (4 : Int32)), .val (.int ((((0 : Int32) ||| ((1 : Int32) <<< (va &&& 31))) ||| ((1 : Int32) <<< (vb &&& 31))) ||| ((1 : Int32) <<< (vc &&& 31))))] [(.int (4 : Int32))])) _
    refine XS.iconst X7.here hx rfl (hb hby d8_51) ?_
    show Steps p.tables e below (T7.setTop (mkF m 52 #[.val (.ref ob0), .val (.int (4 : Int32)), .val (.int ((((0 : Int32) ||| ((1 : Int32) <<< (va &&& 31))) ||| ((1 : Int32) <<< (vb &&& 31))) ||| ((1 : Int32) <<< (vc &&& 31))))] [(.int (3 : Int32)), (.int (4 : Int32))])) _
    refine XS.icmpNo X7.here hx rfl (hb hby d8_52) rfl (tlt (by decide : (3 : Int32) < (4 : Int32))).2.2.2 ?_
    show Steps p.tables e below (T7.setTop (mkF m 55 #[.val (.ref ob0), .val (.int (4 : Int32)), .val (.int ((((0 : Int32) ||| ((1 : Int32) <<< (va &&& 31))) ||| ((1 : Int32) <<< (vb &&& 31))) ||| ((1 : Int32) <<< (vc &&& 31))))] [])) _
    refine XS.iloadN X7.here hx rfl (hb hby d8_55) rfl ?_
    show Steps p.tables e below (T7.setTop (mkF m 56 #[.val (.ref ob0), .val (.int (4 : Int32)), .val (.int ((((0 : Int32) ||| ((1 : Int32) <<< (va &&& 31))) ||| ((1 : Int32) <<< (vb &&& 31))) ||| ((1 : Int32) <<< (vc &&& 31))))] [(.int ((((0 : Int32) ||| ((1 : Int32) <<< (va &&& 31))) ||| ((1 : Int32) <<< (vb &&& 31))) ||| ((1 : Int32) <<< (vc &&& 31))))])) _
    refine XS.aloadN X7.here hx rfl (hb hby d8_56) rfl rfl ?_
    show Steps p.tables e below (T7.setTop (mkF m 57 #[.val (.ref ob0), .val (.int (4 : Int32)), .val (.int ((((0 : Int32) ||| ((1 : Int32) <<< (va &&& 31))) ||| ((1 : Int32) <<< (vb &&& 31))) ||| ((1 : Int32) <<< (vc &&& 31))))] [(.ref ob0), (.int ((((0 : Int32) ||| ((1 : Int32) <<< (va &&& 31))) ||| ((1 : Int32) <<< (vb &&& 31))) ||| ((1 : Int32) <<< (vc &&& 31))))])) _
    refine XS.iconst X7.here hx rfl (hb hby d8_57) ?_
    show Steps p.tables e below (T7.setTop (mkF m 58 #[.val (.ref ob0), .val (.int (4 : Int32)), .val (.int ((((0 : Int32) ||| ((1 : Int32) <<< (va &&& 31))) ||| ((1 : Int32) <<< (vb &&& 31))) ||| ((1 : Int32) <<< (vc &&& 31))))] [(.int (3 : Int32)), (.ref ob0), (.int ((((0 : Int32) ||| ((1 : Int32) <<< (va &&& 31))) ||| ((1 : Int32) <<< (vb &&& 31))) ||| ((1 : Int32) <<< (vc &&& 31))))])) _
    refine X7.iaload hx (j := (3 : Int32)) (v := (.int vd)) (by rw [e7]; exact aA8.1) (State.isArrayOf_alike hZ.alike aA8.2.1) aA8.2.2 (inb_of aS8 ⟨by decide, by decide⟩) (aH8.at (inb_of aS8 ⟨by decide, by decide⟩) rfl) (g := (mkF m 58 #[.val (.ref ob0), .val (.int (4 : Int32)), .val (.int ((((0 : Int32) ||| ((1 : Int32) <<< (va &&& 31))) ||| ((1 : Int32) <<< (vb &&& 31))) ||| ((1 : Int32) <<< (vc &&& 31))))] [(.int (3 : Int32)), (.ref ob0), (.int ((((0 : Int32) ||| ((1 : Int32) <<< (va &&& 31))) ||| ((1 : Int32) <<< (vb &&& 31))) ||| ((1 : Int32) <<< (vc &&& 31))))])) rfl rfl (hb hby d8_58) _ ?_
    show Steps p.tables e below (T7.setTop (mkF m 59 #[.val (.ref ob0), .val (.int (4 : Int32)), .val (.int ((((0 : Int32) ||| ((1 : Int32) <<< (va &&& 31))) ||| ((1 : Int32) <<< (vb &&& 31))) ||| ((1 : Int32) <<< (vc &&& 31))))] [(.int vd), (.int ((((0 : Int32) ||| ((1 : Int32) <<< (va &&& 31))) ||| ((1 : Int32) <<< (vb &&& 31))) ||| ((1 : Int32) <<< (vc &&& 31))))])) _
    refine st9 _ ?_
    show Steps p.tables e below (T9.setTop (mkF m 62 #[.val (.ref ob0), .val (.int (4 : Int32)), .val (.int ((((0 : Int32) ||| ((1 : Int32) <<< (va &&& 31))) ||| ((1 : Int32) <<< (vb &&& 31))) ||| ((1 : Int32) <<< (vc &&& 31))))] [(.int (((((0 : Int32) ||| ((1 : Int32) <<< (va &&& 31))) ||| ((1 : Int32) <<< (vb &&& 31))) ||| ((1 : Int32) <<< (vc &&& 31))) ||| ((1 : Int32) <<< (vd &&& 31))))])) _
    refine XS.istoreN X9.here hx rfl (hb hby d8_62) rfl (l' := #[.val (.ref ob0), .val (.int (4 : Int32)), .val (.int (((((0 : Int32) ||| ((1 : Int32) <<< (va &&& 31))) ||| ((1 : Int32) <<< (vb &&& 31))) ||| ((1 : Int32) <<< (vc &&& 31))) ||| ((1 : Int32) <<< (vd &&& 31))))]) rfl ?_
    show Steps p.tables e below (T9.setTop (mkF m 63 #[.val (.ref ob0), .val (.int (4 : Int32)), .val (.int (((((0 : Int32) ||| ((1 : Int32) <<< (va &&& 31))) ||| ((1 : Int32) <<< (vb &&& 31))) ||| ((1 : Int32) <<< (vc &&& 31))) ||| ((1 : Int32) <<< (vd &&& 31))))] [])) _
    refine XS.iloadN X9.here hx rfl (hb hby d8_63) rfl ?_
    show Steps p.tables e below (T9.setTop (mkF m 64 #[.val (.ref ob0), .val (.int (4 : Int32)), .val (.int (((((0 : Int32) ||| ((1 : Int32) <<< (va &&& 31))) ||| ((1 : Int32) <<< (vb &&& 31))) ||| ((1 : Int32) <<< (vc &&& 31))) ||| ((1 : Int32) <<< (vd &&& 31))))] [(.int (((((0 : Int32) ||| ((1 : Int32) <<< (va &&& 31))) ||| ((1 : Int32) <<< (vb &&& 31))) ||| ((1 : Int32) <<< (vc &&& 31))) ||| ((1 : Int32) <<< (vd &&& 31))))])) _
    exact Jvm.RoadKit.retI X9 hx Bd.returns (hb hby d8_64) hr
  · exact ⟨rfl, N9, e9⟩
theorem d6_0 : decode prog_59_method_13_code 0 = .ok (.aload_n 0, 1) := by decide +kernel
theorem d6_1 : decode prog_59_method_13_code 1 = .ok (.getfield 11, 3) := by decide +kernel
theorem d6_4 : decode prog_59_method_13_code 4 = .ok (.iload_n 1, 1) := by decide +kernel
theorem d6_5 : decode prog_59_method_13_code 5 = .ok (.aaload, 1) := by decide +kernel
theorem d6_6 : decode prog_59_method_13_code 6 = .ok (.iload_n 2, 1) := by decide +kernel
theorem d6_7 : decode prog_59_method_13_code 7 = .ok (.aaload, 1) := by decide +kernel
theorem d6_8 : decode prog_59_method_13_code 8 = .ok (.astore_n 3, 1) := by decide +kernel
theorem d6_9 : decode prog_59_method_13_code 9 = .ok (.aload_n 3, 1) := by decide +kernel
theorem d6_10 : decode prog_59_method_13_code 10 = .ok (.arraylength, 1) := by decide +kernel
theorem d6_11 : decode prog_59_method_13_code 11 = .ok (.istore 4, 2) := by decide +kernel
theorem d6_13 : decode prog_59_method_13_code 13 = .ok (.iconst 0, 1) := by decide +kernel
theorem d6_14 : decode prog_59_method_13_code 14 = .ok (.istore 5, 2) := by decide +kernel
set_option maxRecDepth 65536 in
set_option maxHeartbeats 40000000 in
theorem grIn {p : Program} {l : Launch} {e : Env} {s : State} {m : MethodId} {args : Array Value} {below : List Frame} {meth : Method} {c : Code} {T0 : State} {locs : List Loc} {Z : State} {a0 : Array Value} {h0 : Heap} {n0 : Nat} (ob0 : Addr) (q0 : Int32) (q1 : Int32) (R : Addr) (k_R : ClassId) (N : Nat) (fR : Nat → Value) (x : Addr) (k_x : ClassId) (K : Nat) (fx : Nat → Value) (r : Addr) (k_r : ClassId) (nr : Nat) (fr : Nat → Value)
    (X0 : Stand p l e ({ frames := 0, cells := 0, slots := 0, locals := 0 } : Room) s m args below meth c T0 locs 0 0) (hx : p.tables.exec = Jvm.exec) (hZ : Z.Warmed39 s.vm) (hw : ∀ d ∈ tables_1, d.before a0 Z = true) (hby : c.code = prog_59_method_13_code) (hml : c.maxLocals = 7) (hown : s.vm.findClass "com/example/caprice/caprice/solver/Domains" = some m.cls) (e0 : T0.heap = h0) (N0 : Fr n0 locs) (O0 : Old Z n0 h0) (PE_ob0 : Exa Z h0 ob0 "com/example/caprice/caprice/solver/Domains") (PF_ob0_reasons : Fld Z h0 ob0 "com/example/caprice/caprice/solver/Domains" "reasons" "[[[I" (.ref R)) (PA_R : Ars Z h0 R k_R (.array (.array .int)) N fR) (PA_x : Ars Z h0 x k_x (.array .int) K fx) (PA_r : Ars Z h0 r k_r .int nr fr) (hin5 : ¬ (q0 < 0 ∨ N ≤ (q0).toNatClampNeg)) (hat5 : fR (q0).toNatClampNeg = (.ref x)) (hin7 : ¬ (q1 < 0 ∨ K ≤ (q1).toNatClampNeg)) (hat7 : fx (q1).toNatClampNeg = (.ref r)) :
    ∃ (T' : State) (locs' : List Loc), Stand p l e ({ frames := 0, cells := 0, slots := 0, locals := 0 } : Room) s m args below meth c T' locs' 0 0 ∧ Fr n0 locs' ∧ T'.heap = h0 ∧ ∀ t, Steps p.tables e below (T'.setTop (mkF m 16 #[.val (.ref ob0), .val (.int q0), .val (.int q1), .val (.ref r), .val (.int (nr.toInt32)), .val (.int (0 : Int32)), .unset] [])) t → Steps p.tables e below (T0.setTop (mkF m 0 #[.val (.ref ob0), .val (.int q0), .val (.int q1), .unset, .unset, .unset, .unset] [])) t := by
  obtain ⟨T1, X1, e1, st1⟩ := getF X0 hx hZ hown (host := "") (Or.inl (hw _ (List.mem_of_getElem? (i := 16) rfl))) Via.refl e0 PF_ob0_reasons (g := (mkF m 1 #[.val (.ref ob0), .val (.int q0), .val (.int q1), .unset, .unset, .unset, .unset] [(.ref ob0)])) rfl rfl (hb hby d6_1)
  obtain ⟨ac2, aA2, aq2, aS2, aN2, aH2⟩ := id PA_R
  obtain ⟨ac3, aA3, aq3, aS3, aN3, aH3⟩ := id PA_x
  obtain ⟨ac4, aA4, aq4, aS4, aN4, aH4⟩ := id PA_r
  refine ⟨T1, _, X1, N0, e1, fun t kt => ?_⟩
  show Steps p.tables e below (T0.setTop (mkF m 0 #[.val (.ref ob0), .val (.int q0), .val (.int q1), .unset, .unset, .unset, .unset] [])) _
  refine XS.aloadN X0.here hx rfl (hb hby d6_0) rfl rfl ?_
  show Steps p.tables e below (T0.setTop (mkF m 1 #[.val (.ref ob0), .val (.int q0), .val (.int q1), .unset, .unset, .unset, .unset] [(.ref ob0)])) _
  refine st1 _ ?_
  show Steps p.tables e below (T1.setTop (mkF m 4 #[.val (.ref ob0), .val (.int q0), .val (.int q1), .unset, .unset, .unset, .unset] [(.ref R)])) _
  refine XS.iloadN X1.here hx rfl (hb hby d6_4) rfl ?_
  show Steps p.tables e below (T1.setTop (mkF m 5 #[.val (.ref ob0), .val (.int q0), .val (.int q1), .unset, .unset, .unset, .unset] [(.int q0), (.ref R)])) _
  refine X1.aaload hx (j := q0) (v := (.ref x)) (by rw [e1]; exact aA2.1) (State.isArrayOf_alike hZ.alike aA2.2.1) rfl aA2.2.2 (by rw [aS2]; exact hin5) (own_at aH2 hin5 hat5) (g := (mkF m 5 #[.val (.ref ob0), .val (.int q0), .val (.int q1), .unset, .unset, .unset, .unset] [(.int q0), (.ref R)])) rfl rfl (hb hby d6_5) _ ?_
  show Steps p.tables e below (T1.setTop (mkF m 6 #[.val (.ref ob0), .val (.int q0), .val (.int q1), .unset, .unset, .unset, .unset] [(.ref x)])) _
  refine XS.iloadN X1.here hx rfl (hb hby d6_6) rfl ?_
  show Steps p.tables e below (T1.setTop (mkF m 7 #[.val (.ref ob0), .val (.int q0), .val (.int q1), .unset, .unset, .unset, .unset] [(.int q1), (.ref x)])) _
  refine X1.aaload hx (j := q1) (v := (.ref r)) (by rw [e1]; exact aA3.1) (State.isArrayOf_alike hZ.alike aA3.2.1) rfl aA3.2.2 (by rw [aS3]; exact hin7) (own_at aH3 hin7 hat7) (g := (mkF m 7 #[.val (.ref ob0), .val (.int q0), .val (.int q1), .unset, .unset, .unset, .unset] [(.int q1), (.ref x)])) rfl rfl (hb hby d6_7) _ ?_
  show Steps p.tables e below (T1.setTop (mkF m 8 #[.val (.ref ob0), .val (.int q0), .val (.int q1), .unset, .unset, .unset, .unset] [(.ref r)])) _
  refine XS.astoreN X1.here hx rfl (hb hby d6_8) rfl rfl (l' := #[.val (.ref ob0), .val (.int q0), .val (.int q1), .val (.ref r), .unset, .unset, .unset]) rfl ?_
  show Steps p.tables e below (T1.setTop (mkF m 9 #[.val (.ref ob0), .val (.int q0), .val (.int q1), .val (.ref r), .unset, .unset, .unset] [])) _
  refine XS.aloadN X1.here hx rfl (hb hby d6_9) rfl rfl ?_
  show Steps p.tables e below (T1.setTop (mkF m 10 #[.val (.ref ob0), .val (.int q0), .val (.int q1), .val (.ref r), .unset, .unset, .unset] [(.ref r)])) _
  refine X1.arraylength hx (by rw [e1]; exact aA4.1) (State.isArrayOf_alike hZ.alike aA4.2.1) (g := (mkF m 10 #[.val (.ref ob0), .val (.int q0), .val (.int q1), .val (.ref r), .unset, .unset, .unset] [(.ref r)])) rfl rfl (hb hby d6_10) _ ?_
  rw [aS4]
  show Steps p.tables e below (T1.setTop (mkF m 11 #[.val (.ref ob0), .val (.int q0), .val (.int q1), .val (.ref r), .unset, .unset, .unset] [(.int (nr.toInt32))])) _
  refine XS.istore X1.here hx rfl (hb hby d6_11) rfl (l' := #[.val (.ref ob0), .val (.int q0), .val (.int q1), .val (.ref r), .val (.int (nr.toInt32)), .unset, .unset]) rfl ?_
  show Steps p.tables e below (T1.setTop (mkF m 13 #[.val (.ref ob0), .val (.int q0), .val (.int q1), .val (.ref r), .val (.int (nr.toInt32)), .unset, .unset] [])) _
  refine XS.iconst X1.here hx rfl (hb hby d6_13) ?_
  show Steps p.tables e below (T1.setTop (mkF m 14 #[.val (.ref ob0), .val (.int q0), .val (.int q1), .val (.ref r), .val (.int (nr.toInt32)), .unset, .unset] [(.int (0 : Int32))])) _
  refine XS.istore X1.here hx rfl (hb hby d6_14) rfl (l' := #[.val (.ref ob0), .val (.int q0), .val (.int q1), .val (.ref r), .val (.int (nr.toInt32)), .val (.int (0 : Int32)), .unset]) rfl ?_
  show Steps p.tables e below (T1.setTop (mkF m 16 #[.val (.ref ob0), .val (.int q0), .val (.int q1), .val (.ref r), .val (.int (nr.toInt32)), .val (.int (0 : Int32)), .unset] [])) _
  exact kt
theorem d6_16 : decode prog_59_method_13_code 16 = .ok (.iload 5, 2) := by decide +kernel
theorem d6_18 : decode prog_59_method_13_code 18 = .ok (.iload 4, 2) := by decide +kernel
theorem d6_20 : decode prog_59_method_13_code 20 = .ok (.if_icmp .ge 54, 3) := by decide +kernel
theorem d6_74 : decode prog_59_method_13_code 74 = .ok (.return_, 1) := by decide +kernel
set_option maxRecDepth 65536 in
set_option maxHeartbeats 40000000 in
theorem grOut {p : Program} {l : Launch} {e : Env} {s : State} {m : MethodId} {args : Array Value} {below : List Frame} {meth : Method} {c : Code} {T0 : State} {locs : List Loc} {Z : State} {a0 : Array Value} {h0 : Heap} {n0 : Nat} (ob0 : Addr) (q0 : Int32) (q1 : Int32) (r : Addr) (nl : Int32) (i : Int32) (z6 : Slot)
    (X0 : Stand p l e ({ frames := 0, cells := 0, slots := 0, locals := 0 } : Room) s m args below meth c T0 locs 0 0) (hx : p.tables.exec = Jvm.exec) (hZ : Z.Warmed39 s.vm) (hw : ∀ d ∈ tables_1, d.before a0 Z = true) (hby : c.code = prog_59_method_13_code) (hml : c.maxLocals = 7) (hown : s.vm.findClass "com/example/caprice/caprice/solver/Domains" = some m.cls) (e0 : T0.heap = h0) (N0 : Fr n0 locs) (O0 : Old Z n0 h0) (hd0 : ¬ (i < nl)) (hret : meth.sig.returnType = none) (hlk : meth.locks = false) {entry : State} (pre0 : ∀ t, Steps p.tables e below (T0.setTop (mkF m 16 #[.val (.ref ob0), .val (.int q0), .val (.int q1), .val (.ref r), .val (.int nl), .val (.int i), z6] [])) t → Steps p.tables e below entry t) :
    ∃ s₂ o, Steps p.tables e below entry s₂ ∧ s₂.status = .running ∧ Ended s₂ below o ∧ ∃ v L, o = .returned v ∧ QV none h0 n0 v s₂.heap L ∧ FrameEnd s o s₂ L ({ frames := 0, cells := 0, slots := 0, locals := 0 } : Room).cells ({ frames := 0, cells := 0, slots := 0, locals := 0 } : Room).slots := by
  obtain ⟨fs, hr, hrun, hended, hW, hsame⟩ := X0.leave (v := none) (fun _ => rfl) hlk
  refine ⟨_, _, pre0 _ ?_, hrun, hended, _, _, rfl, ?_, ⟨_, rfl⟩, hW, hsame.mono (by decide) (by decide)⟩
  · show Steps p.tables e below (T0.setTop (mkF m 16 #[.val (.ref ob0), .val (.int q0), .val (.int q1), .val (.ref r), .val (.int nl), .val (.int i), z6] [])) _
    refine XS.iload X0.here hx rfl (hb hby d6_16) rfl ?_
    show Steps p.tables e below (T0.setTop (mkF m 18 #[.val (.ref ob0), .val (.int q0), .val (.int q1), .val (.ref r), .val (.int nl), .val (.int i), z6] [(.int i)])) _
    refine XS.iload X0.here hx rfl (hb hby d6_18) rfl ?_
    show Steps p.tables e below (T0.setTop (mkF m 20 #[.val (.ref ob0), .val (.int q0), .val (.int q1), .val (.ref r), .val (.int nl), .val (.int i), z6] [(.int nl), (.int i)])) _
    refine XS.icmpYes X0.here hx rfl (pc0 := 20) (pc' := 74) rfl (hb hby d6_20) rfl (flt hd0).2.1 (by decide) (by decide) ?_
    show Steps p.tables e below (T0.setTop (mkF m 74 #[.val (.ref ob0), .val (.int q0), .val (.int q1), .val (.ref r), .val (.int nl), .val (.int i), z6] [])) _
    exact X0.returnOut hx hret (hb hby d6_74) hr
  · exact ⟨rfl, N0, e0⟩
theorem d6_23 : decode prog_59_method_13_code 23 = .ok (.aload_n 3, 1) := by decide +kernel
theorem d6_24 : decode prog_59_method_13_code 24 = .ok (.iload 5, 2) := by decide +kernel
theorem d6_26 : decode prog_59_method_13_code 26 = .ok (.iaload, 1) := by decide +kernel
theorem os6_27_357 {z0 : Value} {z1 : Value} {z2 : Value} {z3 : Value} {z4 : Value} {z5 : Value} {z6 : Slot} {v : Int32} (h_z6 : One z6) : storeLocals #[.val z0, .val z1, .val z2, .val z3, .val z4, .val z5, z6] 6 (.int v) = some #[.val z0, .val z1, .val z2, .val z3, .val z4, .val z5, .val (.int v)] := by
  rcases h_z6 with rfl | ⟨w_z6, rfl, hw_z6⟩
  · skip
    rfl
  · cases w_z6 <;> first | (simp [Value.category] at hw_z6; done) | skip
    all_goals
      rfl
theorem d6_27 : decode prog_59_method_13_code 27 = .ok (.istore 6, 2) := by decide +kernel
theorem d6_29 : decode prog_59_method_13_code 29 = .ok (.aload_n 0, 1) := by decide +kernel
theorem d6_30 : decode prog_59_method_13_code 30 = .ok (.getfield 36, 3) := by decide +kernel
theorem d6_33 : decode prog_59_method_13_code 33 = .ok (.iload 6, 2) := by decide +kernel
theorem d6_35 : decode prog_59_method_13_code 35 = .ok (.baload, 1) := by decide +kernel
theorem d6_36 : decode prog_59_method_13_code 36 = .ok (.ifCond .ne 32, 3) := by decide +kernel
theorem d6_68 : decode prog_59_method_13_code 68 = .ok (.iinc 5 1, 3) := by decide +kernel
theorem d6_71 : decode prog_59_method_13_code 71 = .ok (.goto (-55), 3) := by decide +kernel
set_option maxRecDepth 65536 in
set_option maxHeartbeats 40000000 in
theorem grSkip {p : Program} {l : Launch} {e : Env} {s : State} {m : MethodId} {args : Array Value} {below : List Frame} {meth : Method} {c : Code} {T0 : State} {locs : List Loc} {Z : State} {a0 : Array Value} {h0 : Heap} {n0 : Nat} (ob0 : Addr) (q0 : Int32) (q1 : Int32) (r : Addr) (nl : Int32) (i : Int32) (z6 : Slot) (Mk : Addr) (k_r : ClassId) (nr : Nat) (fr : Nat → Value) (k_Mk : ClassId) (nM : Nat) (fM : Nat → Value) (w : Int32) (mv : Int32)
    (X0 : Stand p l e ({ frames := 0, cells := 0, slots := 0, locals := 0 } : Room) s m args below meth c T0 locs 0 0) (hx : p.tables.exec = Jvm.exec) (hZ : Z.Warmed39 s.vm) (hw : ∀ d ∈ tables_1, d.before a0 Z = true) (hby : c.code = prog_59_method_13_code) (hml : c.maxLocals = 7) (hown : s.vm.findClass "com/example/caprice/caprice/solver/Domains" = some m.cls) (e0 : T0.heap = h0) (N0 : Fr n0 locs) (O0 : Old Z n0 h0) (PE_ob0 : Exa Z h0 ob0 "com/example/caprice/caprice/solver/Domains") (PF_ob0_marked : Fld Z h0 ob0 "com/example/caprice/caprice/solver/Domains" "marked" "[Z" (.ref Mk)) (PA_r : Ars Z h0 r k_r .int nr fr) (PA_Mk : Ars Z h0 Mk k_Mk .boolean nM fM) (hin26 : ¬ (i < 0 ∨ nr ≤ (i).toNatClampNeg)) (hat26 : fr (i).toNatClampNeg = (.int w)) (hone_z6 : One z6) (hin35 : ¬ (w < 0 ∨ nM ≤ (w).toNatClampNeg)) (hat35 : fM (w).toNatClampNeg = (.int mv)) (hd0 : i < nl) (hd1 : ¬ (mv = (0 : Int32))) :
    ∃ (T' : State) (locs' : List Loc), Stand p l e ({ frames := 0, cells := 0, slots := 0, locals := 0 } : Room) s m args below meth c T' locs' 0 0 ∧ Fr n0 locs' ∧ T'.heap = h0 ∧ ∀ t, Steps p.tables e below (T'.setTop (mkF m 16 #[.val (.ref ob0), .val (.int q0), .val (.int q1), .val (.ref r), .val (.int nl), .val (.int (i + (1 : Int32))), .val (.int w)] [])) t → Steps p.tables e below (T0.setTop (mkF m 16 #[.val (.ref ob0), .val (.int q0), .val (.int q1), .val (.ref r), .val (.int nl), .val (.int i), z6] [])) t := by
  obtain ⟨ac1, aA1, aq1, aS1, aN1, aH1⟩ := id PA_r
  obtain ⟨T2, X2, e2, st2⟩ := getF X0 hx hZ hown (host := "") (Or.inl (hw _ (List.mem_of_getElem? (i := 34) rfl))) Via.refl e0 PF_ob0_marked (g := (mkF m 30 #[.val (.ref ob0), .val (.int q0), .val (.int q1), .val (.ref r), .val (.int nl), .val (.int i), .val (.int w)] [(.ref ob0)])) rfl rfl (hb hby d6_30)
  obtain ⟨ac3, aA3, aq3, aS3, aN3, aH3⟩ := id PA_Mk
  refine ⟨T2, _, X2, N0, e2, fun t kt => ?_⟩
  show Steps p.tables e below (T0.setTop (mkF m 16 #[.val (.ref ob0), .val (.int q0), .val (.int q1), .val (.ref r), .val (.int nl), .val (.int i), z6] [])) _
  refine XS.iload X0.here hx rfl (hb hby d6_16) rfl ?_
  show Steps p.tables e below (T0.setTop (mkF m 18 #[.val (.ref ob0), .val (.int q0), .val (.int q1), .val (.ref r), .val (.int nl), .val (.int i), z6] [(.int i)])) _
  refine XS.iload X0.here hx rfl (hb hby d6_18) rfl ?_
  show Steps p.tables e below (T0.setTop (mkF m 20 #[.val (.ref ob0), .val (.int q0), .val (.int q1), .val (.ref r), .val (.int nl), .val (.int i), z6] [(.int nl), (.int i)])) _
  refine XS.icmpNo X0.here hx rfl (hb hby d6_20) rfl (tlt hd0).2.1 ?_
  show Steps p.tables e below (T0.setTop (mkF m 23 #[.val (.ref ob0), .val (.int q0), .val (.int q1), .val (.ref r), .val (.int nl), .val (.int i), z6] [])) _
  refine XS.aloadN X0.here hx rfl (hb hby d6_23) rfl rfl ?_
  show Steps p.tables e below (T0.setTop (mkF m 24 #[.val (.ref ob0), .val (.int q0), .val (.int q1), .val (.ref r), .val (.int nl), .val (.int i), z6] [(.ref r)])) _
  refine XS.iload X0.here hx rfl (hb hby d6_24) rfl ?_
  show Steps p.tables e below (T0.setTop (mkF m 26 #[.val (.ref ob0), .val (.int q0), .val (.int q1), .val (.ref r), .val (.int nl), .val (.int i), z6] [(.int i), (.ref r)])) _
  refine X0.iaload hx (j := i) (v := (.int w)) (by rw [e0]; exact aA1.1) (State.isArrayOf_alike hZ.alike aA1.2.1) aA1.2.2 (by rw [aS1]; exact hin26) (own_at aH1 hin26 hat26) (g := (mkF m 26 #[.val (.ref ob0), .val (.int q0), .val (.int q1), .val (.ref r), .val (.int nl), .val (.int i), z6] [(.int i), (.ref r)])) rfl rfl (hb hby d6_26) _ ?_
  show Steps p.tables e below (T0.setTop (mkF m 27 #[.val (.ref ob0), .val (.int q0), .val (.int q1), .val (.ref r), .val (.int nl), .val (.int i), z6] [(.int w)])) _
  refine XS.istore X0.here hx rfl (hb hby d6_27) rfl (l' := #[.val (.ref ob0), .val (.int q0), .val (.int q1), .val (.ref r), .val (.int nl), .val (.int i), .val (.int w)]) (os6_27_357 hone_z6) ?_
  show Steps p.tables e below (T0.setTop (mkF m 29 #[.val (.ref ob0), .val (.int q0), .val (.int q1), .val (.ref r), .val (.int nl), .val (.int i), .val (.int w)] [])) _
  refine XS.aloadN X0.here hx rfl (hb hby d6_29) rfl rfl ?_
  show Steps p.tables e below (T0.setTop (mkF m 30 #[.val (.ref ob0), .val (.int q0), .val (.int q1), .val (.ref r), .val (.int nl), .val (.int i), .val (.int w)] [(.ref ob0)])) _
  refine st2 _ ?_
  show Steps p.tables e below (T2.setTop (mkF m 33 #[.val (.ref ob0), .val (.int q0), .val (.int q1), .val (.ref r), .val (.int nl), .val (.int i), .val (.int w)] [(.ref Mk)])) _
  refine XS.iload X2.here hx rfl (hb hby d6_33) rfl ?_
  show Steps p.tables e below (T2.setTop (mkF m 35 #[.val (.ref ob0), .val (.int q0), .val (.int q1), .val (.ref r), .val (.int nl), .val (.int i), .val (.int w)] [(.int w), (.ref Mk)])) _
  refine X2.baloadBooleans hx (j := w) (v := (.int mv)) (by rw [e2]; exact aA3.1) (State.isArrayOf_alike hZ.alike aA3.2.1) aA3.2.2 (by rw [aS3]; exact hin35) (own_at aH3 hin35 hat35) (g := (mkF m 35 #[.val (.ref ob0), .val (.int q0), .val (.int q1), .val (.ref r), .val (.int nl), .val (.int i), .val (.int w)] [(.int w), (.ref Mk)])) rfl rfl (hb hby d6_35) _ ?_
  show Steps p.tables e below (T2.setTop (mkF m 36 #[.val (.ref ob0), .val (.int q0), .val (.int q1), .val (.ref r), .val (.int nl), .val (.int i), .val (.int w)] [(.int mv)])) _
  refine XS.ifYes X2.here hx rfl (pc0 := 36) (pc' := 68) rfl (hb hby d6_36) rfl ((if0 _ _).trans (feq hd1).2) (by decide) (by decide) ?_
  show Steps p.tables e below (T2.setTop (mkF m 68 #[.val (.ref ob0), .val (.int q0), .val (.int q1), .val (.ref r), .val (.int nl), .val (.int i), .val (.int w)] [])) _
  refine XS.iinc X2.here hx rfl (hb hby d6_68) rfl (l' := #[.val (.ref ob0), .val (.int q0), .val (.int q1), .val (.ref r), .val (.int nl), .val (.int (i + (1 : Int32))), .val (.int w)]) rfl ?_
  show Steps p.tables e below (T2.setTop (mkF m 71 #[.val (.ref ob0), .val (.int q0), .val (.int q1), .val (.ref r), .val (.int nl), .val (.int (i + (1 : Int32))), .val (.int w)] [])) _
  refine XS.goto X2.here hx rfl (pc0 := 71) (pc' := 16) rfl (hb hby d6_71) (by decide) (by decide) ?_
  show Steps p.tables e below (T2.setTop (mkF m 16 #[.val (.ref ob0), .val (.int q0), .val (.int q1), .val (.ref r), .val (.int nl), .val (.int (i + (1 : Int32))), .val (.int w)] [])) _
  exact kt
theorem os6_27_367 {z0 : Value} {z1 : Value} {z2 : Value} {z3 : Value} {z4 : Value} {z5 : Value} {z6 : Slot} {v : Int32} (h_z6 : One z6) : storeLocals #[.val z0, .val z1, .val z2, .val z3, .val z4, .val z5, z6] 6 (.int v) = some #[.val z0, .val z1, .val z2, .val z3, .val z4, .val z5, .val (.int v)] := by
  rcases h_z6 with rfl | ⟨w_z6, rfl, hw_z6⟩
  · skip
    rfl
  · cases w_z6 <;> first | (simp [Value.category] at hw_z6; done) | skip
    all_goals
      rfl
theorem d6_39 : decode prog_59_method_13_code 39 = .ok (.aload_n 0, 1) := by decide +kernel
theorem d6_40 : decode prog_59_method_13_code 40 = .ok (.getfield 36, 3) := by decide +kernel
theorem d6_43 : decode prog_59_method_13_code 43 = .ok (.iload 6, 2) := by decide +kernel
theorem d6_45 : decode prog_59_method_13_code 45 = .ok (.iconst 1, 1) := by decide +kernel
theorem d6_46 : decode prog_59_method_13_code 46 = .ok (.bastore, 1) := by decide +kernel
theorem d6_47 : decode prog_59_method_13_code 47 = .ok (.aload_n 0, 1) := by decide +kernel
theorem d6_48 : decode prog_59_method_13_code 48 = .ok (.getfield 33, 3) := by decide +kernel
theorem d6_51 : decode prog_59_method_13_code 51 = .ok (.aload_n 0, 1) := by decide +kernel
theorem d6_52 : decode prog_59_method_13_code 52 = .ok (.getfield 69, 3) := by decide +kernel
theorem d6_55 : decode prog_59_method_13_code 55 = .ok (.iload 6, 2) := by decide +kernel
theorem d6_57 : decode prog_59_method_13_code 57 = .ok (.iastore, 1) := by decide +kernel
theorem d6_58 : decode prog_59_method_13_code 58 = .ok (.aload_n 0, 1) := by decide +kernel
theorem d6_59 : decode prog_59_method_13_code 59 = .ok (.dup, 1) := by decide +kernel
theorem d6_60 : decode prog_59_method_13_code 60 = .ok (.getfield 69, 3) := by decide +kernel
theorem d6_63 : decode prog_59_method_13_code 63 = .ok (.iconst 1, 1) := by decide +kernel
theorem d6_64 : decode prog_59_method_13_code 64 = .ok (.iadd, 1) := by decide +kernel
theorem d6_65 : decode prog_59_method_13_code 65 = .ok (.putfield 69, 3) := by decide +kernel
set_option maxRecDepth 65536 in
set_option maxHeartbeats 40000000 in
theorem grAdd {p : Program} {l : Launch} {e : Env} {s : State} {m : MethodId} {args : Array Value} {below : List Frame} {meth : Method} {c : Code} {T0 : State} {locs : List Loc} {Z : State} {a0 : Array Value} {h0 : Heap} {n0 : Nat} (ob0 : Addr) (q0 : Int32) (q1 : Int32) (r : Addr) (nl : Int32) (i : Int32) (z6 : Slot) (R : Addr) (Ga : Addr) (Mk : Addr) (gc : Int32) (k_r : ClassId) (nr : Nat) (fr : Nat → Value) (k_Mk : ClassId) (nM : Nat) (fM : Nat → Value) (k_Ga : ClassId) (nG : Nat) (fG : Nat → Value) (w : Int32) (mv : Int32)
    (X0 : Stand p l e ({ frames := 0, cells := 0, slots := 0, locals := 0 } : Room) s m args below meth c T0 locs 0 0) (hx : p.tables.exec = Jvm.exec) (hZ : Z.Warmed39 s.vm) (hw : ∀ d ∈ tables_1, d.before a0 Z = true) (hby : c.code = prog_59_method_13_code) (hml : c.maxLocals = 7) (hown : s.vm.findClass "com/example/caprice/caprice/solver/Domains" = some m.cls) (e0 : T0.heap = h0) (N0 : Fr n0 locs) (O0 : Old Z n0 h0) (PE_ob0 : Exa Z h0 ob0 "com/example/caprice/caprice/solver/Domains") (PF_ob0_reasons : Fld Z h0 ob0 "com/example/caprice/caprice/solver/Domains" "reasons" "[[[I" (.ref R)) (PF_ob0_gathered : Fld Z h0 ob0 "com/example/caprice/caprice/solver/Domains" "gathered" "[I" (.ref Ga)) (PF_ob0_marked : Fld Z h0 ob0 "com/example/caprice/caprice/solver/Domains" "marked" "[Z" (.ref Mk)) (PF_ob0_gatheredCount : Fld Z h0 ob0 "com/example/caprice/caprice/solver/Domains" "gatheredCount" "I" (.int gc)) (PA_r : Ars Z h0 r k_r .int nr fr) (PA_Mk : Ars Z h0 Mk k_Mk .boolean nM fM) (PA_Ga : Ars Z h0 Ga k_Ga .int nG fG) (ne_Mk_ob0 : Mk ≠ ob0) (ne_Ga_Mk : Ga ≠ Mk) (ne_Ga_ob0 : Ga ≠ ob0) (g_Mk : n0 ≤ Mk) (g_Ga : n0 ≤ Ga) (g_ob0 : n0 ≤ ob0) (hin26 : ¬ (i < 0 ∨ nr ≤ (i).toNatClampNeg)) (hat26 : fr (i).toNatClampNeg = (.int w)) (hone_z6 : One z6) (hin35 : ¬ (w < 0 ∨ nM ≤ (w).toNatClampNeg)) (hat35 : fM (w).toNatClampNeg = (.int mv)) (hin57 : ¬ (gc < 0 ∨ nG ≤ (gc).toNatClampNeg)) (hd0 : i < nl) (hd1 : mv = (0 : Int32)) :
    ∃ (T' : State) (locs' : List Loc), Stand p l e ({ frames := 0, cells := 0, slots := 0, locals := 0 } : Room) s m args below meth c T' locs' 0 0 ∧ Fr n0 locs' ∧ Keep h0 T'.heap [Mk, Ga, ob0] ∧ Old Z n0 T'.heap ∧ Ars Z T'.heap Mk k_Mk .boolean nM (own_upd fM (w).toNatClampNeg (.int (1 : Int32))) ∧ Ars Z T'.heap Ga k_Ga .int nG (own_upd fG (gc).toNatClampNeg (.int w)) ∧ Exa Z T'.heap ob0 "com/example/caprice/caprice/solver/Domains" ∧ Fld Z T'.heap ob0 "com/example/caprice/caprice/solver/Domains" "reasons" "[[[I" (.ref R) ∧ Fld Z T'.heap ob0 "com/example/caprice/caprice/solver/Domains" "gathered" "[I" (.ref Ga) ∧ Fld Z T'.heap ob0 "com/example/caprice/caprice/solver/Domains" "marked" "[Z" (.ref Mk) ∧ Fld Z T'.heap ob0 "com/example/caprice/caprice/solver/Domains" "gatheredCount" "I" (.int (gc + (1 : Int32))) ∧ True ∧ ∀ t, Steps p.tables e below (T'.setTop (mkF m 16 #[.val (.ref ob0), .val (.int q0), .val (.int q1), .val (.ref r), .val (.int nl), .val (.int (i + (1 : Int32))), .val (.int w)] [])) t → Steps p.tables e below (T0.setTop (mkF m 16 #[.val (.ref ob0), .val (.int q0), .val (.int q1), .val (.ref r), .val (.int nl), .val (.int i), z6] [])) t := by
  obtain ⟨ac1, aA1, aq1, aS1, aN1, aH1⟩ := id PA_r
  obtain ⟨T2, X2, e2, st2⟩ := getF X0 hx hZ hown (host := "") (Or.inl (hw _ (List.mem_of_getElem? (i := 34) rfl))) Via.refl e0 PF_ob0_marked (g := (mkF m 30 #[.val (.ref ob0), .val (.int q0), .val (.int q1), .val (.ref r), .val (.int nl), .val (.int i), .val (.int w)] [(.ref ob0)])) rfl rfl (hb hby d6_30)
  obtain ⟨ac3, aA3, aq3, aS3, aN3, aH3⟩ := id PA_Mk
  obtain ⟨T4, X4, e4, st4⟩ := getF X2 hx hZ hown (host := "") (Or.inl (hw _ (List.mem_of_getElem? (i := 34) rfl))) Via.refl e2 PF_ob0_marked (g := (mkF m 40 #[.val (.ref ob0), .val (.int q0), .val (.int q1), .val (.ref r), .val (.int nl), .val (.int i), .val (.int w)] [(.ref ob0)])) rfl rfl (hb hby d6_40)
  obtain ⟨ac5, aA5, aq5, aS5, aN5, aH5⟩ := id PA_Mk
  obtain ⟨T6, h6, X6, e6, W6, st6⟩ := stZ X4 hx hZ e4 aA5 (j := w) (by rw [aS5]; exact hin35) (g := (mkF m 46 #[.val (.ref ob0), .val (.int q0), .val (.int q1), .val (.ref r), .val (.int nl), .val (.int i), .val (.int w)] [(.int (1 : Int32)), (.int w), (.ref Mk)])) rfl rfl (hb hby d6_46)
  have A_6 : Ars Z h6 Mk k_Mk .boolean nM (own_upd fM (w).toNatClampNeg (.int (1 : Int32))) := Ars.set aA5 aq5 aS5 aN5 aH5 W6
  have N6 := Fr.snoc X6 N0 g_Mk
  have O6 := O0.wr W6 g_Mk
  have KK6 : Keep h0 h6 [Mk, Ga, ob0] := (Keep.refl h0 [Mk, Ga, ob0]).wr W6 (Or.inl (List.mem_of_getElem? (i := 0) rfl))
  obtain ⟨T7, X7, e7, st7⟩ := getF X6 hx hZ hown (host := "") (Or.inl (hw _ (List.mem_of_getElem? (i := 31) rfl))) Via.refl e6 (PF_ob0_gathered.other W6 (Or.inl (Ne.symm ne_Mk_ob0))) (g := (mkF m 48 #[.val (.ref ob0), .val (.int q0), .val (.int q1), .val (.ref r), .val (.int nl), .val (.int i), .val (.int w)] [(.ref ob0)])) rfl rfl (hb hby d6_48)
  obtain ⟨T8, X8, e8, st8⟩ := getF X7 hx hZ hown (host := "") (Or.inl (hw _ (List.mem_of_getElem? (i := 55) rfl))) Via.refl e7 (PF_ob0_gatheredCount.other W6 (Or.inl (Ne.symm ne_Mk_ob0))) (g := (mkF m 52 #[.val (.ref ob0), .val (.int q0), .val (.int q1), .val (.ref r), .val (.int nl), .val (.int i), .val (.int w)] [(.ref ob0), (.ref Ga)])) rfl rfl (hb hby d6_52)
  obtain ⟨ac9, aA9, aq9, aS9, aN9, aH9⟩ := id (PA_Ga.other W6 ne_Ga_Mk)
  obtain ⟨T10, h10, X10, e10, W10, st10⟩ := stI X8 hx hZ e8 aA9 (j := gc) (by rw [aS9]; exact hin57) (g := (mkF m 57 #[.val (.ref ob0), .val (.int q0), .val (.int q1), .val (.ref r), .val (.int nl), .val (.int i), .val (.int w)] [(.int w), (.int gc), (.ref Ga)])) rfl rfl (hb hby d6_57)
  have A_10 : Ars Z h10 Ga k_Ga .int nG (own_upd fG (gc).toNatClampNeg (.int w)) := Ars.set aA9 aq9 aS9 aN9 aH9 W10
  have N10 := Fr.snoc X10 N6 g_Ga
  have O10 := O6.wr W10 g_Ga
  have KK10 : Keep h0 h10 [Mk, Ga, ob0] := KK6.wr W10 (Or.inl (List.mem_of_getElem? (i := 1) rfl))
  obtain ⟨T11, X11, e11, st11⟩ := getF X10 hx hZ hown (host := "") (Or.inl (hw _ (List.mem_of_getElem? (i := 55) rfl))) Via.refl e10 ((PF_ob0_gatheredCount.other W6 (Or.inl (Ne.symm ne_Mk_ob0))).other W10 (Or.inl (Ne.symm ne_Ga_ob0))) (g := (mkF m 60 #[.val (.ref ob0), .val (.int q0), .val (.int q1), .val (.ref r), .val (.int nl), .val (.int i), .val (.int w)] [(.ref ob0), (.ref ob0)])) rfl rfl (hb hby d6_60)
  obtain ⟨T12, h12, X12, e12, W12, st12⟩ := putF X11 hx hZ hown (host := "") (Or.inl (hw _ (List.mem_of_getElem? (i := 55) rfl))) Via.refl e11 ((PF_ob0_gatheredCount.other W6 (Or.inl (Ne.symm ne_Mk_ob0))).other W10 (Or.inl (Ne.symm ne_Ga_ob0))) ((PE_ob0.wr W6).wr W10) (Or.inl (hw _ (List.mem_of_getElem? (i := 56) rfl))) (hw _ (List.mem_of_getElem? (i := 6) rfl)) (ty := .int) (by decide) rfl rfl (g := (mkF m 65 #[.val (.ref ob0), .val (.int q0), .val (.int q1), .val (.ref r), .val (.int nl), .val (.int i), .val (.int w)] [(.int (gc + (1 : Int32))), (.ref ob0)])) rfl rfl (hb hby d6_65)
  have Fw12 := ((PF_ob0_gatheredCount.other W6 (Or.inl (Ne.symm ne_Mk_ob0))).other W10 (Or.inl (Ne.symm ne_Ga_ob0))).same W12
  have N12 := Fr.snoc X12 N10 g_ob0
  have O12 := O10.wr W12 g_ob0
  have KK12 : Keep h0 h12 [Mk, Ga, ob0] := KK10.wr W12 (Or.inl (List.mem_of_getElem? (i := 2) rfl))
  have J13 := (((PE_ob0.wr W6).wr W10).wr W12)
  have J14 := (((PF_ob0_reasons.other W6 (Or.inl (Ne.symm ne_Mk_ob0))).other W10 (Or.inl (Ne.symm ne_Ga_ob0))).other W12 (Or.inr (slot_ne (Or.inr (hw _ (List.mem_of_getElem? (i := 17) rfl))) (Or.inl (hw _ (List.mem_of_getElem? (i := 56) rfl))) (by decide) (t := (.array (.array (.array .int)))) (t' := .int) (by decide) (by decide))))
  have J15 := (((PF_ob0_gathered.other W6 (Or.inl (Ne.symm ne_Mk_ob0))).other W10 (Or.inl (Ne.symm ne_Ga_ob0))).other W12 (Or.inr (slot_ne (Or.inr (hw _ (List.mem_of_getElem? (i := 32) rfl))) (Or.inl (hw _ (List.mem_of_getElem? (i := 56) rfl))) (by decide) (t := (.array .int)) (t' := .int) (by decide) (by decide))))
  have J16 := (((PF_ob0_marked.other W6 (Or.inl (Ne.symm ne_Mk_ob0))).other W10 (Or.inl (Ne.symm ne_Ga_ob0))).other W12 (Or.inr (slot_ne (Or.inr (hw _ (List.mem_of_getElem? (i := 35) rfl))) (Or.inl (hw _ (List.mem_of_getElem? (i := 56) rfl))) (by decide) (t := (.array .boolean)) (t' := .int) (by decide) (by decide))))
  refine ⟨T12, _, X12, N12, (by rw [e12]; exact KK12), (by rw [e12]; exact O12), (by rw [e12]; exact ((A_6.other W10 (Ne.symm ne_Ga_Mk)).other W12 ne_Mk_ob0)), (by rw [e12]; exact (A_10.other W12 ne_Ga_ob0)), (by rw [e12]; exact J13), (by rw [e12]; exact J14), (by rw [e12]; exact J15), (by rw [e12]; exact J16), (by rw [e12]; exact Fw12), trivial, fun t kt => ?_⟩
  show Steps p.tables e below (T0.setTop (mkF m 16 #[.val (.ref ob0), .val (.int q0), .val (.int q1), .val (.ref r), .val (.int nl), .val (.int i), z6] [])) _
  refine XS.iload X0.here hx rfl (hb hby d6_16) rfl ?_
  show Steps p.tables e below (T0.setTop (mkF m 18 #[.val (.ref ob0), .val (.int q0), .val (.int q1), .val (.ref r), .val (.int nl), .val (.int i), z6] [(.int i)])) _
  refine XS.iload X0.here hx rfl (hb hby d6_18) rfl ?_
  show Steps p.tables e below (T0.setTop (mkF m 20 #[.val (.ref ob0), .val (.int q0), .val (.int q1), .val (.ref r), .val (.int nl), .val (.int i), z6] [(.int nl), (.int i)])) _
  refine XS.icmpNo X0.here hx rfl (hb hby d6_20) rfl (tlt hd0).2.1 ?_
  show Steps p.tables e below (T0.setTop (mkF m 23 #[.val (.ref ob0), .val (.int q0), .val (.int q1), .val (.ref r), .val (.int nl), .val (.int i), z6] [])) _
  refine XS.aloadN X0.here hx rfl (hb hby d6_23) rfl rfl ?_
  show Steps p.tables e below (T0.setTop (mkF m 24 #[.val (.ref ob0), .val (.int q0), .val (.int q1), .val (.ref r), .val (.int nl), .val (.int i), z6] [(.ref r)])) _
  refine XS.iload X0.here hx rfl (hb hby d6_24) rfl ?_
  show Steps p.tables e below (T0.setTop (mkF m 26 #[.val (.ref ob0), .val (.int q0), .val (.int q1), .val (.ref r), .val (.int nl), .val (.int i), z6] [(.int i), (.ref r)])) _
  refine X0.iaload hx (j := i) (v := (.int w)) (by rw [e0]; exact aA1.1) (State.isArrayOf_alike hZ.alike aA1.2.1) aA1.2.2 (by rw [aS1]; exact hin26) (own_at aH1 hin26 hat26) (g := (mkF m 26 #[.val (.ref ob0), .val (.int q0), .val (.int q1), .val (.ref r), .val (.int nl), .val (.int i), z6] [(.int i), (.ref r)])) rfl rfl (hb hby d6_26) _ ?_
  show Steps p.tables e below (T0.setTop (mkF m 27 #[.val (.ref ob0), .val (.int q0), .val (.int q1), .val (.ref r), .val (.int nl), .val (.int i), z6] [(.int w)])) _
  refine XS.istore X0.here hx rfl (hb hby d6_27) rfl (l' := #[.val (.ref ob0), .val (.int q0), .val (.int q1), .val (.ref r), .val (.int nl), .val (.int i), .val (.int w)]) (os6_27_367 hone_z6) ?_
  show Steps p.tables e below (T0.setTop (mkF m 29 #[.val (.ref ob0), .val (.int q0), .val (.int q1), .val (.ref r), .val (.int nl), .val (.int i), .val (.int w)] [])) _
  refine XS.aloadN X0.here hx rfl (hb hby d6_29) rfl rfl ?_
  show Steps p.tables e below (T0.setTop (mkF m 30 #[.val (.ref ob0), .val (.int q0), .val (.int q1), .val (.ref r), .val (.int nl), .val (.int i), .val (.int w)] [(.ref ob0)])) _
  refine st2 _ ?_
  show Steps p.tables e below (T2.setTop (mkF m 33 #[.val (.ref ob0), .val (.int q0), .val (.int q1), .val (.ref r), .val (.int nl), .val (.int i), .val (.int w)] [(.ref Mk)])) _
  refine XS.iload X2.here hx rfl (hb hby d6_33) rfl ?_
  show Steps p.tables e below (T2.setTop (mkF m 35 #[.val (.ref ob0), .val (.int q0), .val (.int q1), .val (.ref r), .val (.int nl), .val (.int i), .val (.int w)] [(.int w), (.ref Mk)])) _
  refine X2.baloadBooleans hx (j := w) (v := (.int mv)) (by rw [e2]; exact aA3.1) (State.isArrayOf_alike hZ.alike aA3.2.1) aA3.2.2 (by rw [aS3]; exact hin35) (own_at aH3 hin35 hat35) (g := (mkF m 35 #[.val (.ref ob0), .val (.int q0), .val (.int q1), .val (.ref r), .val (.int nl), .val (.int i), .val (.int w)] [(.int w), (.ref Mk)])) rfl rfl (hb hby d6_35) _ ?_
  show Steps p.tables e below (T2.setTop (mkF m 36 #[.val (.ref ob0), .val (.int q0), .val (.int q1), .val (.ref r), .val (.int nl), .val (.int i), .val (.int w)] [(.int mv)])) _
  refine XS.ifNo X2.here hx rfl (hb hby d6_36) rfl ((if0 _ _).trans (teq hd1).2) ?_
  show Steps p.tables e below (T2.setTop (mkF m 39 #[.val (.ref ob0), .val (.int q0), .val (.int q1), .val (.ref r), .val (.int nl), .val (.int i), .val (.int w)] [])) _
  refine XS.aloadN X2.here hx rfl (hb hby d6_39) rfl rfl ?_
  show Steps p.tables e below (T2.setTop (mkF m 40 #[.val (.ref ob0), .val (.int q0), .val (.int q1), .val (.ref r), .val (.int nl), .val (.int i), .val (.int w)] [(.ref ob0)])) _
  refine st4 _ ?_
  show Steps p.tables e below (T4.setTop (mkF m 43 #[.val (.ref ob0), .val (.int q0), .val (.int q1), .val (.ref r), .val (.int nl), .val (.int i), .val (.int w)] [(.ref Mk)])) _
  refine XS.iload X4.here hx rfl (hb hby d6_43) rfl ?_
  show Steps p.tables e below (T4.setTop (mkF m 45 #[.val (.ref ob0), .val (.int q0), .val (.int q1), .val (.ref r), .val (.int nl), .val (.int i), .val (.int w)] [(.int w), (.ref Mk)])) _
  refine XS.iconst X4.here hx rfl (hb hby d6_45) ?_
  show Steps p.tables e below (T4.setTop (mkF m 46 #[.val (.ref ob0), .val (.int q0), .val (.int q1), .val (.ref r), .val (.int nl), .val (.int i), .val (.int w)] [(.int (1 : Int32)), (.int w), (.ref Mk)])) _
  refine st6 _ ?_
  show Steps p.tables e below (T6.setTop (mkF m 47 #[.val (.ref ob0), .val (.int q0), .val (.int q1), .val (.ref r), .val (.int nl), .val (.int i), .val (.int w)] [])) _
  refine XS.aloadN X6.here hx rfl (hb hby d6_47) rfl rfl ?_
  show Steps p.tables e below (T6.setTop (mkF m 48 #[.val (.ref ob0), .val (.int q0), .val (.int q1), .val (.ref r), .val (.int nl), .val (.int i), .val (.int w)] [(.ref ob0)])) _
  refine st7 _ ?_
  show Steps p.tables e below (T7.setTop (mkF m 51 #[.val (.ref ob0), .val (.int q0), .val (.int q1), .val (.ref r), .val (.int nl), .val (.int i), .val (.int w)] [(.ref Ga)])) _
  refine XS.aloadN X7.here hx rfl (hb hby d6_51) rfl rfl ?_
  show Steps p.tables e below (T7.setTop (mkF m 52 #[.val (.ref ob0), .val (.int q0), .val (.int q1), .val (.ref r), .val (.int nl), .val (.int i), .val (.int w)] [(.ref ob0), (.ref Ga)])) _
  refine st8 _ ?_
  show Steps p.tables e below (T8.setTop (mkF m 55 #[.val (.ref ob0), .val (.int q0), .val (.int q1), .val (.ref r), .val (.int nl), .val (.int i), .val (.int w)] [(.int gc), (.ref Ga)])) _
  refine XS.iload X8.here hx rfl (hb hby d6_55) rfl ?_
  show Steps p.tables e below (T8.setTop (mkF m 57 #[.val (.ref ob0), .val (.int q0), .val (.int q1), .val (.ref r), .val (.int nl), .val (.int i), .val (.int w)] [(.int w), (.int gc), (.ref Ga)])) _
  refine st10 _ ?_
  show Steps p.tables e below (T10.setTop (mkF m 58 #[.val (.ref ob0), .val (.int q0), .val (.int q1), .val (.ref r), .val (.int nl), .val (.int i), .val (.int w)] [])) _
  refine XS.aloadN X10.here hx rfl (hb hby d6_58) rfl rfl ?_
  show Steps p.tables e below (T10.setTop (mkF m 59 #[.val (.ref ob0), .val (.int q0), .val (.int q1), .val (.ref r), .val (.int nl), .val (.int i), .val (.int w)] [(.ref ob0)])) _
  refine XS.dup X10.here hx rfl (hb hby d6_59) rfl rfl ?_
  show Steps p.tables e below (T10.setTop (mkF m 60 #[.val (.ref ob0), .val (.int q0), .val (.int q1), .val (.ref r), .val (.int nl), .val (.int i), .val (.int w)] [(.ref ob0), (.ref ob0)])) _
  refine st11 _ ?_
  show Steps p.tables e below (T11.setTop (mkF m 63 #[.val (.ref ob0), .val (.int q0), .val (.int q1), .val (.ref r), .val (.int nl), .val (.int i), .val (.int w)] [(.int gc), (.ref ob0)])) _
  refine XS.iconst X11.here hx rfl (hb hby d6_63) ?_
  show Steps p.tables e below (T11.setTop (mkF m 64 #[.val (.ref ob0), .val (.int q0), .val (.int q1), .val (.ref r), .val (.int nl), .val (.int i), .val (.int w)] [(.int (1 : Int32)), (.int gc), (.ref ob0)])) _
  refine XS.iadd X11.here hx rfl (hb hby d6_64) rfl ?_
  show Steps p.tables e below (T11.setTop (mkF m 65 #[.val (.ref ob0), .val (.int q0), .val (.int q1), .val (.ref r), .val (.int nl), .val (.int i), .val (.int w)] [(.int (gc + (1 : Int32))), (.ref ob0)])) _
  refine st12 _ ?_
  show Steps p.tables e below (T12.setTop (mkF m 68 #[.val (.ref ob0), .val (.int q0), .val (.int q1), .val (.ref r), .val (.int nl), .val (.int i), .val (.int w)] [])) _
  refine XS.iinc X12.here hx rfl (hb hby d6_68) rfl (l' := #[.val (.ref ob0), .val (.int q0), .val (.int q1), .val (.ref r), .val (.int nl), .val (.int (i + (1 : Int32))), .val (.int w)]) rfl ?_
  show Steps p.tables e below (T12.setTop (mkF m 71 #[.val (.ref ob0), .val (.int q0), .val (.int q1), .val (.ref r), .val (.int nl), .val (.int (i + (1 : Int32))), .val (.int w)] [])) _
  refine XS.goto X12.here hx rfl (pc0 := 71) (pc' := 16) rfl (hb hby d6_71) (by decide) (by decide) ?_
  show Steps p.tables e below (T12.setTop (mkF m 16 #[.val (.ref ob0), .val (.int q0), .val (.int q1), .val (.ref r), .val (.int nl), .val (.int (i + (1 : Int32))), .val (.int w)] [])) _
  exact kt
theorem d10_0 : decode jdk_65_method_123_code 0 = .ok (.iload_n 1, 1) := by decide +kernel
theorem d10_1 : decode jdk_65_method_123_code 1 = .ok (.aload_n 0, 1) := by decide +kernel
theorem d10_2 : decode jdk_65_method_123_code 2 = .ok (.arraylength, 1) := by decide +kernel
theorem d10_3 : decode jdk_65_method_123_code 3 = .ok (.if_icmp .ne 11, 3) := by decide +kernel
theorem d10_14 : decode jdk_65_method_123_code 14 = .ok (.iload_n 1, 1) := by decide +kernel
theorem d10_15 : decode jdk_65_method_123_code 15 = .ok (.newarray .int, 2) := by decide +kernel
theorem d10_17 : decode jdk_65_method_123_code 17 = .ok (.astore_n 2, 1) := by decide +kernel
theorem d10_18 : decode jdk_65_method_123_code 18 = .ok (.aload_n 0, 1) := by decide +kernel
theorem d10_19 : decode jdk_65_method_123_code 19 = .ok (.iconst 0, 1) := by decide +kernel
theorem d10_20 : decode jdk_65_method_123_code 20 = .ok (.aload_n 2, 1) := by decide +kernel
theorem d10_21 : decode jdk_65_method_123_code 21 = .ok (.iconst 0, 1) := by decide +kernel
theorem d10_22 : decode jdk_65_method_123_code 22 = .ok (.aload_n 0, 1) := by decide +kernel
theorem d10_23 : decode jdk_65_method_123_code 23 = .ok (.arraylength, 1) := by decide +kernel
theorem d10_24 : decode jdk_65_method_123_code 24 = .ok (.iload_n 1, 1) := by decide +kernel
theorem d11_0 : decode jdk_29_method_69_code 0 = .ok (.iload_n 0, 1) := by decide +kernel
theorem d11_1 : decode jdk_29_method_69_code 1 = .ok (.iload_n 1, 1) := by decide +kernel
theorem d11_2 : decode jdk_29_method_69_code 2 = .ok (.if_icmp .gt 7, 3) := by decide +kernel
theorem d11_9 : decode jdk_29_method_69_code 9 = .ok (.iload_n 1, 1) := by decide +kernel
theorem d11_10 : decode jdk_29_method_69_code 10 = .ok (.ireturn, 1) := by decide +kernel
theorem ef406 (m : MethodId) (x0 : Int32) (x1 : Int32) : entryFrame m #[(.int x0), (.int x1)] 2 = mkF m 0 #[.val (.int x0), .val (.int x1)] [] := by first | (simp [entryFrame, mkF, argsToLocals, Value.category]; done) | rfl
def Q11_23 (Z : State) (h0 : Heap) (n0 : Nat) (v : Option Value) (h : Heap) (L : List Loc) : Prop := v = some (.int (1 : Int32)) ∧ Fr n0 L ∧ h = h0
set_option maxRecDepth 65536 in
set_option maxHeartbeats 40000000 in
theorem rm11_23 (l : Launch) (Z : State) (a0 : Array Value) (hw : ∀ d ∈ tables_1, d.before a0 Z = true) (ws : List Jvm.Cond) (h0 : Heap) (n0 : Nat) (Z0 : n0 ≤ h0.size) (O0 : Old Z n0 h0) :
    MetFree l (⟨"java/lang/Math", "min", "(II)I"⟩ : MethodName) (head1 (Jvm.Cond.code (⟨"java/lang/Math", "min", "(II)I"⟩ : MethodName) jdk_29_method_69_code 2 (some .int) :: ws) ({ frames := 0, cells := 0, slots := 0, locals := 0 } : Room)) (fun a U => a = #[(.int (4 : Int32)), (.int (1 : Int32))] ∧ Z.Warmed39 U.vm ∧ U.heap = h0) (fun _ _ _ _ _ => True) (fun _ U o U' => ∃ v L, o = .returned v ∧ Q11_23 Z  h0 n0 v U'.heap L ∧ FrameEnd U o U' L ({ frames := 0, cells := 0, slots := 0, locals := 0 } : Room).cells ({ frames := 0, cells := 0, slots := 0, locals := 0 } : Room).slots) := by
  refine MetFree.of_bodySF (Jvm.Free.JP.mathPlain rfl (by decide +kernel)) hisR ?_
  intro p e s m args below meth c s₁ Bd hml0 hP hK
  obtain ⟨rfl, hZ, hh⟩ := hP
  have hx := Bd.exec
  have hby := Bd.bytes
  have hml : c.maxLocals = 2 := hml0
  have hown : s.vm.findClass "java/lang/Math" = some m.cls := findClass_of_methodNamed Bd.named
  have hnm := (name_of_methodNamed Bd.named Bd.method).1
  have X0 : Stand p l e ({ frames := 0, cells := 0, slots := 0, locals := 0 } : Room) s m #[(.int (4 : Int32)), (.int (1 : Int32))] below meth c s₁ [] 0 0 := Stand.of_body Bd
  have e0 : s₁.heap = h0 := by rw [← hh, Bd.state]; rfl
  have N0 := Fr.nil n0
  have pre0 : ∀ t, Steps p.tables e below (s₁.setTop (mkF m 0 #[.val (.int (4 : Int32)), .val (.int (1 : Int32))] [])) t → Steps p.tables e below (s₁.setTop (entryFrame m #[(.int (4 : Int32)), (.int (1 : Int32))] 2)) t := fun t k => castTop (ef406 m (4 : Int32) (1 : Int32)) k
  obtain ⟨fs, hr, hrun, hended, hW, hsame⟩ := X0.leave (v := some (.int (1 : Int32))) (fun h => by rw [Bd.returns] at h; cases h)
  refine ⟨_, _, pre0 _ ?_, hrun, hended, _, _, rfl, ?_, ⟨_, rfl⟩, hW, hsame.mono (by decide) (by decide)⟩
  · show Steps p.tables e below (s₁.setTop (mkF m 0 #[.val (.int (4 : Int32)), .val (.int (1 : Int32))] [])) _
    refine XS.iloadN X0.here hx rfl (hb hby d11_0) rfl ?_
    show Steps p.tables e below (s₁.setTop (mkF m 1 #[.val (.int (4 : Int32)), .val (.int (1 : Int32))] [(.int (4 : Int32))])) _
    refine XS.iloadN X0.here hx rfl (hb hby d11_1) rfl ?_
    show Steps p.tables e below (s₁.setTop (mkF m 2 #[.val (.int (4 : Int32)), .val (.int (1 : Int32))] [(.int (1 : Int32)), (.int (4 : Int32))])) _
    refine XS.icmpYes X0.here hx rfl (pc0 := 2) (pc' := 9) rfl (hb hby d11_2) rfl (tlt (by decide : (1 : Int32) < (4 : Int32))).2.2.1 (by decide) (by decide) ?_
    show Steps p.tables e below (s₁.setTop (mkF m 9 #[.val (.int (4 : Int32)), .val (.int (1 : Int32))] [])) _
    refine XS.iloadN X0.here hx rfl (hb hby d11_9) rfl ?_
    show Steps p.tables e below (s₁.setTop (mkF m 10 #[.val (.int (4 : Int32)), .val (.int (1 : Int32))] [(.int (1 : Int32))])) _
    exact Jvm.RoadKit.retI X0 hx Bd.returns (hb hby d11_10) hr
  · exact ⟨rfl, N0, e0⟩
theorem d10_25 : decode jdk_65_method_123_code 25 = .ok (.invokestatic 304, 3) := by decide +kernel
set_option maxRecDepth 65536 in
set_option maxHeartbeats 40000000 in
theorem cpA1 {p : Program} {l : Launch} {e : Env} {s : State} {m : MethodId} {args : Array Value} {below : List Frame} {meth : Method} {c : Code} {T0 : State} {locs : List Loc} {Z : State} {a0 : Array Value} {h0 : Heap} {n0 : Nat} (src : Addr) (k_src : ClassId) (va : Int32) (vb : Int32) (vc : Int32) (vd : Int32)
    (X0 : Stand p l e ({ frames := 1, cells := 1, slots := 4, locals := 40 } : Room) s m args below meth c T0 locs 0 0) (hx : p.tables.exec = Jvm.exec) (hZ : Z.Warmed39 s.vm) (hw : ∀ d ∈ tables_1, d.before a0 Z = true) (hby : c.code = jdk_65_method_123_code) (hml : c.maxLocals = 3) (hown : s.vm.findClass "java/util/Arrays" = some m.cls) (e0 : T0.heap = h0) (N0 : Fr n0 locs) (O0 : Old Z n0 h0) (PV_src : Arv Z h0 src k_src .int (4 : Int32) [(.int va), (.int vb), (.int vc), (.int vd)] (.int (0 : Int32))) :
    ∃ (T' : State) (locs' : List Loc) (b2 : Addr) (kk_b2 : ClassId), Stand p l e ({ frames := 1, cells := 1, slots := 4, locals := 40 } : Room) s m args below meth c T' locs' 1 1 ∧ Fr n0 locs' ∧ Keep h0 T'.heap [] ∧ Old Z n0 T'.heap ∧ h0.size ≤ b2 ∧ Arv Z T'.heap b2 kk_b2 .int (1 : Int32) [(.int (0 : Int32))] (.int (0 : Int32)) ∧ Exa Z T'.heap b2 "[I" ∧ True ∧ ∀ t, Steps p.tables e below (T'.setTop (mkF m 28 #[.val (.ref src), .val (.int (1 : Int32)), .val (.ref b2)] [(.int (1 : Int32)), (.int (0 : Int32)), (.ref b2), (.int (0 : Int32)), (.ref src)])) t → Steps p.tables e below (T0.setTop (mkF m 0 #[.val (.ref src), .val (.int (1 : Int32)), .unset] [])) t := by
  obtain ⟨ac1, aA1, aq1, aS1, aN1, aH1, aG1⟩ := id PV_src
  obtain ⟨T2, h2, k2, X2, e2, E2, A2, B2, st2⟩ := newPE X0 hx hZ (hw _ (List.mem_of_getElem? (i := 4) rfl)) e0 (g := (mkF m 15 #[.val (.ref src), .val (.int (1 : Int32)), .unset] [(.int (1 : Int32))])) rfl (hb hby d10_15) rfl (by decide) (cap := 1) (by decide) (by decide) (by decide) (by decide) (ad := "[I") (by decide)
  obtain ⟨b2, gg2⟩ : ∃ z, z = h0.size := ⟨_, rfl⟩
  rw [← gg2] at A2 B2 st2
  have bo_b2 : h0.size ≤ b2 := Nat.le_of_eq gg2.symm
  have g_b2 : n0 ≤ b2 := Nat.le_trans (own_n0 O0) bo_b2
  have sz_b2 : h0.size ≤ b2 := Nat.le_trans (Keep.refl h0 []).1 bo_b2
  have V_b2 : Arv Z h2 b2 k2 .int (1 : Int32) [(.int (0 : Int32))] (.int (0 : Int32)) := (Arv.new A2 (by decide)).pad (pad_rep [] (.int (0 : Int32)) 1)
  have lb_b2 : b2 < h2.size := A2.lt
  have KK2 : Keep h0 h2 [] := (Keep.refl h0 []).ext E2
  have O2 := O0.ext E2
  obtain ⟨ac3, aA3, aq3, aS3, aN3, aH3, aG3⟩ := id (PV_src.ext E2)
  obtain ⟨_, _, ⟨T4, L4, k4, n4⟩, -, X4, ⟨Lc4, hQ4, l4, y4, z4⟩, st4⟩ := Jvm.LawKit.callS X2 hx (y := (⟨"java/lang/Math", "min", "(II)I"⟩ : MethodName)) hown (mvT hZ (hw _ (List.mem_of_getElem? (i := 69) rfl))) (mvT hZ (hw _ (List.mem_of_getElem? (i := 70) rfl))) (mvT hZ (hw _ (List.mem_of_getElem? (i := 71) rfl))) (mvT hZ (hw _ (List.mem_of_getElem? (i := 72) rfl))) (by decide) (backOf (W := 4) (rm11_23 l Z a0 hw []  h2 n0 (own_n0 O2) O2) hZ (hw _ (List.mem_of_getElem? (i := 72) rfl)) (hw _ (List.mem_of_getElem? (i := 71) rfl)) (by decide) (by decide)) (g := (mkF m 25 #[.val (.ref src), .val (.int (1 : Int32)), .val (.ref b2)] [(.int (1 : Int32)), (.int (4 : Int32)), (.int (0 : Int32)), (.ref b2), (.int (0 : Int32)), (.ref src)])) rfl (by rw [hml]; rfl) (argsL := [(.int (4 : Int32)), (.int (1 : Int32))]) (rest := [(.int (0 : Int32)), (.ref b2), (.int (0 : Int32)), (.ref src)]) (lenOf pd298 rfl) rfl (by show 2 * 0 + _ ≤ _; exact Nat.le_of_eq rfl) (hb hby d10_25) (fun _ _ => ⟨rfl, e2, (by decide : 1 + 0 ≤ _), (by decide : 1 + 0 ≤ _)⟩)
  dsimp only [Pt.U, Pt.locs, Pt.cells, Pt.slots] at X4 l4 y4 z4 st4 hQ4
  subst l4 y4 z4
  obtain ⟨rfl, N4q, e4⟩ := hQ4
  have N4 := Fr.app N0 N4q
  refine ⟨T4, _, b2, k2, X4, N4, (by rw [e4]; exact KK2), (by rw [e4]; exact O2), sz_b2, (by rw [e4]; exact V_b2), (by rw [e4]; exact B2), trivial, fun t kt => ?_⟩
  show Steps p.tables e below (T0.setTop (mkF m 0 #[.val (.ref src), .val (.int (1 : Int32)), .unset] [])) _
  refine XS.iloadN X0.here hx rfl (hb hby d10_0) rfl ?_
  show Steps p.tables e below (T0.setTop (mkF m 1 #[.val (.ref src), .val (.int (1 : Int32)), .unset] [(.int (1 : Int32))])) _
  refine XS.aloadN X0.here hx rfl (hb hby d10_1) rfl rfl ?_
  show Steps p.tables e below (T0.setTop (mkF m 2 #[.val (.ref src), .val (.int (1 : Int32)), .unset] [(.ref src), (.int (1 : Int32))])) _
  refine X0.arraylength hx (by rw [e0]; exact aA1.1) (State.isArrayOf_alike hZ.alike aA1.2.1) (g := (mkF m 2 #[.val (.ref src), .val (.int (1 : Int32)), .unset] [(.ref src), (.int (1 : Int32))])) rfl rfl (hb hby d10_2) _ ?_
  rw [len_of aS1 aN1]
  show Steps p.tables e below (T0.setTop (mkF m 3 #[.val (.ref src), .val (.int (1 : Int32)), .unset] [(.int (4 : Int32)), (.int (1 : Int32))])) _
  refine XS.icmpYes X0.here hx rfl (pc0 := 3) (pc' := 14) rfl (hb hby d10_3) rfl (feq (by decide : ¬ ((1 : Int32) = (4 : Int32)))).2 (by decide) (by decide) ?_
  show Steps p.tables e below (T0.setTop (mkF m 14 #[.val (.ref src), .val (.int (1 : Int32)), .unset] [])) _
  refine XS.iloadN X0.here hx rfl (hb hby d10_14) rfl ?_
  show Steps p.tables e below (T0.setTop (mkF m 15 #[.val (.ref src), .val (.int (1 : Int32)), .unset] [(.int (1 : Int32))])) _
  refine st2 _ ?_
  show Steps p.tables e below (T2.setTop (mkF m 17 #[.val (.ref src), .val (.int (1 : Int32)), .unset] [(.ref b2)])) _
  refine XS.astoreN X2.here hx rfl (hb hby d10_17) rfl rfl (l' := #[.val (.ref src), .val (.int (1 : Int32)), .val (.ref b2)]) rfl ?_
  show Steps p.tables e below (T2.setTop (mkF m 18 #[.val (.ref src), .val (.int (1 : Int32)), .val (.ref b2)] [])) _
  refine XS.aloadN X2.here hx rfl (hb hby d10_18) rfl rfl ?_
  show Steps p.tables e below (T2.setTop (mkF m 19 #[.val (.ref src), .val (.int (1 : Int32)), .val (.ref b2)] [(.ref src)])) _
  refine XS.iconst X2.here hx rfl (hb hby d10_19) ?_
  show Steps p.tables e below (T2.setTop (mkF m 20 #[.val (.ref src), .val (.int (1 : Int32)), .val (.ref b2)] [(.int (0 : Int32)), (.ref src)])) _
  refine XS.aloadN X2.here hx rfl (hb hby d10_20) rfl rfl ?_
  show Steps p.tables e below (T2.setTop (mkF m 21 #[.val (.ref src), .val (.int (1 : Int32)), .val (.ref b2)] [(.ref b2), (.int (0 : Int32)), (.ref src)])) _
  refine XS.iconst X2.here hx rfl (hb hby d10_21) ?_
  show Steps p.tables e below (T2.setTop (mkF m 22 #[.val (.ref src), .val (.int (1 : Int32)), .val (.ref b2)] [(.int (0 : Int32)), (.ref b2), (.int (0 : Int32)), (.ref src)])) _
  refine XS.aloadN X2.here hx rfl (hb hby d10_22) rfl rfl ?_
  show Steps p.tables e below (T2.setTop (mkF m 23 #[.val (.ref src), .val (.int (1 : Int32)), .val (.ref b2)] [(.ref src), (.int (0 : Int32)), (.ref b2), (.int (0 : Int32)), (.ref src)])) _
  refine X2.arraylength hx (by rw [e2]; exact aA3.1) (State.isArrayOf_alike hZ.alike aA3.2.1) (g := (mkF m 23 #[.val (.ref src), .val (.int (1 : Int32)), .val (.ref b2)] [(.ref src), (.int (0 : Int32)), (.ref b2), (.int (0 : Int32)), (.ref src)])) rfl rfl (hb hby d10_23) _ ?_
  rw [len_of aS3 aN3]
  show Steps p.tables e below (T2.setTop (mkF m 24 #[.val (.ref src), .val (.int (1 : Int32)), .val (.ref b2)] [(.int (4 : Int32)), (.int (0 : Int32)), (.ref b2), (.int (0 : Int32)), (.ref src)])) _
  refine XS.iloadN X2.here hx rfl (hb hby d10_24) rfl ?_
  show Steps p.tables e below (T2.setTop (mkF m 25 #[.val (.ref src), .val (.int (1 : Int32)), .val (.ref b2)] [(.int (1 : Int32)), (.int (4 : Int32)), (.int (0 : Int32)), (.ref b2), (.int (0 : Int32)), (.ref src)])) _
  refine st4 _ ?_
  show Steps p.tables e below (T4.setTop (mkF m 28 #[.val (.ref src), .val (.int (1 : Int32)), .val (.ref b2)] [(.int (1 : Int32)), (.int (0 : Int32)), (.ref b2), (.int (0 : Int32)), (.ref src)])) _
  exact kt
def Q11_25 (Z : State) (h0 : Heap) (n0 : Nat) (v : Option Value) (h : Heap) (L : List Loc) : Prop := v = some (.int (2 : Int32)) ∧ Fr n0 L ∧ h = h0
set_option maxRecDepth 65536 in
set_option maxHeartbeats 40000000 in
theorem rm11_25 (l : Launch) (Z : State) (a0 : Array Value) (hw : ∀ d ∈ tables_1, d.before a0 Z = true) (ws : List Jvm.Cond) (h0 : Heap) (n0 : Nat) (Z0 : n0 ≤ h0.size) (O0 : Old Z n0 h0) :
    MetFree l (⟨"java/lang/Math", "min", "(II)I"⟩ : MethodName) (head1 (Jvm.Cond.code (⟨"java/lang/Math", "min", "(II)I"⟩ : MethodName) jdk_29_method_69_code 2 (some .int) :: ws) ({ frames := 0, cells := 0, slots := 0, locals := 0 } : Room)) (fun a U => a = #[(.int (4 : Int32)), (.int (2 : Int32))] ∧ Z.Warmed39 U.vm ∧ U.heap = h0) (fun _ _ _ _ _ => True) (fun _ U o U' => ∃ v L, o = .returned v ∧ Q11_25 Z  h0 n0 v U'.heap L ∧ FrameEnd U o U' L ({ frames := 0, cells := 0, slots := 0, locals := 0 } : Room).cells ({ frames := 0, cells := 0, slots := 0, locals := 0 } : Room).slots) := by
  refine MetFree.of_bodySF (Jvm.Free.JP.mathPlain rfl (by decide +kernel)) hisR ?_
  intro p e s m args below meth c s₁ Bd hml0 hP hK
  obtain ⟨rfl, hZ, hh⟩ := hP
  have hx := Bd.exec
  have hby := Bd.bytes
  have hml : c.maxLocals = 2 := hml0
  have hown : s.vm.findClass "java/lang/Math" = some m.cls := findClass_of_methodNamed Bd.named
  have hnm := (name_of_methodNamed Bd.named Bd.method).1
  have X0 : Stand p l e ({ frames := 0, cells := 0, slots := 0, locals := 0 } : Room) s m #[(.int (4 : Int32)), (.int (2 : Int32))] below meth c s₁ [] 0 0 := Stand.of_body Bd
  have e0 : s₁.heap = h0 := by rw [← hh, Bd.state]; rfl
  have N0 := Fr.nil n0
  have pre0 : ∀ t, Steps p.tables e below (s₁.setTop (mkF m 0 #[.val (.int (4 : Int32)), .val (.int (2 : Int32))] [])) t → Steps p.tables e below (s₁.setTop (entryFrame m #[(.int (4 : Int32)), (.int (2 : Int32))] 2)) t := fun t k => castTop (ef406 m (4 : Int32) (2 : Int32)) k
  obtain ⟨fs, hr, hrun, hended, hW, hsame⟩ := X0.leave (v := some (.int (2 : Int32))) (fun h => by rw [Bd.returns] at h; cases h)
  refine ⟨_, _, pre0 _ ?_, hrun, hended, _, _, rfl, ?_, ⟨_, rfl⟩, hW, hsame.mono (by decide) (by decide)⟩
  · show Steps p.tables e below (s₁.setTop (mkF m 0 #[.val (.int (4 : Int32)), .val (.int (2 : Int32))] [])) _
    refine XS.iloadN X0.here hx rfl (hb hby d11_0) rfl ?_
    show Steps p.tables e below (s₁.setTop (mkF m 1 #[.val (.int (4 : Int32)), .val (.int (2 : Int32))] [(.int (4 : Int32))])) _
    refine XS.iloadN X0.here hx rfl (hb hby d11_1) rfl ?_
    show Steps p.tables e below (s₁.setTop (mkF m 2 #[.val (.int (4 : Int32)), .val (.int (2 : Int32))] [(.int (2 : Int32)), (.int (4 : Int32))])) _
    refine XS.icmpYes X0.here hx rfl (pc0 := 2) (pc' := 9) rfl (hb hby d11_2) rfl (tlt (by decide : (2 : Int32) < (4 : Int32))).2.2.1 (by decide) (by decide) ?_
    show Steps p.tables e below (s₁.setTop (mkF m 9 #[.val (.int (4 : Int32)), .val (.int (2 : Int32))] [])) _
    refine XS.iloadN X0.here hx rfl (hb hby d11_9) rfl ?_
    show Steps p.tables e below (s₁.setTop (mkF m 10 #[.val (.int (4 : Int32)), .val (.int (2 : Int32))] [(.int (2 : Int32))])) _
    exact Jvm.RoadKit.retI X0 hx Bd.returns (hb hby d11_10) hr
  · exact ⟨rfl, N0, e0⟩
set_option maxRecDepth 65536 in
set_option maxHeartbeats 40000000 in
theorem cpA2 {p : Program} {l : Launch} {e : Env} {s : State} {m : MethodId} {args : Array Value} {below : List Frame} {meth : Method} {c : Code} {T0 : State} {locs : List Loc} {Z : State} {a0 : Array Value} {h0 : Heap} {n0 : Nat} (src : Addr) (k_src : ClassId) (va : Int32) (vb : Int32) (vc : Int32) (vd : Int32)
    (X0 : Stand p l e ({ frames := 1, cells := 1, slots := 4, locals := 40 } : Room) s m args below meth c T0 locs 0 0) (hx : p.tables.exec = Jvm.exec) (hZ : Z.Warmed39 s.vm) (hw : ∀ d ∈ tables_1, d.before a0 Z = true) (hby : c.code = jdk_65_method_123_code) (hml : c.maxLocals = 3) (hown : s.vm.findClass "java/util/Arrays" = some m.cls) (e0 : T0.heap = h0) (N0 : Fr n0 locs) (O0 : Old Z n0 h0) (PV_src : Arv Z h0 src k_src .int (4 : Int32) [(.int va), (.int vb), (.int vc), (.int vd)] (.int (0 : Int32))) :
    ∃ (T' : State) (locs' : List Loc) (b2 : Addr) (kk_b2 : ClassId), Stand p l e ({ frames := 1, cells := 1, slots := 4, locals := 40 } : Room) s m args below meth c T' locs' 1 2 ∧ Fr n0 locs' ∧ Keep h0 T'.heap [] ∧ Old Z n0 T'.heap ∧ h0.size ≤ b2 ∧ Arv Z T'.heap b2 kk_b2 .int (2 : Int32) [(.int (0 : Int32)), (.int (0 : Int32))] (.int (0 : Int32)) ∧ Exa Z T'.heap b2 "[I" ∧ True ∧ ∀ t, Steps p.tables e below (T'.setTop (mkF m 28 #[.val (.ref src), .val (.int (2 : Int32)), .val (.ref b2)] [(.int (2 : Int32)), (.int (0 : Int32)), (.ref b2), (.int (0 : Int32)), (.ref src)])) t → Steps p.tables e below (T0.setTop (mkF m 0 #[.val (.ref src), .val (.int (2 : Int32)), .unset] [])) t := by
  obtain ⟨ac1, aA1, aq1, aS1, aN1, aH1, aG1⟩ := id PV_src
  obtain ⟨T2, h2, k2, X2, e2, E2, A2, B2, st2⟩ := newPE X0 hx hZ (hw _ (List.mem_of_getElem? (i := 4) rfl)) e0 (g := (mkF m 15 #[.val (.ref src), .val (.int (2 : Int32)), .unset] [(.int (2 : Int32))])) rfl (hb hby d10_15) rfl (by decide) (cap := 2) (by decide) (by decide) (by decide) (by decide) (ad := "[I") (by decide)
  obtain ⟨b2, gg2⟩ : ∃ z, z = h0.size := ⟨_, rfl⟩
  rw [← gg2] at A2 B2 st2
  have bo_b2 : h0.size ≤ b2 := Nat.le_of_eq gg2.symm
  have g_b2 : n0 ≤ b2 := Nat.le_trans (own_n0 O0) bo_b2
  have sz_b2 : h0.size ≤ b2 := Nat.le_trans (Keep.refl h0 []).1 bo_b2
  have V_b2 : Arv Z h2 b2 k2 .int (2 : Int32) [(.int (0 : Int32)), (.int (0 : Int32))] (.int (0 : Int32)) := (Arv.new A2 (by decide)).pad (pad_rep [] (.int (0 : Int32)) 2)
  have lb_b2 : b2 < h2.size := A2.lt
  have KK2 : Keep h0 h2 [] := (Keep.refl h0 []).ext E2
  have O2 := O0.ext E2
  obtain ⟨ac3, aA3, aq3, aS3, aN3, aH3, aG3⟩ := id (PV_src.ext E2)
  obtain ⟨_, _, ⟨T4, L4, k4, n4⟩, -, X4, ⟨Lc4, hQ4, l4, y4, z4⟩, st4⟩ := Jvm.LawKit.callS X2 hx (y := (⟨"java/lang/Math", "min", "(II)I"⟩ : MethodName)) hown (mvT hZ (hw _ (List.mem_of_getElem? (i := 69) rfl))) (mvT hZ (hw _ (List.mem_of_getElem? (i := 70) rfl))) (mvT hZ (hw _ (List.mem_of_getElem? (i := 71) rfl))) (mvT hZ (hw _ (List.mem_of_getElem? (i := 72) rfl))) (by decide) (backOf (W := 4) (rm11_25 l Z a0 hw []  h2 n0 (own_n0 O2) O2) hZ (hw _ (List.mem_of_getElem? (i := 72) rfl)) (hw _ (List.mem_of_getElem? (i := 71) rfl)) (by decide) (by decide)) (g := (mkF m 25 #[.val (.ref src), .val (.int (2 : Int32)), .val (.ref b2)] [(.int (2 : Int32)), (.int (4 : Int32)), (.int (0 : Int32)), (.ref b2), (.int (0 : Int32)), (.ref src)])) rfl (by rw [hml]; rfl) (argsL := [(.int (4 : Int32)), (.int (2 : Int32))]) (rest := [(.int (0 : Int32)), (.ref b2), (.int (0 : Int32)), (.ref src)]) (lenOf pd298 rfl) rfl (by show 2 * 0 + _ ≤ _; exact Nat.le_of_eq rfl) (hb hby d10_25) (fun _ _ => ⟨rfl, e2, (by decide : 1 + 0 ≤ _), (by decide : 2 + 0 ≤ _)⟩)
  dsimp only [Pt.U, Pt.locs, Pt.cells, Pt.slots] at X4 l4 y4 z4 st4 hQ4
  subst l4 y4 z4
  obtain ⟨rfl, N4q, e4⟩ := hQ4
  have N4 := Fr.app N0 N4q
  refine ⟨T4, _, b2, k2, X4, N4, (by rw [e4]; exact KK2), (by rw [e4]; exact O2), sz_b2, (by rw [e4]; exact V_b2), (by rw [e4]; exact B2), trivial, fun t kt => ?_⟩
  show Steps p.tables e below (T0.setTop (mkF m 0 #[.val (.ref src), .val (.int (2 : Int32)), .unset] [])) _
  refine XS.iloadN X0.here hx rfl (hb hby d10_0) rfl ?_
  show Steps p.tables e below (T0.setTop (mkF m 1 #[.val (.ref src), .val (.int (2 : Int32)), .unset] [(.int (2 : Int32))])) _
  refine XS.aloadN X0.here hx rfl (hb hby d10_1) rfl rfl ?_
  show Steps p.tables e below (T0.setTop (mkF m 2 #[.val (.ref src), .val (.int (2 : Int32)), .unset] [(.ref src), (.int (2 : Int32))])) _
  refine X0.arraylength hx (by rw [e0]; exact aA1.1) (State.isArrayOf_alike hZ.alike aA1.2.1) (g := (mkF m 2 #[.val (.ref src), .val (.int (2 : Int32)), .unset] [(.ref src), (.int (2 : Int32))])) rfl rfl (hb hby d10_2) _ ?_
  rw [len_of aS1 aN1]
  show Steps p.tables e below (T0.setTop (mkF m 3 #[.val (.ref src), .val (.int (2 : Int32)), .unset] [(.int (4 : Int32)), (.int (2 : Int32))])) _
  refine XS.icmpYes X0.here hx rfl (pc0 := 3) (pc' := 14) rfl (hb hby d10_3) rfl (feq (by decide : ¬ ((2 : Int32) = (4 : Int32)))).2 (by decide) (by decide) ?_
  show Steps p.tables e below (T0.setTop (mkF m 14 #[.val (.ref src), .val (.int (2 : Int32)), .unset] [])) _
  refine XS.iloadN X0.here hx rfl (hb hby d10_14) rfl ?_
  show Steps p.tables e below (T0.setTop (mkF m 15 #[.val (.ref src), .val (.int (2 : Int32)), .unset] [(.int (2 : Int32))])) _
  refine st2 _ ?_
  show Steps p.tables e below (T2.setTop (mkF m 17 #[.val (.ref src), .val (.int (2 : Int32)), .unset] [(.ref b2)])) _
  refine XS.astoreN X2.here hx rfl (hb hby d10_17) rfl rfl (l' := #[.val (.ref src), .val (.int (2 : Int32)), .val (.ref b2)]) rfl ?_
  show Steps p.tables e below (T2.setTop (mkF m 18 #[.val (.ref src), .val (.int (2 : Int32)), .val (.ref b2)] [])) _
  refine XS.aloadN X2.here hx rfl (hb hby d10_18) rfl rfl ?_
  show Steps p.tables e below (T2.setTop (mkF m 19 #[.val (.ref src), .val (.int (2 : Int32)), .val (.ref b2)] [(.ref src)])) _
  refine XS.iconst X2.here hx rfl (hb hby d10_19) ?_
  show Steps p.tables e below (T2.setTop (mkF m 20 #[.val (.ref src), .val (.int (2 : Int32)), .val (.ref b2)] [(.int (0 : Int32)), (.ref src)])) _
  refine XS.aloadN X2.here hx rfl (hb hby d10_20) rfl rfl ?_
  show Steps p.tables e below (T2.setTop (mkF m 21 #[.val (.ref src), .val (.int (2 : Int32)), .val (.ref b2)] [(.ref b2), (.int (0 : Int32)), (.ref src)])) _
  refine XS.iconst X2.here hx rfl (hb hby d10_21) ?_
  show Steps p.tables e below (T2.setTop (mkF m 22 #[.val (.ref src), .val (.int (2 : Int32)), .val (.ref b2)] [(.int (0 : Int32)), (.ref b2), (.int (0 : Int32)), (.ref src)])) _
  refine XS.aloadN X2.here hx rfl (hb hby d10_22) rfl rfl ?_
  show Steps p.tables e below (T2.setTop (mkF m 23 #[.val (.ref src), .val (.int (2 : Int32)), .val (.ref b2)] [(.ref src), (.int (0 : Int32)), (.ref b2), (.int (0 : Int32)), (.ref src)])) _
  refine X2.arraylength hx (by rw [e2]; exact aA3.1) (State.isArrayOf_alike hZ.alike aA3.2.1) (g := (mkF m 23 #[.val (.ref src), .val (.int (2 : Int32)), .val (.ref b2)] [(.ref src), (.int (0 : Int32)), (.ref b2), (.int (0 : Int32)), (.ref src)])) rfl rfl (hb hby d10_23) _ ?_
  rw [len_of aS3 aN3]
  show Steps p.tables e below (T2.setTop (mkF m 24 #[.val (.ref src), .val (.int (2 : Int32)), .val (.ref b2)] [(.int (4 : Int32)), (.int (0 : Int32)), (.ref b2), (.int (0 : Int32)), (.ref src)])) _
  refine XS.iloadN X2.here hx rfl (hb hby d10_24) rfl ?_
  show Steps p.tables e below (T2.setTop (mkF m 25 #[.val (.ref src), .val (.int (2 : Int32)), .val (.ref b2)] [(.int (2 : Int32)), (.int (4 : Int32)), (.int (0 : Int32)), (.ref b2), (.int (0 : Int32)), (.ref src)])) _
  refine st4 _ ?_
  show Steps p.tables e below (T4.setTop (mkF m 28 #[.val (.ref src), .val (.int (2 : Int32)), .val (.ref b2)] [(.int (2 : Int32)), (.int (0 : Int32)), (.ref b2), (.int (0 : Int32)), (.ref src)])) _
  exact kt
def Q11_27 (Z : State) (h0 : Heap) (n0 : Nat) (v : Option Value) (h : Heap) (L : List Loc) : Prop := v = some (.int (3 : Int32)) ∧ Fr n0 L ∧ h = h0
set_option maxRecDepth 65536 in
set_option maxHeartbeats 40000000 in
theorem rm11_27 (l : Launch) (Z : State) (a0 : Array Value) (hw : ∀ d ∈ tables_1, d.before a0 Z = true) (ws : List Jvm.Cond) (h0 : Heap) (n0 : Nat) (Z0 : n0 ≤ h0.size) (O0 : Old Z n0 h0) :
    MetFree l (⟨"java/lang/Math", "min", "(II)I"⟩ : MethodName) (head1 (Jvm.Cond.code (⟨"java/lang/Math", "min", "(II)I"⟩ : MethodName) jdk_29_method_69_code 2 (some .int) :: ws) ({ frames := 0, cells := 0, slots := 0, locals := 0 } : Room)) (fun a U => a = #[(.int (4 : Int32)), (.int (3 : Int32))] ∧ Z.Warmed39 U.vm ∧ U.heap = h0) (fun _ _ _ _ _ => True) (fun _ U o U' => ∃ v L, o = .returned v ∧ Q11_27 Z  h0 n0 v U'.heap L ∧ FrameEnd U o U' L ({ frames := 0, cells := 0, slots := 0, locals := 0 } : Room).cells ({ frames := 0, cells := 0, slots := 0, locals := 0 } : Room).slots) := by
  refine MetFree.of_bodySF (Jvm.Free.JP.mathPlain rfl (by decide +kernel)) hisR ?_
  intro p e s m args below meth c s₁ Bd hml0 hP hK
  obtain ⟨rfl, hZ, hh⟩ := hP
  have hx := Bd.exec
  have hby := Bd.bytes
  have hml : c.maxLocals = 2 := hml0
  have hown : s.vm.findClass "java/lang/Math" = some m.cls := findClass_of_methodNamed Bd.named
  have hnm := (name_of_methodNamed Bd.named Bd.method).1
  have X0 : Stand p l e ({ frames := 0, cells := 0, slots := 0, locals := 0 } : Room) s m #[(.int (4 : Int32)), (.int (3 : Int32))] below meth c s₁ [] 0 0 := Stand.of_body Bd
  have e0 : s₁.heap = h0 := by rw [← hh, Bd.state]; rfl
  have N0 := Fr.nil n0
  have pre0 : ∀ t, Steps p.tables e below (s₁.setTop (mkF m 0 #[.val (.int (4 : Int32)), .val (.int (3 : Int32))] [])) t → Steps p.tables e below (s₁.setTop (entryFrame m #[(.int (4 : Int32)), (.int (3 : Int32))] 2)) t := fun t k => castTop (ef406 m (4 : Int32) (3 : Int32)) k
  obtain ⟨fs, hr, hrun, hended, hW, hsame⟩ := X0.leave (v := some (.int (3 : Int32))) (fun h => by rw [Bd.returns] at h; cases h)
  refine ⟨_, _, pre0 _ ?_, hrun, hended, _, _, rfl, ?_, ⟨_, rfl⟩, hW, hsame.mono (by decide) (by decide)⟩
  · show Steps p.tables e below (s₁.setTop (mkF m 0 #[.val (.int (4 : Int32)), .val (.int (3 : Int32))] [])) _
    refine XS.iloadN X0.here hx rfl (hb hby d11_0) rfl ?_
    show Steps p.tables e below (s₁.setTop (mkF m 1 #[.val (.int (4 : Int32)), .val (.int (3 : Int32))] [(.int (4 : Int32))])) _
    refine XS.iloadN X0.here hx rfl (hb hby d11_1) rfl ?_
    show Steps p.tables e below (s₁.setTop (mkF m 2 #[.val (.int (4 : Int32)), .val (.int (3 : Int32))] [(.int (3 : Int32)), (.int (4 : Int32))])) _
    refine XS.icmpYes X0.here hx rfl (pc0 := 2) (pc' := 9) rfl (hb hby d11_2) rfl (tlt (by decide : (3 : Int32) < (4 : Int32))).2.2.1 (by decide) (by decide) ?_
    show Steps p.tables e below (s₁.setTop (mkF m 9 #[.val (.int (4 : Int32)), .val (.int (3 : Int32))] [])) _
    refine XS.iloadN X0.here hx rfl (hb hby d11_9) rfl ?_
    show Steps p.tables e below (s₁.setTop (mkF m 10 #[.val (.int (4 : Int32)), .val (.int (3 : Int32))] [(.int (3 : Int32))])) _
    exact Jvm.RoadKit.retI X0 hx Bd.returns (hb hby d11_10) hr
  · exact ⟨rfl, N0, e0⟩
set_option maxRecDepth 65536 in
set_option maxHeartbeats 40000000 in
theorem cpA3 {p : Program} {l : Launch} {e : Env} {s : State} {m : MethodId} {args : Array Value} {below : List Frame} {meth : Method} {c : Code} {T0 : State} {locs : List Loc} {Z : State} {a0 : Array Value} {h0 : Heap} {n0 : Nat} (src : Addr) (k_src : ClassId) (va : Int32) (vb : Int32) (vc : Int32) (vd : Int32)
    (X0 : Stand p l e ({ frames := 1, cells := 1, slots := 4, locals := 40 } : Room) s m args below meth c T0 locs 0 0) (hx : p.tables.exec = Jvm.exec) (hZ : Z.Warmed39 s.vm) (hw : ∀ d ∈ tables_1, d.before a0 Z = true) (hby : c.code = jdk_65_method_123_code) (hml : c.maxLocals = 3) (hown : s.vm.findClass "java/util/Arrays" = some m.cls) (e0 : T0.heap = h0) (N0 : Fr n0 locs) (O0 : Old Z n0 h0) (PV_src : Arv Z h0 src k_src .int (4 : Int32) [(.int va), (.int vb), (.int vc), (.int vd)] (.int (0 : Int32))) :
    ∃ (T' : State) (locs' : List Loc) (b2 : Addr) (kk_b2 : ClassId), Stand p l e ({ frames := 1, cells := 1, slots := 4, locals := 40 } : Room) s m args below meth c T' locs' 1 3 ∧ Fr n0 locs' ∧ Keep h0 T'.heap [] ∧ Old Z n0 T'.heap ∧ h0.size ≤ b2 ∧ Arv Z T'.heap b2 kk_b2 .int (3 : Int32) [(.int (0 : Int32)), (.int (0 : Int32)), (.int (0 : Int32))] (.int (0 : Int32)) ∧ Exa Z T'.heap b2 "[I" ∧ True ∧ ∀ t, Steps p.tables e below (T'.setTop (mkF m 28 #[.val (.ref src), .val (.int (3 : Int32)), .val (.ref b2)] [(.int (3 : Int32)), (.int (0 : Int32)), (.ref b2), (.int (0 : Int32)), (.ref src)])) t → Steps p.tables e below (T0.setTop (mkF m 0 #[.val (.ref src), .val (.int (3 : Int32)), .unset] [])) t := by
  obtain ⟨ac1, aA1, aq1, aS1, aN1, aH1, aG1⟩ := id PV_src
  obtain ⟨T2, h2, k2, X2, e2, E2, A2, B2, st2⟩ := newPE X0 hx hZ (hw _ (List.mem_of_getElem? (i := 4) rfl)) e0 (g := (mkF m 15 #[.val (.ref src), .val (.int (3 : Int32)), .unset] [(.int (3 : Int32))])) rfl (hb hby d10_15) rfl (by decide) (cap := 3) (by decide) (by decide) (by decide) (by decide) (ad := "[I") (by decide)
  obtain ⟨b2, gg2⟩ : ∃ z, z = h0.size := ⟨_, rfl⟩
  rw [← gg2] at A2 B2 st2
  have bo_b2 : h0.size ≤ b2 := Nat.le_of_eq gg2.symm
  have g_b2 : n0 ≤ b2 := Nat.le_trans (own_n0 O0) bo_b2
  have sz_b2 : h0.size ≤ b2 := Nat.le_trans (Keep.refl h0 []).1 bo_b2
  have V_b2 : Arv Z h2 b2 k2 .int (3 : Int32) [(.int (0 : Int32)), (.int (0 : Int32)), (.int (0 : Int32))] (.int (0 : Int32)) := (Arv.new A2 (by decide)).pad (pad_rep [] (.int (0 : Int32)) 3)
  have lb_b2 : b2 < h2.size := A2.lt
  have KK2 : Keep h0 h2 [] := (Keep.refl h0 []).ext E2
  have O2 := O0.ext E2
  obtain ⟨ac3, aA3, aq3, aS3, aN3, aH3, aG3⟩ := id (PV_src.ext E2)
  obtain ⟨_, _, ⟨T4, L4, k4, n4⟩, -, X4, ⟨Lc4, hQ4, l4, y4, z4⟩, st4⟩ := Jvm.LawKit.callS X2 hx (y := (⟨"java/lang/Math", "min", "(II)I"⟩ : MethodName)) hown (mvT hZ (hw _ (List.mem_of_getElem? (i := 69) rfl))) (mvT hZ (hw _ (List.mem_of_getElem? (i := 70) rfl))) (mvT hZ (hw _ (List.mem_of_getElem? (i := 71) rfl))) (mvT hZ (hw _ (List.mem_of_getElem? (i := 72) rfl))) (by decide) (backOf (W := 4) (rm11_27 l Z a0 hw []  h2 n0 (own_n0 O2) O2) hZ (hw _ (List.mem_of_getElem? (i := 72) rfl)) (hw _ (List.mem_of_getElem? (i := 71) rfl)) (by decide) (by decide)) (g := (mkF m 25 #[.val (.ref src), .val (.int (3 : Int32)), .val (.ref b2)] [(.int (3 : Int32)), (.int (4 : Int32)), (.int (0 : Int32)), (.ref b2), (.int (0 : Int32)), (.ref src)])) rfl (by rw [hml]; rfl) (argsL := [(.int (4 : Int32)), (.int (3 : Int32))]) (rest := [(.int (0 : Int32)), (.ref b2), (.int (0 : Int32)), (.ref src)]) (lenOf pd298 rfl) rfl (by show 2 * 0 + _ ≤ _; exact Nat.le_of_eq rfl) (hb hby d10_25) (fun _ _ => ⟨rfl, e2, (by decide : 1 + 0 ≤ _), (by decide : 3 + 0 ≤ _)⟩)
  dsimp only [Pt.U, Pt.locs, Pt.cells, Pt.slots] at X4 l4 y4 z4 st4 hQ4
  subst l4 y4 z4
  obtain ⟨rfl, N4q, e4⟩ := hQ4
  have N4 := Fr.app N0 N4q
  refine ⟨T4, _, b2, k2, X4, N4, (by rw [e4]; exact KK2), (by rw [e4]; exact O2), sz_b2, (by rw [e4]; exact V_b2), (by rw [e4]; exact B2), trivial, fun t kt => ?_⟩
  show Steps p.tables e below (T0.setTop (mkF m 0 #[.val (.ref src), .val (.int (3 : Int32)), .unset] [])) _
  refine XS.iloadN X0.here hx rfl (hb hby d10_0) rfl ?_
  show Steps p.tables e below (T0.setTop (mkF m 1 #[.val (.ref src), .val (.int (3 : Int32)), .unset] [(.int (3 : Int32))])) _
  refine XS.aloadN X0.here hx rfl (hb hby d10_1) rfl rfl ?_
  show Steps p.tables e below (T0.setTop (mkF m 2 #[.val (.ref src), .val (.int (3 : Int32)), .unset] [(.ref src), (.int (3 : Int32))])) _
  refine X0.arraylength hx (by rw [e0]; exact aA1.1) (State.isArrayOf_alike hZ.alike aA1.2.1) (g := (mkF m 2 #[.val (.ref src), .val (.int (3 : Int32)), .unset] [(.ref src), (.int (3 : Int32))])) rfl rfl (hb hby d10_2) _ ?_
  rw [len_of aS1 aN1]
  show Steps p.tables e below (T0.setTop (mkF m 3 #[.val (.ref src), .val (.int (3 : Int32)), .unset] [(.int (4 : Int32)), (.int (3 : Int32))])) _
  refine XS.icmpYes X0.here hx rfl (pc0 := 3) (pc' := 14) rfl (hb hby d10_3) rfl (feq (by decide : ¬ ((3 : Int32) = (4 : Int32)))).2 (by decide) (by decide) ?_
  show Steps p.tables e below (T0.setTop (mkF m 14 #[.val (.ref src), .val (.int (3 : Int32)), .unset] [])) _
  refine XS.iloadN X0.here hx rfl (hb hby d10_14) rfl ?_
  show Steps p.tables e below (T0.setTop (mkF m 15 #[.val (.ref src), .val (.int (3 : Int32)), .unset] [(.int (3 : Int32))])) _
  refine st2 _ ?_
  show Steps p.tables e below (T2.setTop (mkF m 17 #[.val (.ref src), .val (.int (3 : Int32)), .unset] [(.ref b2)])) _
  refine XS.astoreN X2.here hx rfl (hb hby d10_17) rfl rfl (l' := #[.val (.ref src), .val (.int (3 : Int32)), .val (.ref b2)]) rfl ?_
  show Steps p.tables e below (T2.setTop (mkF m 18 #[.val (.ref src), .val (.int (3 : Int32)), .val (.ref b2)] [])) _
  refine XS.aloadN X2.here hx rfl (hb hby d10_18) rfl rfl ?_
  show Steps p.tables e below (T2.setTop (mkF m 19 #[.val (.ref src), .val (.int (3 : Int32)), .val (.ref b2)] [(.ref src)])) _
  refine XS.iconst X2.here hx rfl (hb hby d10_19) ?_
  show Steps p.tables e below (T2.setTop (mkF m 20 #[.val (.ref src), .val (.int (3 : Int32)), .val (.ref b2)] [(.int (0 : Int32)), (.ref src)])) _
  refine XS.aloadN X2.here hx rfl (hb hby d10_20) rfl rfl ?_
  show Steps p.tables e below (T2.setTop (mkF m 21 #[.val (.ref src), .val (.int (3 : Int32)), .val (.ref b2)] [(.ref b2), (.int (0 : Int32)), (.ref src)])) _
  refine XS.iconst X2.here hx rfl (hb hby d10_21) ?_
  show Steps p.tables e below (T2.setTop (mkF m 22 #[.val (.ref src), .val (.int (3 : Int32)), .val (.ref b2)] [(.int (0 : Int32)), (.ref b2), (.int (0 : Int32)), (.ref src)])) _
  refine XS.aloadN X2.here hx rfl (hb hby d10_22) rfl rfl ?_
  show Steps p.tables e below (T2.setTop (mkF m 23 #[.val (.ref src), .val (.int (3 : Int32)), .val (.ref b2)] [(.ref src), (.int (0 : Int32)), (.ref b2), (.int (0 : Int32)), (.ref src)])) _
  refine X2.arraylength hx (by rw [e2]; exact aA3.1) (State.isArrayOf_alike hZ.alike aA3.2.1) (g := (mkF m 23 #[.val (.ref src), .val (.int (3 : Int32)), .val (.ref b2)] [(.ref src), (.int (0 : Int32)), (.ref b2), (.int (0 : Int32)), (.ref src)])) rfl rfl (hb hby d10_23) _ ?_
  rw [len_of aS3 aN3]
  show Steps p.tables e below (T2.setTop (mkF m 24 #[.val (.ref src), .val (.int (3 : Int32)), .val (.ref b2)] [(.int (4 : Int32)), (.int (0 : Int32)), (.ref b2), (.int (0 : Int32)), (.ref src)])) _
  refine XS.iloadN X2.here hx rfl (hb hby d10_24) rfl ?_
  show Steps p.tables e below (T2.setTop (mkF m 25 #[.val (.ref src), .val (.int (3 : Int32)), .val (.ref b2)] [(.int (3 : Int32)), (.int (4 : Int32)), (.int (0 : Int32)), (.ref b2), (.int (0 : Int32)), (.ref src)])) _
  refine st4 _ ?_
  show Steps p.tables e below (T4.setTop (mkF m 28 #[.val (.ref src), .val (.int (3 : Int32)), .val (.ref b2)] [(.int (3 : Int32)), (.int (0 : Int32)), (.ref b2), (.int (0 : Int32)), (.ref src)])) _
  exact kt
theorem d10_31 : decode jdk_65_method_123_code 31 = .ok (.aload_n 2, 1) := by decide +kernel
theorem d10_32 : decode jdk_65_method_123_code 32 = .ok (.areturn, 1) := by decide +kernel
set_option maxRecDepth 65536 in
set_option maxHeartbeats 40000000 in
theorem cpB {p : Program} {l : Launch} {e : Env} {s : State} {m : MethodId} {args : Array Value} {below : List Frame} {meth : Method} {c : Code} {T0 : State} {locs : List Loc} {Z : State} {a0 : Array Value} {h0 : Heap} {n0 : Nat} (src : Addr) (kk : Int32) (dst : Addr)
    (X0 : Stand p l e ({ frames := 1, cells := 1, slots := 4, locals := 40 } : Room) s m args below meth c T0 locs 1 4) (hx : p.tables.exec = Jvm.exec) (hZ : Z.Warmed39 s.vm) (hw : ∀ d ∈ tables_1, d.before a0 Z = true) (hby : c.code = jdk_65_method_123_code) (hml : c.maxLocals = 3) (hown : s.vm.findClass "java/util/Arrays" = some m.cls) (e0 : T0.heap = h0) (N0 : Fr n0 locs) (O0 : Old Z n0 h0) (hret : meth.sig.returnType = some (.array .int)) (hlk : meth.locks = false) {entry : State} (pre0 : ∀ t, Steps p.tables e below (T0.setTop (mkF m 31 #[.val (.ref src), .val (.int kk), .val (.ref dst)] [])) t → Steps p.tables e below entry t) :
    ∃ s₂ o, Steps p.tables e below entry s₂ ∧ s₂.status = .running ∧ Ended s₂ below o ∧ ∃ v L, o = .returned v ∧ QV (some (.ref dst)) h0 n0 v s₂.heap L ∧ FrameEnd s o s₂ L ({ frames := 1, cells := 1, slots := 4, locals := 40 } : Room).cells ({ frames := 1, cells := 1, slots := 4, locals := 40 } : Room).slots := by
  obtain ⟨fs, hr, hrun, hended, hW, hsame⟩ := X0.leave (v := some (.ref dst)) (fun h => by rw [hret] at h; cases h) hlk
  refine ⟨_, _, pre0 _ ?_, hrun, hended, _, _, rfl, ?_, ⟨_, rfl⟩, hW, hsame.mono (by decide) (by decide)⟩
  · show Steps p.tables e below (T0.setTop (mkF m 31 #[.val (.ref src), .val (.int kk), .val (.ref dst)] [])) _
    refine XS.aloadN X0.here hx rfl (hb hby d10_31) rfl rfl ?_
    show Steps p.tables e below (T0.setTop (mkF m 32 #[.val (.ref src), .val (.int kk), .val (.ref dst)] [(.ref dst)])) _
    jvm_step X0.here [X0.here.top, hx, (hb hby d10_32), X0.method', hret, Value.isRef, FieldType.isReference]
    first | (intro acts; rw [hr _ acts rfl rfl rfl]) | rw [hr _ _ rfl rfl rfl]
    exact Steps.refl _
  · exact ⟨rfl, N0, e0⟩
theorem d10_6 : decode jdk_65_method_123_code 6 = .ok (.aload_n 0, 1) := by decide +kernel
set_option maxRecDepth 65536 in
set_option maxHeartbeats 40000000 in
theorem cpC {p : Program} {l : Launch} {e : Env} {s : State} {m : MethodId} {args : Array Value} {below : List Frame} {meth : Method} {c : Code} {T0 : State} {locs : List Loc} {Z : State} {a0 : Array Value} {h0 : Heap} {n0 : Nat} (src : Addr) (k_src : ClassId) (va : Int32) (vb : Int32) (vc : Int32) (vd : Int32)
    (X0 : Stand p l e ({ frames := 1, cells := 1, slots := 4, locals := 40 } : Room) s m args below meth c T0 locs 0 0) (hx : p.tables.exec = Jvm.exec) (hZ : Z.Warmed39 s.vm) (hw : ∀ d ∈ tables_1, d.before a0 Z = true) (hby : c.code = jdk_65_method_123_code) (hml : c.maxLocals = 3) (hown : s.vm.findClass "java/util/Arrays" = some m.cls) (e0 : T0.heap = h0) (N0 : Fr n0 locs) (O0 : Old Z n0 h0) (PV_src : Arv Z h0 src k_src .int (4 : Int32) [(.int va), (.int vb), (.int vc), (.int vd)] (.int (0 : Int32))) :
    ∃ (T' : State) (locs' : List Loc), Stand p l e ({ frames := 1, cells := 1, slots := 4, locals := 40 } : Room) s m args below meth c T' locs' 0 0 ∧ Fr n0 locs' ∧ T'.heap = h0 ∧ ∀ t, Steps p.tables e below (T'.setTop (mkF m 7 #[.val (.ref src), .val (.int (4 : Int32)), .unset] [(.ref src)])) t → Steps p.tables e below (T0.setTop (mkF m 0 #[.val (.ref src), .val (.int (4 : Int32)), .unset] [])) t := by
  obtain ⟨ac1, aA1, aq1, aS1, aN1, aH1, aG1⟩ := id PV_src
  refine ⟨T0, _, X0, N0, e0, fun t kt => ?_⟩
  show Steps p.tables e below (T0.setTop (mkF m 0 #[.val (.ref src), .val (.int (4 : Int32)), .unset] [])) _
  refine XS.iloadN X0.here hx rfl (hb hby d10_0) rfl ?_
  show Steps p.tables e below (T0.setTop (mkF m 1 #[.val (.ref src), .val (.int (4 : Int32)), .unset] [(.int (4 : Int32))])) _
  refine XS.aloadN X0.here hx rfl (hb hby d10_1) rfl rfl ?_
  show Steps p.tables e below (T0.setTop (mkF m 2 #[.val (.ref src), .val (.int (4 : Int32)), .unset] [(.ref src), (.int (4 : Int32))])) _
  refine X0.arraylength hx (by rw [e0]; exact aA1.1) (State.isArrayOf_alike hZ.alike aA1.2.1) (g := (mkF m 2 #[.val (.ref src), .val (.int (4 : Int32)), .unset] [(.ref src), (.int (4 : Int32))])) rfl rfl (hb hby d10_2) _ ?_
  rw [len_of aS1 aN1]
  show Steps p.tables e below (T0.setTop (mkF m 3 #[.val (.ref src), .val (.int (4 : Int32)), .unset] [(.int (4 : Int32)), (.int (4 : Int32))])) _
  refine XS.icmpNo X0.here hx rfl (hb hby d10_3) rfl (teq (by decide : (4 : Int32) = (4 : Int32))).2 ?_
  show Steps p.tables e below (T0.setTop (mkF m 6 #[.val (.ref src), .val (.int (4 : Int32)), .unset] [])) _
  refine XS.aloadN X0.here hx rfl (hb hby d10_6) rfl rfl ?_
  show Steps p.tables e below (T0.setTop (mkF m 7 #[.val (.ref src), .val (.int (4 : Int32)), .unset] [(.ref src)])) _
  exact kt
theorem d10_10 : decode jdk_65_method_123_code 10 = .ok (.checkcast 317, 3) := by decide +kernel
theorem d10_13 : decode jdk_65_method_123_code 13 = .ok (.areturn, 1) := by decide +kernel
set_option maxRecDepth 65536 in
set_option maxHeartbeats 40000000 in
theorem cpD {p : Program} {l : Launch} {e : Env} {s : State} {m : MethodId} {args : Array Value} {below : List Frame} {meth : Method} {c : Code} {T0 : State} {locs : List Loc} {Z : State} {a0 : Array Value} {h0 : Heap} {n0 : Nat} (src : Addr) (kk : Int32) (dst : Addr)
    (X0 : Stand p l e ({ frames := 1, cells := 1, slots := 4, locals := 40 } : Room) s m args below meth c T0 locs 1 4) (hx : p.tables.exec = Jvm.exec) (hZ : Z.Warmed39 s.vm) (hw : ∀ d ∈ tables_1, d.before a0 Z = true) (hby : c.code = jdk_65_method_123_code) (hml : c.maxLocals = 3) (hown : s.vm.findClass "java/util/Arrays" = some m.cls) (e0 : T0.heap = h0) (N0 : Fr n0 locs) (O0 : Old Z n0 h0) (PE_dst : Exa Z h0 dst "[I") (hret : meth.sig.returnType = some (.array .int)) (hlk : meth.locks = false) {entry : State} (pre0 : ∀ t, Steps p.tables e below (T0.setTop (mkF m 10 #[.val (.ref src), .val (.int kk), .unset] [(.ref dst)])) t → Steps p.tables e below entry t) :
    ∃ s₂ o, Steps p.tables e below entry s₂ ∧ s₂.status = .running ∧ Ended s₂ below o ∧ ∃ v L, o = .returned v ∧ QV (some (.ref dst)) h0 n0 v s₂.heap L ∧ FrameEnd s o s₂ L ({ frames := 1, cells := 1, slots := 4, locals := 40 } : Room).cells ({ frames := 1, cells := 1, slots := 4, locals := 40 } : Room).slots := by
  obtain ⟨T1, X1, e1, st1⟩ := castY X0 hx hZ hown (hw _ (List.mem_of_getElem? (i := 87) rfl)) e0 (Ins.self PE_dst) (g := (mkF m 10 #[.val (.ref src), .val (.int kk), .unset] [(.ref dst)])) rfl rfl (hb hby d10_10)
  obtain ⟨fs, hr, hrun, hended, hW, hsame⟩ := X1.leave (v := some (.ref dst)) (fun h => by rw [hret] at h; cases h) hlk
  refine ⟨_, _, pre0 _ ?_, hrun, hended, _, _, rfl, ?_, ⟨_, rfl⟩, hW, hsame.mono (by decide) (by decide)⟩
  · show Steps p.tables e below (T0.setTop (mkF m 10 #[.val (.ref src), .val (.int kk), .unset] [(.ref dst)])) _
    refine st1 _ ?_
    show Steps p.tables e below (T1.setTop (mkF m 13 #[.val (.ref src), .val (.int kk), .unset] [(.ref dst)])) _
    jvm_step X1.here [X1.here.top, hx, (hb hby d10_13), X1.method', hret, Value.isRef, FieldType.isReference]
    first | (intro acts; rw [hr _ acts rfl rfl rfl]) | rw [hr _ _ rfl rfl rfl]
    exact Steps.refl _
  · exact ⟨rfl, N0, e1⟩
theorem d7_0 : decode prog_59_method_14_code 0 = .ok (.aload_n 0, 1) := by decide +kernel
theorem d7_1 : decode prog_59_method_14_code 1 = .ok (.getfield 69, 3) := by decide +kernel
theorem d7_4 : decode prog_59_method_14_code 4 = .ok (.ifCond .ne 9, 3) := by decide +kernel
theorem d7_13 : decode prog_59_method_14_code 13 = .ok (.aload_n 0, 1) := by decide +kernel
theorem d7_14 : decode prog_59_method_14_code 14 = .ok (.getfield 33, 3) := by decide +kernel
theorem d7_17 : decode prog_59_method_14_code 17 = .ok (.aload_n 0, 1) := by decide +kernel
theorem d7_18 : decode prog_59_method_14_code 18 = .ok (.getfield 69, 3) := by decide +kernel
set_option maxRecDepth 65536 in
set_option maxHeartbeats 40000000 in
theorem tkA {p : Program} {l : Launch} {e : Env} {s : State} {m : MethodId} {args : Array Value} {below : List Frame} {meth : Method} {c : Code} {T0 : State} {locs : List Loc} {Z : State} {a0 : Array Value} {h0 : Heap} {n0 : Nat} (ob0 : Addr) (Ga : Addr) (gc : Int32)
    (X0 : Stand p l e ({ frames := 2, cells := 1, slots := 4, locals := 60 } : Room) s m args below meth c T0 locs 0 0) (hx : p.tables.exec = Jvm.exec) (hZ : Z.Warmed39 s.vm) (hw : ∀ d ∈ tables_1, d.before a0 Z = true) (hby : c.code = prog_59_method_14_code) (hml : c.maxLocals = 6) (hown : s.vm.findClass "com/example/caprice/caprice/solver/Domains" = some m.cls) (e0 : T0.heap = h0) (N0 : Fr n0 locs) (O0 : Old Z n0 h0) (PE_ob0 : Exa Z h0 ob0 "com/example/caprice/caprice/solver/Domains") (PF_ob0_gathered : Fld Z h0 ob0 "com/example/caprice/caprice/solver/Domains" "gathered" "[I" (.ref Ga)) (PF_ob0_gatheredCount : Fld Z h0 ob0 "com/example/caprice/caprice/solver/Domains" "gatheredCount" "I" (.int gc)) (hd0 : ¬ (gc = (0 : Int32))) :
    ∃ (T' : State) (locs' : List Loc), Stand p l e ({ frames := 2, cells := 1, slots := 4, locals := 60 } : Room) s m args below meth c T' locs' 0 0 ∧ Fr n0 locs' ∧ T'.heap = h0 ∧ ∀ t, Steps p.tables e below (T'.setTop (mkF m 21 #[.val (.ref ob0), .unset, .unset, .unset, .unset, .unset] [(.int gc), (.ref Ga)])) t → Steps p.tables e below (T0.setTop (mkF m 0 #[.val (.ref ob0), .unset, .unset, .unset, .unset, .unset] [])) t := by
  obtain ⟨T1, X1, e1, st1⟩ := getF X0 hx hZ hown (host := "") (Or.inl (hw _ (List.mem_of_getElem? (i := 55) rfl))) Via.refl e0 PF_ob0_gatheredCount (g := (mkF m 1 #[.val (.ref ob0), .unset, .unset, .unset, .unset, .unset] [(.ref ob0)])) rfl rfl (hb hby d7_1)
  obtain ⟨T2, X2, e2, st2⟩ := getF X1 hx hZ hown (host := "") (Or.inl (hw _ (List.mem_of_getElem? (i := 31) rfl))) Via.refl e1 PF_ob0_gathered (g := (mkF m 14 #[.val (.ref ob0), .unset, .unset, .unset, .unset, .unset] [(.ref ob0)])) rfl rfl (hb hby d7_14)
  obtain ⟨T3, X3, e3, st3⟩ := getF X2 hx hZ hown (host := "") (Or.inl (hw _ (List.mem_of_getElem? (i := 55) rfl))) Via.refl e2 PF_ob0_gatheredCount (g := (mkF m 18 #[.val (.ref ob0), .unset, .unset, .unset, .unset, .unset] [(.ref ob0), (.ref Ga)])) rfl rfl (hb hby d7_18)
  refine ⟨T3, _, X3, N0, e3, fun t kt => ?_⟩
  show Steps p.tables e below (T0.setTop (mkF m 0 #[.val (.ref ob0), .unset, .unset, .unset, .unset, .unset] [])) _
  refine XS.aloadN X0.here hx rfl (hb hby d7_0) rfl rfl ?_
  show Steps p.tables e below (T0.setTop (mkF m 1 #[.val (.ref ob0), .unset, .unset, .unset, .unset, .unset] [(.ref ob0)])) _
  refine st1 _ ?_
  show Steps p.tables e below (T1.setTop (mkF m 4 #[.val (.ref ob0), .unset, .unset, .unset, .unset, .unset] [(.int gc)])) _
  refine XS.ifYes X1.here hx rfl (pc0 := 4) (pc' := 13) rfl (hb hby d7_4) rfl ((if0 _ _).trans (feq hd0).2) (by decide) (by decide) ?_
  show Steps p.tables e below (T1.setTop (mkF m 13 #[.val (.ref ob0), .unset, .unset, .unset, .unset, .unset] [])) _
  refine XS.aloadN X1.here hx rfl (hb hby d7_13) rfl rfl ?_
  show Steps p.tables e below (T1.setTop (mkF m 14 #[.val (.ref ob0), .unset, .unset, .unset, .unset, .unset] [(.ref ob0)])) _
  refine st2 _ ?_
  show Steps p.tables e below (T2.setTop (mkF m 17 #[.val (.ref ob0), .unset, .unset, .unset, .unset, .unset] [(.ref Ga)])) _
  refine XS.aloadN X2.here hx rfl (hb hby d7_17) rfl rfl ?_
  show Steps p.tables e below (T2.setTop (mkF m 18 #[.val (.ref ob0), .unset, .unset, .unset, .unset, .unset] [(.ref ob0), (.ref Ga)])) _
  refine st3 _ ?_
  show Steps p.tables e below (T3.setTop (mkF m 21 #[.val (.ref ob0), .unset, .unset, .unset, .unset, .unset] [(.int gc), (.ref Ga)])) _
  exact kt
theorem d7_21 : decode prog_59_method_14_code 21 = .ok (.invokestatic 75, 3) := by decide +kernel
theorem pd430 : parseMethodDescriptor "([II)[I" = some ⟨[(.array .int), .int], some (.array .int)⟩ := by decide +kernel
set_option maxRecDepth 65536 in
set_option maxHeartbeats 4000000 in
theorem cCp {p : Program} {l : Launch} {e : Env} {s : State} {m : MethodId} {args : Array Value} {below : List Frame} {meth : Method} {c : Code} {T0 : State} {locs : List Loc} {cells slots : Nat} {Z : State} {a0 : Array Value} {h0 : Heap} {Ls : Array Slot} (x0 : Addr) (x1 : Int32)
    (X0 : Stand p l e ({ frames := 2, cells := 1, slots := 4, locals := 60 } : Room) s m args below meth c T0 locs cells slots) (hx : p.tables.exec = Jvm.exec) (hZ : Z.Warmed39 s.vm) (hw : ∀ d ∈ tables_1, d.before a0 Z = true) (hby : c.code = prog_59_method_14_code) (hml : c.maxLocals = 6) (hown : s.vm.findClass "com/example/caprice/caprice/solver/Domains" = some m.cls) (e0 : T0.heap = h0) (hsz : Ls.size = 6) {rm : Room} {Q : Option Value → Heap → List Loc → Prop}
    (M : MetFree l (⟨"java/util/Arrays", "copyOf", "([II)[I"⟩ : MethodName) (head1 [Jvm.Cond.code (⟨"java/util/Arrays", "copyOf", "([II)[I"⟩ : MethodName) jdk_65_method_123_code 3 (some (.array .int))] rm) (fun a U => a = #[(.ref x0), (.int x1)] ∧ Z.Warmed39 U.vm ∧ U.heap = h0) (fun _ _ _ _ _ => True) (fun _ U o U' => ∃ v L, o = .returned v ∧ Q v U'.heap L ∧ FrameEnd U o U' L rm.cells rm.slots)) (hfr : rm.frames + 1 ≤ ({ frames := 2, cells := 1, slots := 4, locals := 60 } : Room).frames) (hlo : 0 + (3 + 11) + rm.locals ≤ ({ frames := 2, cells := 1, slots := 4, locals := 60 } : Room).locals) (hce : cells + rm.cells ≤ ({ frames := 2, cells := 1, slots := 4, locals := 60 } : Room).cells) (hsl : slots + rm.slots ≤ ({ frames := 2, cells := 1, slots := 4, locals := 60 } : Room).slots) :
    ∃ (T' : State) (v : Option Value) (L : List Loc), Stand p l e ({ frames := 2, cells := 1, slots := 4, locals := 60 } : Room) s m args below meth c T' (locs ++ L) (cells + rm.cells) (slots + rm.slots) ∧ Q v T'.heap L ∧ ∀ t, Steps p.tables e below (T'.setTop (mkF m 24 Ls (v.toList ++ []))) t → Steps p.tables e below (T0.setTop (mkF m 21 Ls [(.int x1), (.ref x0)])) t := by
  obtain ⟨v, _, ⟨T1, L1, k1, n1⟩, -, X1, ⟨Lc, hQ, l1, y1, z1⟩, st⟩ := Jvm.LawKit.callS X0 hx (y := (⟨"java/util/Arrays", "copyOf", "([II)[I"⟩ : MethodName)) hown (mvT hZ (hw _ (List.mem_of_getElem? (i := 65) rfl))) (mvT hZ (hw _ (List.mem_of_getElem? (i := 66) rfl))) (mvT hZ (hw _ (List.mem_of_getElem? (i := 67) rfl))) (mvT hZ (hw _ (List.mem_of_getElem? (i := 68) rfl))) (by decide) (backOf (W := 0) M hZ (hw _ (List.mem_of_getElem? (i := 68) rfl)) (hw _ (List.mem_of_getElem? (i := 67) rfl)) hfr hlo) (g := (mkF m 21 Ls [(.int x1), (.ref x0)])) rfl (by rw [hml]; exact hsz) (argsL := [(.ref x0), (.int x1)]) (rest := []) (lenOf pd430 rfl) rfl (by show 2 * 0 + _ ≤ _; exact Nat.le_of_eq rfl) (hb hby d7_21) (fun _ _ => ⟨rfl, e0, hce, hsl⟩)
  dsimp only [Pt.U, Pt.locs, Pt.cells, Pt.slots] at X1 l1 y1 z1 st hQ
  subst l1 y1 z1
  exact ⟨T1, v, Lc, X1, hQ, fun t kt => st t kt⟩
theorem d7_24 : decode prog_59_method_14_code 24 = .ok (.astore_n 1, 1) := by decide +kernel
theorem d7_25 : decode prog_59_method_14_code 25 = .ok (.aload_n 1, 1) := by decide +kernel
theorem d7_26 : decode prog_59_method_14_code 26 = .ok (.astore_n 2, 1) := by decide +kernel
theorem d7_27 : decode prog_59_method_14_code 27 = .ok (.aload_n 2, 1) := by decide +kernel
theorem d7_28 : decode prog_59_method_14_code 28 = .ok (.arraylength, 1) := by decide +kernel
theorem d7_29 : decode prog_59_method_14_code 29 = .ok (.istore_n 3, 1) := by decide +kernel
theorem d7_30 : decode prog_59_method_14_code 30 = .ok (.iconst 0, 1) := by decide +kernel
theorem d7_31 : decode prog_59_method_14_code 31 = .ok (.istore 4, 2) := by decide +kernel
set_option maxRecDepth 65536 in
set_option maxHeartbeats 40000000 in
theorem tkB {p : Program} {l : Launch} {e : Env} {s : State} {m : MethodId} {args : Array Value} {below : List Frame} {meth : Method} {c : Code} {T0 : State} {locs : List Loc} {Z : State} {a0 : Array Value} {h0 : Heap} {n0 : Nat} (ob0 : Addr) (u : Addr) (k_u : ClassId) (nu : Nat) (fu : Nat → Value)
    (X0 : Stand p l e ({ frames := 2, cells := 1, slots := 4, locals := 60 } : Room) s m args below meth c T0 locs 1 4) (hx : p.tables.exec = Jvm.exec) (hZ : Z.Warmed39 s.vm) (hw : ∀ d ∈ tables_1, d.before a0 Z = true) (hby : c.code = prog_59_method_14_code) (hml : c.maxLocals = 6) (hown : s.vm.findClass "com/example/caprice/caprice/solver/Domains" = some m.cls) (e0 : T0.heap = h0) (N0 : Fr n0 locs) (O0 : Old Z n0 h0) (PA_u : Ars Z h0 u k_u .int nu fu) :
    ∃ (T' : State) (locs' : List Loc), Stand p l e ({ frames := 2, cells := 1, slots := 4, locals := 60 } : Room) s m args below meth c T' locs' 1 4 ∧ Fr n0 locs' ∧ T'.heap = h0 ∧ ∀ t, Steps p.tables e below (T'.setTop (mkF m 33 #[.val (.ref ob0), .val (.ref u), .val (.ref u), .val (.int (nu.toInt32)), .val (.int (0 : Int32)), .unset] [])) t → Steps p.tables e below (T0.setTop (mkF m 24 #[.val (.ref ob0), .unset, .unset, .unset, .unset, .unset] [(.ref u)])) t := by
  obtain ⟨ac1, aA1, aq1, aS1, aN1, aH1⟩ := id PA_u
  refine ⟨T0, _, X0, N0, e0, fun t kt => ?_⟩
  show Steps p.tables e below (T0.setTop (mkF m 24 #[.val (.ref ob0), .unset, .unset, .unset, .unset, .unset] [(.ref u)])) _
  refine XS.astoreN X0.here hx rfl (hb hby d7_24) rfl rfl (l' := #[.val (.ref ob0), .val (.ref u), .unset, .unset, .unset, .unset]) rfl ?_
  show Steps p.tables e below (T0.setTop (mkF m 25 #[.val (.ref ob0), .val (.ref u), .unset, .unset, .unset, .unset] [])) _
  refine XS.aloadN X0.here hx rfl (hb hby d7_25) rfl rfl ?_
  show Steps p.tables e below (T0.setTop (mkF m 26 #[.val (.ref ob0), .val (.ref u), .unset, .unset, .unset, .unset] [(.ref u)])) _
  refine XS.astoreN X0.here hx rfl (hb hby d7_26) rfl rfl (l' := #[.val (.ref ob0), .val (.ref u), .val (.ref u), .unset, .unset, .unset]) rfl ?_
  show Steps p.tables e below (T0.setTop (mkF m 27 #[.val (.ref ob0), .val (.ref u), .val (.ref u), .unset, .unset, .unset] [])) _
  refine XS.aloadN X0.here hx rfl (hb hby d7_27) rfl rfl ?_
  show Steps p.tables e below (T0.setTop (mkF m 28 #[.val (.ref ob0), .val (.ref u), .val (.ref u), .unset, .unset, .unset] [(.ref u)])) _
  refine X0.arraylength hx (by rw [e0]; exact aA1.1) (State.isArrayOf_alike hZ.alike aA1.2.1) (g := (mkF m 28 #[.val (.ref ob0), .val (.ref u), .val (.ref u), .unset, .unset, .unset] [(.ref u)])) rfl rfl (hb hby d7_28) _ ?_
  rw [aS1]
  show Steps p.tables e below (T0.setTop (mkF m 29 #[.val (.ref ob0), .val (.ref u), .val (.ref u), .unset, .unset, .unset] [(.int (nu.toInt32))])) _
  refine XS.istoreN X0.here hx rfl (hb hby d7_29) rfl (l' := #[.val (.ref ob0), .val (.ref u), .val (.ref u), .val (.int (nu.toInt32)), .unset, .unset]) rfl ?_
  show Steps p.tables e below (T0.setTop (mkF m 30 #[.val (.ref ob0), .val (.ref u), .val (.ref u), .val (.int (nu.toInt32)), .unset, .unset] [])) _
  refine XS.iconst X0.here hx rfl (hb hby d7_30) ?_
  show Steps p.tables e below (T0.setTop (mkF m 31 #[.val (.ref ob0), .val (.ref u), .val (.ref u), .val (.int (nu.toInt32)), .unset, .unset] [(.int (0 : Int32))])) _
  refine XS.istore X0.here hx rfl (hb hby d7_31) rfl (l' := #[.val (.ref ob0), .val (.ref u), .val (.ref u), .val (.int (nu.toInt32)), .val (.int (0 : Int32)), .unset]) rfl ?_
  show Steps p.tables e below (T0.setTop (mkF m 33 #[.val (.ref ob0), .val (.ref u), .val (.ref u), .val (.int (nu.toInt32)), .val (.int (0 : Int32)), .unset] [])) _
  exact kt
theorem d7_33 : decode prog_59_method_14_code 33 = .ok (.iload 4, 2) := by decide +kernel
theorem d7_35 : decode prog_59_method_14_code 35 = .ok (.iload_n 3, 1) := by decide +kernel
theorem d7_36 : decode prog_59_method_14_code 36 = .ok (.if_icmp .ge 23, 3) := by decide +kernel
theorem d7_39 : decode prog_59_method_14_code 39 = .ok (.aload_n 2, 1) := by decide +kernel
theorem d7_40 : decode prog_59_method_14_code 40 = .ok (.iload 4, 2) := by decide +kernel
theorem d7_42 : decode prog_59_method_14_code 42 = .ok (.iaload, 1) := by decide +kernel
theorem os7_43_446 {z0 : Value} {z1 : Value} {z2 : Value} {z3 : Value} {z4 : Value} {z5 : Slot} {v : Int32} (h_z5 : One z5) : storeLocals #[.val z0, .val z1, .val z2, .val z3, .val z4, z5] 5 (.int v) = some #[.val z0, .val z1, .val z2, .val z3, .val z4, .val (.int v)] := by
  rcases h_z5 with rfl | ⟨w_z5, rfl, hw_z5⟩
  · skip
    rfl
  · cases w_z5 <;> first | (simp [Value.category] at hw_z5; done) | skip
    all_goals
      rfl
theorem d7_43 : decode prog_59_method_14_code 43 = .ok (.istore 5, 2) := by decide +kernel
theorem d7_45 : decode prog_59_method_14_code 45 = .ok (.aload_n 0, 1) := by decide +kernel
theorem d7_46 : decode prog_59_method_14_code 46 = .ok (.getfield 36, 3) := by decide +kernel
theorem d7_49 : decode prog_59_method_14_code 49 = .ok (.iload 5, 2) := by decide +kernel
theorem d7_51 : decode prog_59_method_14_code 51 = .ok (.iconst 0, 1) := by decide +kernel
theorem d7_52 : decode prog_59_method_14_code 52 = .ok (.bastore, 1) := by decide +kernel
theorem d7_53 : decode prog_59_method_14_code 53 = .ok (.iinc 4 1, 3) := by decide +kernel
theorem d7_56 : decode prog_59_method_14_code 56 = .ok (.goto (-23), 3) := by decide +kernel
set_option maxRecDepth 65536 in
set_option maxHeartbeats 40000000 in
theorem tkT {p : Program} {l : Launch} {e : Env} {s : State} {m : MethodId} {args : Array Value} {below : List Frame} {meth : Method} {c : Code} {T0 : State} {locs : List Loc} {Z : State} {a0 : Array Value} {h0 : Heap} {n0 : Nat} (ob0 : Addr) (u : Addr) (nl : Int32) (i : Int32) (z5 : Slot) (Mk : Addr) (k_u : ClassId) (nu : Nat) (fu : Nat → Value) (k_Mk : ClassId) (nM : Nat) (fM : Nat → Value) (w : Int32)
    (X0 : Stand p l e ({ frames := 2, cells := 1, slots := 4, locals := 60 } : Room) s m args below meth c T0 locs 1 4) (hx : p.tables.exec = Jvm.exec) (hZ : Z.Warmed39 s.vm) (hw : ∀ d ∈ tables_1, d.before a0 Z = true) (hby : c.code = prog_59_method_14_code) (hml : c.maxLocals = 6) (hown : s.vm.findClass "com/example/caprice/caprice/solver/Domains" = some m.cls) (e0 : T0.heap = h0) (N0 : Fr n0 locs) (O0 : Old Z n0 h0) (PE_ob0 : Exa Z h0 ob0 "com/example/caprice/caprice/solver/Domains") (PF_ob0_marked : Fld Z h0 ob0 "com/example/caprice/caprice/solver/Domains" "marked" "[Z" (.ref Mk)) (PA_u : Ars Z h0 u k_u .int nu fu) (PA_Mk : Ars Z h0 Mk k_Mk .boolean nM fM) (g_Mk : n0 ≤ Mk) (hin42 : ¬ (i < 0 ∨ nu ≤ (i).toNatClampNeg)) (hat42 : fu (i).toNatClampNeg = (.int w)) (hone_z5 : One z5) (hin52 : ¬ (w < 0 ∨ nM ≤ (w).toNatClampNeg)) (hd0 : i < nl) :
    ∃ (T' : State) (locs' : List Loc), Stand p l e ({ frames := 2, cells := 1, slots := 4, locals := 60 } : Room) s m args below meth c T' locs' 1 4 ∧ Fr n0 locs' ∧ Keep h0 T'.heap [Mk] ∧ Old Z n0 T'.heap ∧ Ars Z T'.heap Mk k_Mk .boolean nM (own_upd fM (w).toNatClampNeg (.int (0 : Int32))) ∧ True ∧ ∀ t, Steps p.tables e below (T'.setTop (mkF m 33 #[.val (.ref ob0), .val (.ref u), .val (.ref u), .val (.int nl), .val (.int (i + (1 : Int32))), .val (.int w)] [])) t → Steps p.tables e below (T0.setTop (mkF m 33 #[.val (.ref ob0), .val (.ref u), .val (.ref u), .val (.int nl), .val (.int i), z5] [])) t := by
  obtain ⟨ac1, aA1, aq1, aS1, aN1, aH1⟩ := id PA_u
  obtain ⟨T2, X2, e2, st2⟩ := getF X0 hx hZ hown (host := "") (Or.inl (hw _ (List.mem_of_getElem? (i := 34) rfl))) Via.refl e0 PF_ob0_marked (g := (mkF m 46 #[.val (.ref ob0), .val (.ref u), .val (.ref u), .val (.int nl), .val (.int i), .val (.int w)] [(.ref ob0)])) rfl rfl (hb hby d7_46)
  obtain ⟨ac3, aA3, aq3, aS3, aN3, aH3⟩ := id PA_Mk
  obtain ⟨T4, h4, X4, e4, W4, st4⟩ := stZ X2 hx hZ e2 aA3 (j := w) (by rw [aS3]; exact hin52) (g := (mkF m 52 #[.val (.ref ob0), .val (.ref u), .val (.ref u), .val (.int nl), .val (.int i), .val (.int w)] [(.int (0 : Int32)), (.int w), (.ref Mk)])) rfl rfl (hb hby d7_52)
  have A_4 : Ars Z h4 Mk k_Mk .boolean nM (own_upd fM (w).toNatClampNeg (.int (0 : Int32))) := Ars.set aA3 aq3 aS3 aN3 aH3 W4
  have N4 := Fr.snoc X4 N0 g_Mk
  have O4 := O0.wr W4 g_Mk
  have KK4 : Keep h0 h4 [Mk] := (Keep.refl h0 [Mk]).wr W4 (Or.inl (List.mem_of_getElem? (i := 0) rfl))
  refine ⟨T4, _, X4, N4, (by rw [e4]; exact KK4), (by rw [e4]; exact O4), (by rw [e4]; exact A_4), trivial, fun t kt => ?_⟩
  show Steps p.tables e below (T0.setTop (mkF m 33 #[.val (.ref ob0), .val (.ref u), .val (.ref u), .val (.int nl), .val (.int i), z5] [])) _
  refine XS.iload X0.here hx rfl (hb hby d7_33) rfl ?_
  show Steps p.tables e below (T0.setTop (mkF m 35 #[.val (.ref ob0), .val (.ref u), .val (.ref u), .val (.int nl), .val (.int i), z5] [(.int i)])) _
  refine XS.iloadN X0.here hx rfl (hb hby d7_35) rfl ?_
  show Steps p.tables e below (T0.setTop (mkF m 36 #[.val (.ref ob0), .val (.ref u), .val (.ref u), .val (.int nl), .val (.int i), z5] [(.int nl), (.int i)])) _
  refine XS.icmpNo X0.here hx rfl (hb hby d7_36) rfl (tlt hd0).2.1 ?_
  show Steps p.tables e below (T0.setTop (mkF m 39 #[.val (.ref ob0), .val (.ref u), .val (.ref u), .val (.int nl), .val (.int i), z5] [])) _
  refine XS.aloadN X0.here hx rfl (hb hby d7_39) rfl rfl ?_
  show Steps p.tables e below (T0.setTop (mkF m 40 #[.val (.ref ob0), .val (.ref u), .val (.ref u), .val (.int nl), .val (.int i), z5] [(.ref u)])) _
  refine XS.iload X0.here hx rfl (hb hby d7_40) rfl ?_
  show Steps p.tables e below (T0.setTop (mkF m 42 #[.val (.ref ob0), .val (.ref u), .val (.ref u), .val (.int nl), .val (.int i), z5] [(.int i), (.ref u)])) _
  refine X0.iaload hx (j := i) (v := (.int w)) (by rw [e0]; exact aA1.1) (State.isArrayOf_alike hZ.alike aA1.2.1) aA1.2.2 (by rw [aS1]; exact hin42) (own_at aH1 hin42 hat42) (g := (mkF m 42 #[.val (.ref ob0), .val (.ref u), .val (.ref u), .val (.int nl), .val (.int i), z5] [(.int i), (.ref u)])) rfl rfl (hb hby d7_42) _ ?_
  show Steps p.tables e below (T0.setTop (mkF m 43 #[.val (.ref ob0), .val (.ref u), .val (.ref u), .val (.int nl), .val (.int i), z5] [(.int w)])) _
  refine XS.istore X0.here hx rfl (hb hby d7_43) rfl (l' := #[.val (.ref ob0), .val (.ref u), .val (.ref u), .val (.int nl), .val (.int i), .val (.int w)]) (os7_43_446 hone_z5) ?_
  show Steps p.tables e below (T0.setTop (mkF m 45 #[.val (.ref ob0), .val (.ref u), .val (.ref u), .val (.int nl), .val (.int i), .val (.int w)] [])) _
  refine XS.aloadN X0.here hx rfl (hb hby d7_45) rfl rfl ?_
  show Steps p.tables e below (T0.setTop (mkF m 46 #[.val (.ref ob0), .val (.ref u), .val (.ref u), .val (.int nl), .val (.int i), .val (.int w)] [(.ref ob0)])) _
  refine st2 _ ?_
  show Steps p.tables e below (T2.setTop (mkF m 49 #[.val (.ref ob0), .val (.ref u), .val (.ref u), .val (.int nl), .val (.int i), .val (.int w)] [(.ref Mk)])) _
  refine XS.iload X2.here hx rfl (hb hby d7_49) rfl ?_
  show Steps p.tables e below (T2.setTop (mkF m 51 #[.val (.ref ob0), .val (.ref u), .val (.ref u), .val (.int nl), .val (.int i), .val (.int w)] [(.int w), (.ref Mk)])) _
  refine XS.iconst X2.here hx rfl (hb hby d7_51) ?_
  show Steps p.tables e below (T2.setTop (mkF m 52 #[.val (.ref ob0), .val (.ref u), .val (.ref u), .val (.int nl), .val (.int i), .val (.int w)] [(.int (0 : Int32)), (.int w), (.ref Mk)])) _
  refine st4 _ ?_
  show Steps p.tables e below (T4.setTop (mkF m 53 #[.val (.ref ob0), .val (.ref u), .val (.ref u), .val (.int nl), .val (.int i), .val (.int w)] [])) _
  refine XS.iinc X4.here hx rfl (hb hby d7_53) rfl (l' := #[.val (.ref ob0), .val (.ref u), .val (.ref u), .val (.int nl), .val (.int (i + (1 : Int32))), .val (.int w)]) rfl ?_
  show Steps p.tables e below (T4.setTop (mkF m 56 #[.val (.ref ob0), .val (.ref u), .val (.ref u), .val (.int nl), .val (.int (i + (1 : Int32))), .val (.int w)] [])) _
  refine XS.goto X4.here hx rfl (pc0 := 56) (pc' := 33) rfl (hb hby d7_56) (by decide) (by decide) ?_
  show Steps p.tables e below (T4.setTop (mkF m 33 #[.val (.ref ob0), .val (.ref u), .val (.ref u), .val (.int nl), .val (.int (i + (1 : Int32))), .val (.int w)] [])) _
  exact kt
theorem d7_59 : decode prog_59_method_14_code 59 = .ok (.aload_n 0, 1) := by decide +kernel
theorem d7_60 : decode prog_59_method_14_code 60 = .ok (.iconst 0, 1) := by decide +kernel
theorem d7_61 : decode prog_59_method_14_code 61 = .ok (.putfield 69, 3) := by decide +kernel
set_option maxRecDepth 65536 in
set_option maxHeartbeats 40000000 in
theorem tkE {p : Program} {l : Launch} {e : Env} {s : State} {m : MethodId} {args : Array Value} {below : List Frame} {meth : Method} {c : Code} {T0 : State} {locs : List Loc} {Z : State} {a0 : Array Value} {h0 : Heap} {n0 : Nat} (ob0 : Addr) (u : Addr) (nl : Int32) (i : Int32) (z5 : Slot) (R : Addr) (Ga : Addr) (Mk : Addr) (gc : Int32)
    (X0 : Stand p l e ({ frames := 2, cells := 1, slots := 4, locals := 60 } : Room) s m args below meth c T0 locs 1 4) (hx : p.tables.exec = Jvm.exec) (hZ : Z.Warmed39 s.vm) (hw : ∀ d ∈ tables_1, d.before a0 Z = true) (hby : c.code = prog_59_method_14_code) (hml : c.maxLocals = 6) (hown : s.vm.findClass "com/example/caprice/caprice/solver/Domains" = some m.cls) (e0 : T0.heap = h0) (N0 : Fr n0 locs) (O0 : Old Z n0 h0) (PE_ob0 : Exa Z h0 ob0 "com/example/caprice/caprice/solver/Domains") (PF_ob0_reasons : Fld Z h0 ob0 "com/example/caprice/caprice/solver/Domains" "reasons" "[[[I" (.ref R)) (PF_ob0_gathered : Fld Z h0 ob0 "com/example/caprice/caprice/solver/Domains" "gathered" "[I" (.ref Ga)) (PF_ob0_marked : Fld Z h0 ob0 "com/example/caprice/caprice/solver/Domains" "marked" "[Z" (.ref Mk)) (PF_ob0_gatheredCount : Fld Z h0 ob0 "com/example/caprice/caprice/solver/Domains" "gatheredCount" "I" (.int gc)) (g_ob0 : n0 ≤ ob0) (hd0 : ¬ (i < nl)) :
    ∃ (T' : State) (locs' : List Loc), Stand p l e ({ frames := 2, cells := 1, slots := 4, locals := 60 } : Room) s m args below meth c T' locs' 1 4 ∧ Fr n0 locs' ∧ Keep h0 T'.heap [ob0] ∧ Old Z n0 T'.heap ∧ Exa Z T'.heap ob0 "com/example/caprice/caprice/solver/Domains" ∧ Fld Z T'.heap ob0 "com/example/caprice/caprice/solver/Domains" "reasons" "[[[I" (.ref R) ∧ Fld Z T'.heap ob0 "com/example/caprice/caprice/solver/Domains" "gathered" "[I" (.ref Ga) ∧ Fld Z T'.heap ob0 "com/example/caprice/caprice/solver/Domains" "marked" "[Z" (.ref Mk) ∧ Fld Z T'.heap ob0 "com/example/caprice/caprice/solver/Domains" "gatheredCount" "I" (.int (0 : Int32)) ∧ True ∧ ∀ t, Steps p.tables e below (T'.setTop (mkF m 64 #[.val (.ref ob0), .val (.ref u), .val (.ref u), .val (.int nl), .val (.int i), z5] [])) t → Steps p.tables e below (T0.setTop (mkF m 33 #[.val (.ref ob0), .val (.ref u), .val (.ref u), .val (.int nl), .val (.int i), z5] [])) t := by
  obtain ⟨T1, h1, X1, e1, W1, st1⟩ := putF X0 hx hZ hown (host := "") (Or.inl (hw _ (List.mem_of_getElem? (i := 55) rfl))) Via.refl e0 PF_ob0_gatheredCount PE_ob0 (Or.inl (hw _ (List.mem_of_getElem? (i := 56) rfl))) (hw _ (List.mem_of_getElem? (i := 6) rfl)) (ty := .int) (by decide) rfl rfl (g := (mkF m 61 #[.val (.ref ob0), .val (.ref u), .val (.ref u), .val (.int nl), .val (.int i), z5] [(.int (0 : Int32)), (.ref ob0)])) rfl rfl (hb hby d7_61)
  have Fw1 := PF_ob0_gatheredCount.same W1
  have N1 := Fr.snoc X1 N0 g_ob0
  have O1 := O0.wr W1 g_ob0
  have KK1 : Keep h0 h1 [ob0] := (Keep.refl h0 [ob0]).wr W1 (Or.inl (List.mem_of_getElem? (i := 0) rfl))
  refine ⟨T1, _, X1, N1, (by rw [e1]; exact KK1), (by rw [e1]; exact O1), (by rw [e1]; exact (PE_ob0.wr W1)), (by rw [e1]; exact (PF_ob0_reasons.other W1 (Or.inr (slot_ne (Or.inr (hw _ (List.mem_of_getElem? (i := 17) rfl))) (Or.inl (hw _ (List.mem_of_getElem? (i := 56) rfl))) (by decide) (t := (.array (.array (.array .int)))) (t' := .int) (by decide) (by decide))))), (by rw [e1]; exact (PF_ob0_gathered.other W1 (Or.inr (slot_ne (Or.inr (hw _ (List.mem_of_getElem? (i := 32) rfl))) (Or.inl (hw _ (List.mem_of_getElem? (i := 56) rfl))) (by decide) (t := (.array .int)) (t' := .int) (by decide) (by decide))))), (by rw [e1]; exact (PF_ob0_marked.other W1 (Or.inr (slot_ne (Or.inr (hw _ (List.mem_of_getElem? (i := 35) rfl))) (Or.inl (hw _ (List.mem_of_getElem? (i := 56) rfl))) (by decide) (t := (.array .boolean)) (t' := .int) (by decide) (by decide))))), (by rw [e1]; exact Fw1), trivial, fun t kt => ?_⟩
  show Steps p.tables e below (T0.setTop (mkF m 33 #[.val (.ref ob0), .val (.ref u), .val (.ref u), .val (.int nl), .val (.int i), z5] [])) _
  refine XS.iload X0.here hx rfl (hb hby d7_33) rfl ?_
  show Steps p.tables e below (T0.setTop (mkF m 35 #[.val (.ref ob0), .val (.ref u), .val (.ref u), .val (.int nl), .val (.int i), z5] [(.int i)])) _
  refine XS.iloadN X0.here hx rfl (hb hby d7_35) rfl ?_
  show Steps p.tables e below (T0.setTop (mkF m 36 #[.val (.ref ob0), .val (.ref u), .val (.ref u), .val (.int nl), .val (.int i), z5] [(.int nl), (.int i)])) _
  refine XS.icmpYes X0.here hx rfl (pc0 := 36) (pc' := 59) rfl (hb hby d7_36) rfl (flt hd0).2.1 (by decide) (by decide) ?_
  show Steps p.tables e below (T0.setTop (mkF m 59 #[.val (.ref ob0), .val (.ref u), .val (.ref u), .val (.int nl), .val (.int i), z5] [])) _
  refine XS.aloadN X0.here hx rfl (hb hby d7_59) rfl rfl ?_
  show Steps p.tables e below (T0.setTop (mkF m 60 #[.val (.ref ob0), .val (.ref u), .val (.ref u), .val (.int nl), .val (.int i), z5] [(.ref ob0)])) _
  refine XS.iconst X0.here hx rfl (hb hby d7_60) ?_
  show Steps p.tables e below (T0.setTop (mkF m 61 #[.val (.ref ob0), .val (.ref u), .val (.ref u), .val (.int nl), .val (.int i), z5] [(.int (0 : Int32)), (.ref ob0)])) _
  refine st1 _ ?_
  show Steps p.tables e below (T1.setTop (mkF m 64 #[.val (.ref ob0), .val (.ref u), .val (.ref u), .val (.int nl), .val (.int i), z5] [])) _
  exact kt
theorem d7_64 : decode prog_59_method_14_code 64 = .ok (.aload_n 1, 1) := by decide +kernel
theorem d7_65 : decode prog_59_method_14_code 65 = .ok (.areturn, 1) := by decide +kernel
set_option maxRecDepth 65536 in
set_option maxHeartbeats 40000000 in
theorem tkR {p : Program} {l : Launch} {e : Env} {s : State} {m : MethodId} {args : Array Value} {below : List Frame} {meth : Method} {c : Code} {T0 : State} {locs : List Loc} {Z : State} {a0 : Array Value} {h0 : Heap} {n0 : Nat} (ob0 : Addr) (u : Addr) (nl : Int32) (i : Int32) (z5 : Slot)
    (X0 : Stand p l e ({ frames := 2, cells := 1, slots := 4, locals := 60 } : Room) s m args below meth c T0 locs 1 4) (hx : p.tables.exec = Jvm.exec) (hZ : Z.Warmed39 s.vm) (hw : ∀ d ∈ tables_1, d.before a0 Z = true) (hby : c.code = prog_59_method_14_code) (hml : c.maxLocals = 6) (hown : s.vm.findClass "com/example/caprice/caprice/solver/Domains" = some m.cls) (e0 : T0.heap = h0) (N0 : Fr n0 locs) (O0 : Old Z n0 h0) (hret : meth.sig.returnType = some (.array .int)) (hlk : meth.locks = false) {entry : State} (pre0 : ∀ t, Steps p.tables e below (T0.setTop (mkF m 64 #[.val (.ref ob0), .val (.ref u), .val (.ref u), .val (.int nl), .val (.int i), z5] [])) t → Steps p.tables e below entry t) :
    ∃ s₂ o, Steps p.tables e below entry s₂ ∧ s₂.status = .running ∧ Ended s₂ below o ∧ ∃ v L, o = .returned v ∧ QV (some (.ref u)) h0 n0 v s₂.heap L ∧ FrameEnd s o s₂ L ({ frames := 2, cells := 1, slots := 4, locals := 60 } : Room).cells ({ frames := 2, cells := 1, slots := 4, locals := 60 } : Room).slots := by
  obtain ⟨fs, hr, hrun, hended, hW, hsame⟩ := X0.leave (v := some (.ref u)) (fun h => by rw [hret] at h; cases h) hlk
  refine ⟨_, _, pre0 _ ?_, hrun, hended, _, _, rfl, ?_, ⟨_, rfl⟩, hW, hsame.mono (by decide) (by decide)⟩
  · show Steps p.tables e below (T0.setTop (mkF m 64 #[.val (.ref ob0), .val (.ref u), .val (.ref u), .val (.int nl), .val (.int i), z5] [])) _
    refine XS.aloadN X0.here hx rfl (hb hby d7_64) rfl rfl ?_
    show Steps p.tables e below (T0.setTop (mkF m 65 #[.val (.ref ob0), .val (.ref u), .val (.ref u), .val (.int nl), .val (.int i), z5] [(.ref u)])) _
    jvm_step X0.here [X0.here.top, hx, (hb hby d7_65), X0.method', hret, Value.isRef, FieldType.isReference]
    first | (intro acts; rw [hr _ acts rfl rfl rfl]) | rw [hr _ _ rfl rfl rfl]
    exact Steps.refl _
  · exact ⟨rfl, N0, e0⟩
theorem d7_7 : decode prog_59_method_14_code 7 = .ok (.getstatic 72, 3) := by decide +kernel
theorem d7_10 : decode prog_59_method_14_code 10 = .ok (.goto 14, 3) := by decide +kernel
theorem ef466 (m : MethodId) (x0 : Addr) : entryFrame m #[(.ref x0)] 6 = mkF m 0 #[.val (.ref x0), .unset, .unset, .unset, .unset, .unset] [] := by first | (simp [entryFrame, mkF, argsToLocals, Value.category]; done) | rfl
def Q7_37 (Z : State) (w_FOR_GOOD : Addr) (cl_w_FOR_GOOD : Cell) (ob0 : Addr) (R : Addr) (Ga : Addr) (Mk : Addr) (gc : Int32) (h0 : Heap) (n0 : Nat) (v : Option Value) (h : Heap) (L : List Loc) : Prop := v = some (.ref w_FOR_GOOD) ∧ Fr n0 L ∧ Keep h0 h [ob0] ∧ Old Z n0 h ∧ Exa Z h ob0 "com/example/caprice/caprice/solver/Domains" ∧ Fld Z h ob0 "com/example/caprice/caprice/solver/Domains" "reasons" "[[[I" (.ref R) ∧ Fld Z h ob0 "com/example/caprice/caprice/solver/Domains" "gathered" "[I" (.ref Ga) ∧ Fld Z h ob0 "com/example/caprice/caprice/solver/Domains" "marked" "[Z" (.ref Mk) ∧ Fld Z h ob0 "com/example/caprice/caprice/solver/Domains" "gatheredCount" "I" (.int (0 : Int32)) ∧ True
set_option maxRecDepth 65536 in
set_option maxHeartbeats 40000000 in
theorem rm7_37 (l : Launch) (Z : State) (a0 : Array Value) (hw : ∀ d ∈ tables_1, d.before a0 Z = true) (ws : List Jvm.Cond) (w_FOR_GOOD : Addr) (cl_w_FOR_GOOD : Cell) (ob0 : Addr) (R : Addr) (Ga : Addr) (Mk : Addr) (gc : Int32) (h0 : Heap) (n0 : Nat) (Z0 : n0 ≤ h0.size) (O0 : Old Z n0 h0) (HW : World Z w_FOR_GOOD cl_w_FOR_GOOD) (PE_ob0 : Exa Z h0 ob0 "com/example/caprice/caprice/solver/Domains") (PF_ob0_reasons : Fld Z h0 ob0 "com/example/caprice/caprice/solver/Domains" "reasons" "[[[I" (.ref R)) (PF_ob0_gathered : Fld Z h0 ob0 "com/example/caprice/caprice/solver/Domains" "gathered" "[I" (.ref Ga)) (PF_ob0_marked : Fld Z h0 ob0 "com/example/caprice/caprice/solver/Domains" "marked" "[Z" (.ref Mk)) (PF_ob0_gatheredCount : Fld Z h0 ob0 "com/example/caprice/caprice/solver/Domains" "gatheredCount" "I" (.int gc)) (g_ob0 : n0 ≤ ob0) (hd0 : gc = (0 : Int32)) :
    MetFree l (⟨"com/example/caprice/caprice/solver/Domains", "takeGathered", "()[I"⟩ : MethodName) (head1 (Jvm.Cond.code (⟨"com/example/caprice/caprice/solver/Domains", "takeGathered", "()[I"⟩ : MethodName) prog_59_method_14_code 6 (some (.array .int)) :: ws) ({ frames := 2, cells := 1, slots := 4, locals := 60 } : Room)) (fun a U => a = #[(.ref ob0)] ∧ Z.Warmed39 U.vm ∧ U.heap = h0) (fun _ _ _ _ _ => True) (fun _ U o U' => ∃ v L, o = .returned v ∧ Q7_37 Z w_FOR_GOOD cl_w_FOR_GOOD ob0 R Ga Mk gc h0 n0 v U'.heap L ∧ FrameEnd U o U' L ({ frames := 2, cells := 1, slots := 4, locals := 60 } : Room).cells ({ frames := 2, cells := 1, slots := 4, locals := 60 } : Room).slots) := by
  refine MetFree.of_bodySF (plainFor_of_name pn72) hisR ?_
  intro p e s m args below meth c s₁ Bd hml0 hP hK
  obtain ⟨rfl, hZ, hh⟩ := hP
  have hx := Bd.exec
  have hby := Bd.bytes
  have hml : c.maxLocals = 6 := hml0
  have hown : s.vm.findClass "com/example/caprice/caprice/solver/Domains" = some m.cls := findClass_of_methodNamed Bd.named
  have hnm := (name_of_methodNamed Bd.named Bd.method).1
  have X0 : Stand p l e ({ frames := 2, cells := 1, slots := 4, locals := 60 } : Room) s m #[(.ref ob0)] below meth c s₁ [] 0 0 := Stand.of_body Bd
  have e0 : s₁.heap = h0 := by rw [← hh, Bd.state]; rfl
  have N0 := Fr.nil n0
  have pre0 : ∀ t, Steps p.tables e below (s₁.setTop (mkF m 0 #[.val (.ref ob0), .unset, .unset, .unset, .unset, .unset] [])) t → Steps p.tables e below (s₁.setTop (entryFrame m #[(.ref ob0)] 6)) t := fun t k => castTop (ef466 m ob0) k
  obtain ⟨S_w_FOR_GOOD, Ar_w_FOR_GOOD, Sz_w_FOR_GOOD, -⟩ := id HW
  obtain ⟨T1, X1, e1, st1⟩ := getF X0 hx hZ hown (host := "") (Or.inl (hw _ (List.mem_of_getElem? (i := 55) rfl))) Via.refl e0 PF_ob0_gatheredCount (g := (mkF m 1 #[.val (.ref ob0), .unset, .unset, .unset, .unset, .unset] [(.ref ob0)])) rfl rfl (hb hby d7_1)
  obtain ⟨T2, X2, e2, st2⟩ := getS2 X1 hx hZ hown (host := "") (Or.inl (hw _ (List.mem_of_getElem? (i := 57) rfl))) Via.refl e1 (S_w_FOR_GOOD.ext O0.2) (g := (mkF m 7 #[.val (.ref ob0), .unset, .unset, .unset, .unset, .unset] [])) rfl (hb hby d7_7)
  obtain ⟨T3, h3, X3, e3, W3, st3⟩ := putF X2 hx hZ hown (host := "") (Or.inl (hw _ (List.mem_of_getElem? (i := 55) rfl))) Via.refl e2 PF_ob0_gatheredCount PE_ob0 (Or.inl (hw _ (List.mem_of_getElem? (i := 56) rfl))) (hw _ (List.mem_of_getElem? (i := 6) rfl)) (ty := .int) (by decide) rfl rfl (g := (mkF m 61 #[.val (.ref ob0), .val (.ref w_FOR_GOOD), .val (.ref w_FOR_GOOD), .val (.int (0 : Int32)), .val (.int (0 : Int32)), .unset] [(.int (0 : Int32)), (.ref ob0)])) rfl rfl (hb hby d7_61)
  have Fw3 := PF_ob0_gatheredCount.same W3
  have N3 := Fr.snoc X3 N0 g_ob0
  have O3 := O0.wr W3 g_ob0
  have KK3 : Keep h0 h3 [ob0] := (Keep.refl h0 [ob0]).wr W3 (Or.inl (List.mem_of_getElem? (i := 0) rfl))
  obtain ⟨fs, hr, hrun, hended, hW, hsame⟩ := X3.leave (v := some (.ref w_FOR_GOOD)) (fun h => by rw [Bd.returns] at h; cases h)
  refine ⟨_, _, pre0 _ ?_, hrun, hended, _, _, rfl, ?_, ⟨_, rfl⟩, hW, hsame.mono (by decide) (by decide)⟩
  · show Steps p.tables e below (s₁.setTop (mkF m 0 #[.val (.ref ob0), .unset, .unset, .unset, .unset, .unset] [])) _
    refine XS.aloadN X0.here hx rfl (hb hby d7_0) rfl rfl ?_
    show Steps p.tables e below (s₁.setTop (mkF m 1 #[.val (.ref ob0), .unset, .unset, .unset, .unset, .unset] [(.ref ob0)])) _
    refine st1 _ ?_
    show Steps p.tables e below (T1.setTop (mkF m 4 #[.val (.ref ob0), .unset, .unset, .unset, .unset, .unset] [(.int gc)])) _
    refine XS.ifNo X1.here hx rfl (hb hby d7_4) rfl ((if0 _ _).trans (teq hd0).2) ?_
    show Steps p.tables e below (T1.setTop (mkF m 7 #[.val (.ref ob0), .unset, .unset, .unset, .unset, .unset] [])) _
    refine st2 _ ?_
    show Steps p.tables e below (T2.setTop (mkF m 10 #[.val (.ref ob0), .unset, .unset, .unset, .unset, .unset] [(.ref w_FOR_GOOD)])) _
    refine XS.goto X2.here hx rfl (pc0 := 10) (pc' := 24) rfl (hb hby d7_10) (by decide) (by decide) ?_
    show Steps p.tables e below (T2.setTop (mkF m 24 #[.val (.ref ob0), .unset, .unset, .unset, .unset, .unset] [(.ref w_FOR_GOOD)])) _
    refine XS.astoreN X2.here hx rfl (hb hby d7_24) rfl rfl (l' := #[.val (.ref ob0), .val (.ref w_FOR_GOOD), .unset, .unset, .unset, .unset]) rfl ?_
    show Steps p.tables e below (T2.setTop (mkF m 25 #[.val (.ref ob0), .val (.ref w_FOR_GOOD), .unset, .unset, .unset, .unset] [])) _
    refine XS.aloadN X2.here hx rfl (hb hby d7_25) rfl rfl ?_
    show Steps p.tables e below (T2.setTop (mkF m 26 #[.val (.ref ob0), .val (.ref w_FOR_GOOD), .unset, .unset, .unset, .unset] [(.ref w_FOR_GOOD)])) _
    refine XS.astoreN X2.here hx rfl (hb hby d7_26) rfl rfl (l' := #[.val (.ref ob0), .val (.ref w_FOR_GOOD), .val (.ref w_FOR_GOOD), .unset, .unset, .unset]) rfl ?_
    show Steps p.tables e below (T2.setTop (mkF m 27 #[.val (.ref ob0), .val (.ref w_FOR_GOOD), .val (.ref w_FOR_GOOD), .unset, .unset, .unset] [])) _
    refine XS.aloadN X2.here hx rfl (hb hby d7_27) rfl rfl ?_
    show Steps p.tables e below (T2.setTop (mkF m 28 #[.val (.ref ob0), .val (.ref w_FOR_GOOD), .val (.ref w_FOR_GOOD), .unset, .unset, .unset] [(.ref w_FOR_GOOD)])) _
    refine X2.arraylength hx (by rw [e2]; exact (Ar_w_FOR_GOOD.ext O0.2).1) (State.isArrayOf_alike hZ.alike Ar_w_FOR_GOOD.2.1) (g := (mkF m 28 #[.val (.ref ob0), .val (.ref w_FOR_GOOD), .val (.ref w_FOR_GOOD), .unset, .unset, .unset] [(.ref w_FOR_GOOD)])) rfl rfl (hb hby d7_28) _ ?_
    rw [Sz_w_FOR_GOOD]
    show Steps p.tables e below (T2.setTop (mkF m 29 #[.val (.ref ob0), .val (.ref w_FOR_GOOD), .val (.ref w_FOR_GOOD), .unset, .unset, .unset] [(.int (0 : Int32))])) _
    refine XS.istoreN X2.here hx rfl (hb hby d7_29) rfl (l' := #[.val (.ref ob0), .val (.ref w_FOR_GOOD), .val (.ref w_FOR_GOOD), .val (.int (0 : Int32)), .unset, .unset]) rfl ?_
    show Steps p.tables e below (T2.setTop (mkF m 30 #[.val (.ref ob0), .val (.ref w_FOR_GOOD), .val (.ref w_FOR_GOOD), .val (.int (0 : Int32)), .unset, .unset] [])) _
    refine XS.iconst X2.here hx rfl (hb hby d7_30) ?_
    show Steps p.tables e below (T2.setTop (mkF m 31 #[.val (.ref ob0), .val (.ref w_FOR_GOOD), .val (.ref w_FOR_GOOD), .val (.int (0 : Int32)), .unset, .unset] [(.int (0 : Int32))])) _
    refine XS.istore X2.here hx rfl (hb hby d7_31) rfl (l' := #[.val (.ref ob0), .val (.ref w_FOR_GOOD), .val (.ref w_FOR_GOOD), .val (.int (0 : Int32)), .val (.int (0 : Int32)), .unset]) rfl ?_
    show Steps p.tables e below (T2.setTop (mkF m 33 #[.val (.ref ob0), .val (.ref w_FOR_GOOD), .val (.ref w_FOR_GOOD), .val (.int (0 : Int32)), .val (.int (0 : Int32)), .unset] [])) _
    refine XS.iload X2.here hx rfl (hb hby d7_33) rfl ?_
    show Steps p.tables e below (T2.setTop (mkF m 35 #[.val (.ref ob0), .val (.ref w_FOR_GOOD), .val (.ref w_FOR_GOOD), .val (.int (0 : Int32)), .val (.int (0 : Int32)), .unset] [(.int (0 : Int32))])) _
    refine XS.iloadN X2.here hx rfl (hb hby d7_35) rfl ?_
    show Steps p.tables e below (T2.setTop (mkF m 36 #[.val (.ref ob0), .val (.ref w_FOR_GOOD), .val (.ref w_FOR_GOOD), .val (.int (0 : Int32)), .val (.int (0 : Int32)), .unset] [(.int (0 : Int32)), (.int (0 : Int32))])) _
    refine XS.icmpYes X2.here hx rfl (pc0 := 36) (pc' := 59) rfl (hb hby d7_36) rfl (flt (by decide : ¬ ((0 : Int32) < (0 : Int32)))).2.1 (by decide) (by decide) ?_
    show Steps p.tables e below (T2.setTop (mkF m 59 #[.val (.ref ob0), .val (.ref w_FOR_GOOD), .val (.ref w_FOR_GOOD), .val (.int (0 : Int32)), .val (.int (0 : Int32)), .unset] [])) _
    refine XS.aloadN X2.here hx rfl (hb hby d7_59) rfl rfl ?_
    show Steps p.tables e below (T2.setTop (mkF m 60 #[.val (.ref ob0), .val (.ref w_FOR_GOOD), .val (.ref w_FOR_GOOD), .val (.int (0 : Int32)), .val (.int (0 : Int32)), .unset] [(.ref ob0)])) _
    refine XS.iconst X2.here hx rfl (hb hby d7_60) ?_
    show Steps p.tables e below (T2.setTop (mkF m 61 #[.val (.ref ob0), .val (.ref w_FOR_GOOD), .val (.ref w_FOR_GOOD), .val (.int (0 : Int32)), .val (.int (0 : Int32)), .unset] [(.int (0 : Int32)), (.ref ob0)])) _
    refine st3 _ ?_
    show Steps p.tables e below (T3.setTop (mkF m 64 #[.val (.ref ob0), .val (.ref w_FOR_GOOD), .val (.ref w_FOR_GOOD), .val (.int (0 : Int32)), .val (.int (0 : Int32)), .unset] [])) _
    refine XS.aloadN X3.here hx rfl (hb hby d7_64) rfl rfl ?_
    show Steps p.tables e below (T3.setTop (mkF m 65 #[.val (.ref ob0), .val (.ref w_FOR_GOOD), .val (.ref w_FOR_GOOD), .val (.int (0 : Int32)), .val (.int (0 : Int32)), .unset] [(.ref w_FOR_GOOD)])) _
    jvm_step X3.here [X3.here.top, hx, (hb hby d7_65), X3.method', Bd.returns, Value.isRef, FieldType.isReference]
    first | (intro acts; rw [hr _ acts rfl rfl rfl]) | rw [hr _ _ rfl rfl rfl]
    exact Steps.refl _
  · have eH : (T3.setFrames fs).heap = h3 := e3; rw [eH]; exact ⟨rfl, N3, KK3, O3, (PE_ob0.wr W3), (PF_ob0_reasons.other W3 (Or.inr (slot_ne (Or.inr (hw _ (List.mem_of_getElem? (i := 17) rfl))) (Or.inl (hw _ (List.mem_of_getElem? (i := 56) rfl))) (by decide) (t := (.array (.array (.array .int)))) (t' := .int) (by decide) (by decide)))), (PF_ob0_gathered.other W3 (Or.inr (slot_ne (Or.inr (hw _ (List.mem_of_getElem? (i := 32) rfl))) (Or.inl (hw _ (List.mem_of_getElem? (i := 56) rfl))) (by decide) (t := (.array .int)) (t' := .int) (by decide) (by decide)))), (PF_ob0_marked.other W3 (Or.inr (slot_ne (Or.inr (hw _ (List.mem_of_getElem? (i := 35) rfl))) (Or.inl (hw _ (List.mem_of_getElem? (i := 56) rfl))) (by decide) (t := (.array .boolean)) (t' := .int) (by decide) (by decide)))), Fw3, trivial⟩
def Q8_38 (Z : State) (w_FOR_GOOD : Addr) (cl_w_FOR_GOOD : Cell) (h0 : Heap) (n0 : Nat) (v : Option Value) (h : Heap) (L : List Loc) : Prop := v = some (.int (0 : Int32)) ∧ Fr n0 L ∧ h = h0
set_option maxRecDepth 65536 in
set_option maxHeartbeats 40000000 in
theorem rm8_38 (l : Launch) (Z : State) (a0 : Array Value) (hw : ∀ d ∈ tables_1, d.before a0 Z = true) (ws : List Jvm.Cond) (w_FOR_GOOD : Addr) (cl_w_FOR_GOOD : Cell) (h0 : Heap) (n0 : Nat) (Z0 : n0 ≤ h0.size) (O0 : Old Z n0 h0) (HW : World Z w_FOR_GOOD cl_w_FOR_GOOD) :
    MetFree l (⟨"com/example/caprice/caprice/solver/DomainsGatherReasonsPinLaw", "maskOf", "([I)I"⟩ : MethodName) (head1 (Jvm.Cond.code (⟨"com/example/caprice/caprice/solver/DomainsGatherReasonsPinLaw", "maskOf", "([I)I"⟩ : MethodName) method_6_code 3 (some .int) :: ws) ({ frames := 1, cells := 0, slots := 0, locals := 14 } : Room)) (fun a U => a = #[(.ref w_FOR_GOOD)] ∧ Z.Warmed39 U.vm ∧ U.heap = h0) (fun _ _ _ _ _ => True) (fun _ U o U' => ∃ v L, o = .returned v ∧ Q8_38 Z w_FOR_GOOD cl_w_FOR_GOOD h0 n0 v U'.heap L ∧ FrameEnd U o U' L ({ frames := 1, cells := 0, slots := 0, locals := 14 } : Room).cells ({ frames := 1, cells := 0, slots := 0, locals := 14 } : Room).slots) := by
  refine MetFree.of_bodySF (plainFor_of_name pn152) hisR ?_
  intro p e s m args below meth c s₁ Bd hml0 hP hK
  obtain ⟨rfl, hZ, hh⟩ := hP
  have hx := Bd.exec
  have hby := Bd.bytes
  have hml : c.maxLocals = 3 := hml0
  have hown : s.vm.findClass "com/example/caprice/caprice/solver/DomainsGatherReasonsPinLaw" = some m.cls := findClass_of_methodNamed Bd.named
  have hnm := (name_of_methodNamed Bd.named Bd.method).1
  have X0 : Stand p l e ({ frames := 1, cells := 0, slots := 0, locals := 14 } : Room) s m #[(.ref w_FOR_GOOD)] below meth c s₁ [] 0 0 := Stand.of_body Bd
  have e0 : s₁.heap = h0 := by rw [← hh, Bd.state]; rfl
  have N0 := Fr.nil n0
  have pre0 : ∀ t, Steps p.tables e below (s₁.setTop (mkF m 0 #[.val (.ref w_FOR_GOOD), .unset, .unset] [])) t → Steps p.tables e below (s₁.setTop (entryFrame m #[(.ref w_FOR_GOOD)] 3)) t := fun t k => castTop (ef313 m w_FOR_GOOD) k
  obtain ⟨S_w_FOR_GOOD, Ar_w_FOR_GOOD, Sz_w_FOR_GOOD, -⟩ := id HW
  obtain ⟨fs, hr, hrun, hended, hW, hsame⟩ := X0.leave (v := some (.int (0 : Int32))) (fun h => by rw [Bd.returns] at h; cases h)
  refine ⟨_, _, pre0 _ ?_, hrun, hended, _, _, rfl, ?_, ⟨_, rfl⟩, hW, hsame.mono (by decide) (by decide)⟩
  · show Steps p.tables e below (s₁.setTop (mkF m 0 #[.val (.ref w_FOR_GOOD), .unset, .unset] [])) _
    refine XS.aloadN X0.here hx rfl (hb hby d8_0) rfl rfl ?_
    show Steps p.tables e below (s₁.setTop (mkF m 1 #[.val (.ref w_FOR_GOOD), .unset, .unset] [(.ref w_FOR_GOOD)])) _
    refine X0.arraylength hx (by rw [e0]; exact (Ar_w_FOR_GOOD.ext O0.2).1) (State.isArrayOf_alike hZ.alike Ar_w_FOR_GOOD.2.1) (g := (mkF m 1 #[.val (.ref w_FOR_GOOD), .unset, .unset] [(.ref w_FOR_GOOD)])) rfl rfl (hb hby d8_1) _ ?_
    rw [Sz_w_FOR_GOOD]
    show Steps p.tables e below (s₁.setTop (mkF m 2 #[.val (.ref w_FOR_GOOD), .unset, .unset] [(.int (0 : Int32))])) _
    refine XS.istoreN X0.here hx rfl (hb hby d8_2) rfl (l' := #[.val (.ref w_FOR_GOOD), .val (.int (0 : Int32)), .unset]) rfl ?_
    show Steps p.tables e below (s₁.setTop (mkF m 3 #[.val (.ref w_FOR_GOOD), .val (.int (0 : Int32)), .unset] [])) _
    refine XS.iloadN X0.here hx rfl (hb hby d8_3) rfl ?_
    show Steps p.tables e below (s₁.setTop (mkF m 4 #[.val (.ref w_FOR_GOOD), .val (.int (0 : Int32)), .unset] [(.int (0 : Int32))])) _
    refine XS.iconst X0.here hx rfl (hb hby d8_4) ?_
    show Steps p.tables e below (s₁.setTop (mkF m 5 #[.val (.ref w_FOR_GOOD), .val (.int (0 : Int32)), .unset] [(.int (4 : Int32)), (.int (0 : Int32))])) _
    refine XS.icmpYes X0.here hx rfl (pc0 := 5) (pc' := 10) rfl (hb hby d8_5) rfl (flt (by decide : ¬ ((4 : Int32) < (0 : Int32)))).2.2.2 (by decide) (by decide) ?_
    show Steps p.tables e below (s₁.setTop (mkF m 10 #[.val (.ref w_FOR_GOOD), .val (.int (0 : Int32)), .unset] [])) _
    refine XS.iconst X0.here hx rfl (hb hby d8_10) ?_
    show Steps p.tables e below (s₁.setTop (mkF m 11 #[.val (.ref w_FOR_GOOD), .val (.int (0 : Int32)), .unset] [(.int (0 : Int32))])) _
    refine XS.istoreN X0.here hx rfl (hb hby d8_11) rfl (l' := #[.val (.ref w_FOR_GOOD), .val (.int (0 : Int32)), .val (.int (0 : Int32))]) rfl ?_
    show Steps p.tables e below (s₁.setTop (mkF m 12 #[.val (.ref w_FOR_GOOD), .val (.int (0 : Int32)), .val (.int (0 : Int32))] [])) _
    refine XS.iloadN X0.here hx rfl (hb hby d8_12) rfl ?_
    show Steps p.tables e below (s₁.setTop (mkF m 13 #[.val (.ref w_FOR_GOOD), .val (.int (0 : Int32)), .val (.int (0 : Int32))] [(.int (0 : Int32))])) _
    refine XS.ifYes X0.here hx rfl (pc0 := 13) (pc' := 24) rfl (hb hby d8_13) rfl ((if0 _ _).trans (flt (by decide : ¬ ((0 : Int32) < (0 : Int32)))).2.2.2) (by decide) (by decide) ?_
    show Steps p.tables e below (s₁.setTop (mkF m 24 #[.val (.ref w_FOR_GOOD), .val (.int (0 : Int32)), .val (.int (0 : Int32))] [])) _
    refine XS.iloadN X0.here hx rfl (hb hby d8_24) rfl ?_
    show Steps p.tables e below (s₁.setTop (mkF m 25 #[.val (.ref w_FOR_GOOD), .val (.int (0 : Int32)), .val (.int (0 : Int32))] [(.int (0 : Int32))])) _
    refine XS.iconst X0.here hx rfl (hb hby d8_25) ?_
    show Steps p.tables e below (s₁.setTop (mkF m 26 #[.val (.ref w_FOR_GOOD), .val (.int (0 : Int32)), .val (.int (0 : Int32))] [(.int (1 : Int32)), (.int (0 : Int32))])) _
    refine XS.icmpYes X0.here hx rfl (pc0 := 26) (pc' := 37) rfl (hb hby d8_26) rfl (flt (by decide : ¬ ((1 : Int32) < (0 : Int32)))).2.2.2 (by decide) (by decide) ?_
    show Steps p.tables e below (s₁.setTop (mkF m 37 #[.val (.ref w_FOR_GOOD), .val (.int (0 : Int32)), .val (.int (0 : Int32))] [])) _
    refine XS.iloadN X0.here hx rfl (hb hby d8_37) rfl ?_
    show Steps p.tables e below (s₁.setTop (mkF m 38 #[.val (.ref w_FOR_GOOD), .val (.int (0 : Int32)), .val (.int (0 : Int32))] [(.int (0 : Int32))])) _
    refine XS.iconst X0.here hx rfl (hb hby d8_38) ?_
    show Steps p.tables e below (s₁.setTop (mkF m 39 #[.val (.ref w_FOR_GOOD), .val (.int (0 : Int32)), .val (.int (0 : Int32))] [(.int (2 : Int32)), (.int (0 : Int32))])) _
    refine XS.icmpYes X0.here hx rfl (pc0 := 39) (pc' := 50) rfl (hb hby d8_39) rfl (flt (by decide : ¬ ((2 : Int32) < (0 : Int32)))).2.2.2 (by decide) (by decide) ?_
    show Steps p.tables e below (s₁.setTop (mkF m 50 #[.val (.ref w_FOR_GOOD), .val (.int (0 : Int32)), .val (.int (0 : Int32))] [])) _
    refine XS.iloadN X0.here hx rfl (hb hby d8_50) rfl ?_
    show Steps p.tables e below (s₁.setTop (mkF m 51 #[.val (.ref w_FOR_GOOD), .val (.int (0 : Int32)), .val (.int (0 : Int32))] [(.int (0 : Int32))])) _
    refine XS.iconst X0.here hx rfl (hb hby d8_51) ?_
    show Steps p.tables e below (s₁.setTop (mkF m 52 #[.val (.ref w_FOR_GOOD), .val (.int (0 : Int32)), .val (.int (0 : Int32))] [(.int (3 : Int32)), (.int (0 : Int32))])) _
    refine XS.icmpYes X0.here hx rfl (pc0 := 52) (pc' := 63) rfl (hb hby d8_52) rfl (flt (by decide : ¬ ((3 : Int32) < (0 : Int32)))).2.2.2 (by decide) (by decide) ?_
    show Steps p.tables e below (s₁.setTop (mkF m 63 #[.val (.ref w_FOR_GOOD), .val (.int (0 : Int32)), .val (.int (0 : Int32))] [])) _
    refine XS.iloadN X0.here hx rfl (hb hby d8_63) rfl ?_
    show Steps p.tables e below (s₁.setTop (mkF m 64 #[.val (.ref w_FOR_GOOD), .val (.int (0 : Int32)), .val (.int (0 : Int32))] [(.int (0 : Int32))])) _
    exact Jvm.RoadKit.retI X0 hx Bd.returns (hb hby d8_64) hr
  · exact ⟨rfl, N0, e0⟩
set_option maxRecDepth 65536 in
set_option maxHeartbeats 40000000 in
theorem qA {p : Program} {l : Launch} {e : Env} {s : State} {m : MethodId} {args : Array Value} {below : List Frame} {meth : Method} {c : Code} {T0 : State} {locs : List Loc} {Z : State} {a0 : Array Value} {h0 : Heap} {n0 : Nat} (p1 : Int32) (p2 : Int32) (p3 : Int32) (p4 : Int32) (p5 : Int32)
    (X0 : Stand p l e room_1 s m args below meth c T0 locs 0 0) (hx : p.tables.exec = Jvm.exec) (hZ : Z.Warmed39 s.vm) (hw : ∀ d ∈ tables_1, d.before a0 Z = true) (hby : c.code = code) (hml : c.maxLocals = 29) (hown : s.vm.findClass "com/example/caprice/caprice/solver/DomainsGatherReasonsPinLaw" = some m.cls) (e0 : T0.heap = h0) (N0 : Fr n0 locs) (O0 : Old Z n0 h0) :
    ∃ (T' : State) (locs' : List Loc), Stand p l e room_1 s m args below meth c T' locs' 0 0 ∧ Fr n0 locs' ∧ T'.heap = h0 ∧ ∀ t, Steps p.tables e below (T'.setTop (mkF m 76 #[.val (.int p1), .val (.int p2), .val (.int p3), .val (.int p4), .val (.int p5), .val (.int ((p1 &&& (7 : Int32)) % (5 : Int32))), .val (.int (((p1.toUInt32 >>> ((3 : Int32) &&& 31).toUInt32).toInt32) &&& (3 : Int32))), .val (.int (((p1.toUInt32 >>> ((5 : Int32) &&& 31).toUInt32).toInt32) &&& (3 : Int32))), .val (.int (((p1.toUInt32 >>> ((7 : Int32) &&& 31).toUInt32).toInt32) &&& (3 : Int32))), .val (.int (((p1.toUInt32 >>> ((9 : Int32) &&& 31).toUInt32).toInt32) &&& (3 : Int32))), .val (.int ((p2 &&& (7 : Int32)) % (5 : Int32))), .val (.int (((p2.toUInt32 >>> ((3 : Int32) &&& 31).toUInt32).toInt32) &&& (3 : Int32))), .val (.int (((p2.toUInt32 >>> ((5 : Int32) &&& 31).toUInt32).toInt32) &&& (3 : Int32))), .val (.int (((p2.toUInt32 >>> ((7 : Int32) &&& 31).toUInt32).toInt32) &&& (3 : Int32))), .val (.int (((p2.toUInt32 >>> ((9 : Int32) &&& 31).toUInt32).toInt32) &&& (3 : Int32))), .unset, .unset, .unset, .unset, .unset, .unset, .unset, .unset, .unset, .unset, .unset, .unset, .unset, .unset] [])) t → Steps p.tables e below (T0.setTop (mkF m 0 #[.val (.int p1), .val (.int p2), .val (.int p3), .val (.int p4), .val (.int p5), .unset, .unset, .unset, .unset, .unset, .unset, .unset, .unset, .unset, .unset, .unset, .unset, .unset, .unset, .unset, .unset, .unset, .unset, .unset, .unset, .unset, .unset, .unset, .unset] [])) t := by
  refine ⟨T0, _, X0, N0, e0, fun t kt => ?_⟩
  show Steps p.tables e below (T0.setTop (mkF m 0 #[.val (.int p1), .val (.int p2), .val (.int p3), .val (.int p4), .val (.int p5), .unset, .unset, .unset, .unset, .unset, .unset, .unset, .unset, .unset, .unset, .unset, .unset, .unset, .unset, .unset, .unset, .unset, .unset, .unset, .unset, .unset, .unset, .unset, .unset] [])) _
  refine XS.iloadN X0.here hx rfl (hb hby at_0) rfl ?_
  show Steps p.tables e below (T0.setTop (mkF m 1 #[.val (.int p1), .val (.int p2), .val (.int p3), .val (.int p4), .val (.int p5), .unset, .unset, .unset, .unset, .unset, .unset, .unset, .unset, .unset, .unset, .unset, .unset, .unset, .unset, .unset, .unset, .unset, .unset, .unset, .unset, .unset, .unset, .unset, .unset] [(.int p1)])) _
  refine XS.bipush X0.here hx rfl (hb hby at_1) ?_
  show Steps p.tables e below (T0.setTop (mkF m 3 #[.val (.int p1), .val (.int p2), .val (.int p3), .val (.int p4), .val (.int p5), .unset, .unset, .unset, .unset, .unset, .unset, .unset, .unset, .unset, .unset, .unset, .unset, .unset, .unset, .unset, .unset, .unset, .unset, .unset, .unset, .unset, .unset, .unset, .unset] [(.int (7 : Int32)), (.int p1)])) _
  refine XS.iand X0.here hx rfl (hb hby at_3) rfl ?_
  show Steps p.tables e below (T0.setTop (mkF m 4 #[.val (.int p1), .val (.int p2), .val (.int p3), .val (.int p4), .val (.int p5), .unset, .unset, .unset, .unset, .unset, .unset, .unset, .unset, .unset, .unset, .unset, .unset, .unset, .unset, .unset, .unset, .unset, .unset, .unset, .unset, .unset, .unset, .unset, .unset] [(.int (p1 &&& (7 : Int32)))])) _
  refine XS.iconst X0.here hx rfl (hb hby at_4) ?_
  show Steps p.tables e below (T0.setTop (mkF m 5 #[.val (.int p1), .val (.int p2), .val (.int p3), .val (.int p4), .val (.int p5), .unset, .unset, .unset, .unset, .unset, .unset, .unset, .unset, .unset, .unset, .unset, .unset, .unset, .unset, .unset, .unset, .unset, .unset, .unset, .unset, .unset, .unset, .unset, .unset] [(.int (5 : Int32)), (.int (p1 &&& (7 : Int32)))])) _
  refine iremM X0 hx rfl (hb hby at_5) rfl (by decide) ?_
  show Steps p.tables e below (T0.setTop (mkF m 6 #[.val (.int p1), .val (.int p2), .val (.int p3), .val (.int p4), .val (.int p5), .unset, .unset, .unset, .unset, .unset, .unset, .unset, .unset, .unset, .unset, .unset, .unset, .unset, .unset, .unset, .unset, .unset, .unset, .unset, .unset, .unset, .unset, .unset, .unset] [(.int ((p1 &&& (7 : Int32)) % (5 : Int32)))])) _
  refine XS.istore X0.here hx rfl (hb hby at_6) rfl (l' := #[.val (.int p1), .val (.int p2), .val (.int p3), .val (.int p4), .val (.int p5), .val (.int ((p1 &&& (7 : Int32)) % (5 : Int32))), .unset, .unset, .unset, .unset, .unset, .unset, .unset, .unset, .unset, .unset, .unset, .unset, .unset, .unset, .unset, .unset, .unset, .unset, .unset, .unset, .unset, .unset, .unset]) rfl ?_
  show Steps p.tables e below (T0.setTop (mkF m 8 #[.val (.int p1), .val (.int p2), .val (.int p3), .val (.int p4), .val (.int p5), .val (.int ((p1 &&& (7 : Int32)) % (5 : Int32))), .unset, .unset, .unset, .unset, .unset, .unset, .unset, .unset, .unset, .unset, .unset, .unset, .unset, .unset, .unset, .unset, .unset, .unset, .unset, .unset, .unset, .unset, .unset] [])) _
  refine XS.iloadN X0.here hx rfl (hb hby at_8) rfl ?_
  show Steps p.tables e below (T0.setTop (mkF m 9 #[.val (.int p1), .val (.int p2), .val (.int p3), .val (.int p4), .val (.int p5), .val (.int ((p1 &&& (7 : Int32)) % (5 : Int32))), .unset, .unset, .unset, .unset, .unset, .unset, .unset, .unset, .unset, .unset, .unset, .unset, .unset, .unset, .unset, .unset, .unset, .unset, .unset, .unset, .unset, .unset, .unset] [(.int p1)])) _
  refine XS.iconst X0.here hx rfl (hb hby at_9) ?_
  show Steps p.tables e below (T0.setTop (mkF m 10 #[.val (.int p1), .val (.int p2), .val (.int p3), .val (.int p4), .val (.int p5), .val (.int ((p1 &&& (7 : Int32)) % (5 : Int32))), .unset, .unset, .unset, .unset, .unset, .unset, .unset, .unset, .unset, .unset, .unset, .unset, .unset, .unset, .unset, .unset, .unset, .unset, .unset, .unset, .unset, .unset, .unset] [(.int (3 : Int32)), (.int p1)])) _
  refine XS.iushr X0.here hx rfl (hb hby at_10) rfl ?_
  show Steps p.tables e below (T0.setTop (mkF m 11 #[.val (.int p1), .val (.int p2), .val (.int p3), .val (.int p4), .val (.int p5), .val (.int ((p1 &&& (7 : Int32)) % (5 : Int32))), .unset, .unset, .unset, .unset, .unset, .unset, .unset, .unset, .unset, .unset, .unset, .unset, .unset, .unset, .unset, .unset, .unset, .unset, .unset, .unset, .unset, .unset, .unset] [(.int ((p1.toUInt32 >>> ((3 : Int32) &&& 31).toUInt32).toInt32))])) _
  refine XS.iconst X0.here hx rfl (hb hby at_11) ?_
  show Steps p.tables e below (T0.setTop (mkF m 12 #[.val (.int p1), .val (.int p2), .val (.int p3), .val (.int p4), .val (.int p5), .val (.int ((p1 &&& (7 : Int32)) % (5 : Int32))), .unset, .unset, .unset, .unset, .unset, .unset, .unset, .unset, .unset, .unset, .unset, .unset, .unset, .unset, .unset, .unset, .unset, .unset, .unset, .unset, .unset, .unset, .unset] [(.int (3 : Int32)), (.int ((p1.toUInt32 >>> ((3 : Int32) &&& 31).toUInt32).toInt32))])) _
  refine XS.iand X0.here hx rfl (hb hby at_12) rfl ?_
  show Steps p.tables e below (T0.setTop (mkF m 13 #[.val (.int p1), .val (.int p2), .val (.int p3), .val (.int p4), .val (.int p5), .val (.int ((p1 &&& (7 : Int32)) % (5 : Int32))), .unset, .unset, .unset, .unset, .unset, .unset, .unset, .unset, .unset, .unset, .unset, .unset, .unset, .unset, .unset, .unset, .unset, .unset, .unset, .unset, .unset, .unset, .unset] [(.int (((p1.toUInt32 >>> ((3 : Int32) &&& 31).toUInt32).toInt32) &&& (3 : Int32)))])) _
  refine XS.istore X0.here hx rfl (hb hby at_13) rfl (l' := #[.val (.int p1), .val (.int p2), .val (.int p3), .val (.int p4), .val (.int p5), .val (.int ((p1 &&& (7 : Int32)) % (5 : Int32))), .val (.int (((p1.toUInt32 >>> ((3 : Int32) &&& 31).toUInt32).toInt32) &&& (3 : Int32))), .unset, .unset, .unset, .unset, .unset, .unset, .unset, .unset, .unset, .unset, .unset, .unset, .unset, .unset, .unset, .unset, .unset, .unset, .unset, .unset, .unset, .unset]) rfl ?_
  show Steps p.tables e below (T0.setTop (mkF m 15 #[.val (.int p1), .val (.int p2), .val (.int p3), .val (.int p4), .val (.int p5), .val (.int ((p1 &&& (7 : Int32)) % (5 : Int32))), .val (.int (((p1.toUInt32 >>> ((3 : Int32) &&& 31).toUInt32).toInt32) &&& (3 : Int32))), .unset, .unset, .unset, .unset, .unset, .unset, .unset, .unset, .unset, .unset, .unset, .unset, .unset, .unset, .unset, .unset, .unset, .unset, .unset, .unset, .unset, .unset] [])) _
  refine XS.iloadN X0.here hx rfl (hb hby at_15) rfl ?_
  show Steps p.tables e below (T0.setTop (mkF m 16 #[.val (.int p1), .val (.int p2), .val (.int p3), .val (.int p4), .val (.int p5), .val (.int ((p1 &&& (7 : Int32)) % (5 : Int32))), .val (.int (((p1.toUInt32 >>> ((3 : Int32) &&& 31).toUInt32).toInt32) &&& (3 : Int32))), .unset, .unset, .unset, .unset, .unset, .unset, .unset, .unset, .unset, .unset, .unset, .unset, .unset, .unset, .unset, .unset, .unset, .unset, .unset, .unset, .unset, .unset] [(.int p1)])) _
  refine XS.iconst X0.here hx rfl (hb hby at_16) ?_
  show Steps p.tables e below (T0.setTop (mkF m 17 #[.val (.int p1), .val (.int p2), .val (.int p3), .val (.int p4), .val (.int p5), .val (.int ((p1 &&& (7 : Int32)) % (5 : Int32))), .val (.int (((p1.toUInt32 >>> ((3 : Int32) &&& 31).toUInt32).toInt32) &&& (3 : Int32))), .unset, .unset, .unset, .unset, .unset, .unset, .unset, .unset, .unset, .unset, .unset, .unset, .unset, .unset, .unset, .unset, .unset, .unset, .unset, .unset, .unset, .unset] [(.int (5 : Int32)), (.int p1)])) _
  refine XS.iushr X0.here hx rfl (hb hby at_17) rfl ?_
  show Steps p.tables e below (T0.setTop (mkF m 18 #[.val (.int p1), .val (.int p2), .val (.int p3), .val (.int p4), .val (.int p5), .val (.int ((p1 &&& (7 : Int32)) % (5 : Int32))), .val (.int (((p1.toUInt32 >>> ((3 : Int32) &&& 31).toUInt32).toInt32) &&& (3 : Int32))), .unset, .unset, .unset, .unset, .unset, .unset, .unset, .unset, .unset, .unset, .unset, .unset, .unset, .unset, .unset, .unset, .unset, .unset, .unset, .unset, .unset, .unset] [(.int ((p1.toUInt32 >>> ((5 : Int32) &&& 31).toUInt32).toInt32))])) _
  refine XS.iconst X0.here hx rfl (hb hby at_18) ?_
  show Steps p.tables e below (T0.setTop (mkF m 19 #[.val (.int p1), .val (.int p2), .val (.int p3), .val (.int p4), .val (.int p5), .val (.int ((p1 &&& (7 : Int32)) % (5 : Int32))), .val (.int (((p1.toUInt32 >>> ((3 : Int32) &&& 31).toUInt32).toInt32) &&& (3 : Int32))), .unset, .unset, .unset, .unset, .unset, .unset, .unset, .unset, .unset, .unset, .unset, .unset, .unset, .unset, .unset, .unset, .unset, .unset, .unset, .unset, .unset, .unset] [(.int (3 : Int32)), (.int ((p1.toUInt32 >>> ((5 : Int32) &&& 31).toUInt32).toInt32))])) _
  refine XS.iand X0.here hx rfl (hb hby at_19) rfl ?_
  show Steps p.tables e below (T0.setTop (mkF m 20 #[.val (.int p1), .val (.int p2), .val (.int p3), .val (.int p4), .val (.int p5), .val (.int ((p1 &&& (7 : Int32)) % (5 : Int32))), .val (.int (((p1.toUInt32 >>> ((3 : Int32) &&& 31).toUInt32).toInt32) &&& (3 : Int32))), .unset, .unset, .unset, .unset, .unset, .unset, .unset, .unset, .unset, .unset, .unset, .unset, .unset, .unset, .unset, .unset, .unset, .unset, .unset, .unset, .unset, .unset] [(.int (((p1.toUInt32 >>> ((5 : Int32) &&& 31).toUInt32).toInt32) &&& (3 : Int32)))])) _
  refine XS.istore X0.here hx rfl (hb hby at_20) rfl (l' := #[.val (.int p1), .val (.int p2), .val (.int p3), .val (.int p4), .val (.int p5), .val (.int ((p1 &&& (7 : Int32)) % (5 : Int32))), .val (.int (((p1.toUInt32 >>> ((3 : Int32) &&& 31).toUInt32).toInt32) &&& (3 : Int32))), .val (.int (((p1.toUInt32 >>> ((5 : Int32) &&& 31).toUInt32).toInt32) &&& (3 : Int32))), .unset, .unset, .unset, .unset, .unset, .unset, .unset, .unset, .unset, .unset, .unset, .unset, .unset, .unset, .unset, .unset, .unset, .unset, .unset, .unset, .unset]) rfl ?_
  show Steps p.tables e below (T0.setTop (mkF m 22 #[.val (.int p1), .val (.int p2), .val (.int p3), .val (.int p4), .val (.int p5), .val (.int ((p1 &&& (7 : Int32)) % (5 : Int32))), .val (.int (((p1.toUInt32 >>> ((3 : Int32) &&& 31).toUInt32).toInt32) &&& (3 : Int32))), .val (.int (((p1.toUInt32 >>> ((5 : Int32) &&& 31).toUInt32).toInt32) &&& (3 : Int32))), .unset, .unset, .unset, .unset, .unset, .unset, .unset, .unset, .unset, .unset, .unset, .unset, .unset, .unset, .unset, .unset, .unset, .unset, .unset, .unset, .unset] [])) _
  refine XS.iloadN X0.here hx rfl (hb hby at_22) rfl ?_
  show Steps p.tables e below (T0.setTop (mkF m 23 #[.val (.int p1), .val (.int p2), .val (.int p3), .val (.int p4), .val (.int p5), .val (.int ((p1 &&& (7 : Int32)) % (5 : Int32))), .val (.int (((p1.toUInt32 >>> ((3 : Int32) &&& 31).toUInt32).toInt32) &&& (3 : Int32))), .val (.int (((p1.toUInt32 >>> ((5 : Int32) &&& 31).toUInt32).toInt32) &&& (3 : Int32))), .unset, .unset, .unset, .unset, .unset, .unset, .unset, .unset, .unset, .unset, .unset, .unset, .unset, .unset, .unset, .unset, .unset, .unset, .unset, .unset, .unset] [(.int p1)])) _
  refine XS.bipush X0.here hx rfl (hb hby at_23) ?_
  show Steps p.tables e below (T0.setTop (mkF m 25 #[.val (.int p1), .val (.int p2), .val (.int p3), .val (.int p4), .val (.int p5), .val (.int ((p1 &&& (7 : Int32)) % (5 : Int32))), .val (.int (((p1.toUInt32 >>> ((3 : Int32) &&& 31).toUInt32).toInt32) &&& (3 : Int32))), .val (.int (((p1.toUInt32 >>> ((5 : Int32) &&& 31).toUInt32).toInt32) &&& (3 : Int32))), .unset, .unset, .unset, .unset, .unset, .unset, .unset, .unset, .unset, .unset, .unset, .unset, .unset, .unset, .unset, .unset, .unset, .unset, .unset, .unset, .unset] [(.int (7 : Int32)), (.int p1)])) _
  refine XS.iushr X0.here hx rfl (hb hby at_25) rfl ?_
  show Steps p.tables e below (T0.setTop (mkF m 26 #[.val (.int p1), .val (.int p2), .val (.int p3), .val (.int p4), .val (.int p5), .val (.int ((p1 &&& (7 : Int32)) % (5 : Int32))), .val (.int (((p1.toUInt32 >>> ((3 : Int32) &&& 31).toUInt32).toInt32) &&& (3 : Int32))), .val (.int (((p1.toUInt32 >>> ((5 : Int32) &&& 31).toUInt32).toInt32) &&& (3 : Int32))), .unset, .unset, .unset, .unset, .unset, .unset, .unset, .unset, .unset, .unset, .unset, .unset, .unset, .unset, .unset, .unset, .unset, .unset, .unset, .unset, .unset] [(.int ((p1.toUInt32 >>> ((7 : Int32) &&& 31).toUInt32).toInt32))])) _
  refine XS.iconst X0.here hx rfl (hb hby at_26) ?_
  show Steps p.tables e below (T0.setTop (mkF m 27 #[.val (.int p1), .val (.int p2), .val (.int p3), .val (.int p4), .val (.int p5), .val (.int ((p1 &&& (7 : Int32)) % (5 : Int32))), .val (.int (((p1.toUInt32 >>> ((3 : Int32) &&& 31).toUInt32).toInt32) &&& (3 : Int32))), .val (.int (((p1.toUInt32 >>> ((5 : Int32) &&& 31).toUInt32).toInt32) &&& (3 : Int32))), .unset, .unset, .unset, .unset, .unset, .unset, .unset, .unset, .unset, .unset, .unset, .unset, .unset, .unset, .unset, .unset, .unset, .unset, .unset, .unset, .unset] [(.int (3 : Int32)), (.int ((p1.toUInt32 >>> ((7 : Int32) &&& 31).toUInt32).toInt32))])) _
  refine XS.iand X0.here hx rfl (hb hby at_27) rfl ?_
  show Steps p.tables e below (T0.setTop (mkF m 28 #[.val (.int p1), .val (.int p2), .val (.int p3), .val (.int p4), .val (.int p5), .val (.int ((p1 &&& (7 : Int32)) % (5 : Int32))), .val (.int (((p1.toUInt32 >>> ((3 : Int32) &&& 31).toUInt32).toInt32) &&& (3 : Int32))), .val (.int (((p1.toUInt32 >>> ((5 : Int32) &&& 31).toUInt32).toInt32) &&& (3 : Int32))), .unset, .unset, .unset, .unset, .unset, .unset, .unset, .unset, .unset, .unset, .unset, .unset, .unset, .unset, .unset, .unset, .unset, .unset, .unset, .unset, .unset] [(.int (((p1.toUInt32 >>> ((7 : Int32) &&& 31).toUInt32).toInt32) &&& (3 : Int32)))])) _
  refine XS.istore X0.here hx rfl (hb hby at_28) rfl (l' := #[.val (.int p1), .val (.int p2), .val (.int p3), .val (.int p4), .val (.int p5), .val (.int ((p1 &&& (7 : Int32)) % (5 : Int32))), .val (.int (((p1.toUInt32 >>> ((3 : Int32) &&& 31).toUInt32).toInt32) &&& (3 : Int32))), .val (.int (((p1.toUInt32 >>> ((5 : Int32) &&& 31).toUInt32).toInt32) &&& (3 : Int32))), .val (.int (((p1.toUInt32 >>> ((7 : Int32) &&& 31).toUInt32).toInt32) &&& (3 : Int32))), .unset, .unset, .unset, .unset, .unset, .unset, .unset, .unset, .unset, .unset, .unset, .unset, .unset, .unset, .unset, .unset, .unset, .unset, .unset, .unset]) rfl ?_
  show Steps p.tables e below (T0.setTop (mkF m 30 #[.val (.int p1), .val (.int p2), .val (.int p3), .val (.int p4), .val (.int p5), .val (.int ((p1 &&& (7 : Int32)) % (5 : Int32))), .val (.int (((p1.toUInt32 >>> ((3 : Int32) &&& 31).toUInt32).toInt32) &&& (3 : Int32))), .val (.int (((p1.toUInt32 >>> ((5 : Int32) &&& 31).toUInt32).toInt32) &&& (3 : Int32))), .val (.int (((p1.toUInt32 >>> ((7 : Int32) &&& 31).toUInt32).toInt32) &&& (3 : Int32))), .unset, .unset, .unset, .unset, .unset, .unset, .unset, .unset, .unset, .unset, .unset, .unset, .unset, .unset, .unset, .unset, .unset, .unset, .unset, .unset] [])) _
  refine XS.iloadN X0.here hx rfl (hb hby at_30) rfl ?_
  show Steps p.tables e below (T0.setTop (mkF m 31 #[.val (.int p1), .val (.int p2), .val (.int p3), .val (.int p4), .val (.int p5), .val (.int ((p1 &&& (7 : Int32)) % (5 : Int32))), .val (.int (((p1.toUInt32 >>> ((3 : Int32) &&& 31).toUInt32).toInt32) &&& (3 : Int32))), .val (.int (((p1.toUInt32 >>> ((5 : Int32) &&& 31).toUInt32).toInt32) &&& (3 : Int32))), .val (.int (((p1.toUInt32 >>> ((7 : Int32) &&& 31).toUInt32).toInt32) &&& (3 : Int32))), .unset, .unset, .unset, .unset, .unset, .unset, .unset, .unset, .unset, .unset, .unset, .unset, .unset, .unset, .unset, .unset, .unset, .unset, .unset, .unset] [(.int p1)])) _
  refine XS.bipush X0.here hx rfl (hb hby at_31) ?_
  show Steps p.tables e below (T0.setTop (mkF m 33 #[.val (.int p1), .val (.int p2), .val (.int p3), .val (.int p4), .val (.int p5), .val (.int ((p1 &&& (7 : Int32)) % (5 : Int32))), .val (.int (((p1.toUInt32 >>> ((3 : Int32) &&& 31).toUInt32).toInt32) &&& (3 : Int32))), .val (.int (((p1.toUInt32 >>> ((5 : Int32) &&& 31).toUInt32).toInt32) &&& (3 : Int32))), .val (.int (((p1.toUInt32 >>> ((7 : Int32) &&& 31).toUInt32).toInt32) &&& (3 : Int32))), .unset, .unset, .unset, .unset, .unset, .unset, .unset, .unset, .unset, .unset, .unset, .unset, .unset, .unset, .unset, .unset, .unset, .unset, .unset, .unset] [(.int (9 : Int32)), (.int p1)])) _
  refine XS.iushr X0.here hx rfl (hb hby at_33) rfl ?_
  show Steps p.tables e below (T0.setTop (mkF m 34 #[.val (.int p1), .val (.int p2), .val (.int p3), .val (.int p4), .val (.int p5), .val (.int ((p1 &&& (7 : Int32)) % (5 : Int32))), .val (.int (((p1.toUInt32 >>> ((3 : Int32) &&& 31).toUInt32).toInt32) &&& (3 : Int32))), .val (.int (((p1.toUInt32 >>> ((5 : Int32) &&& 31).toUInt32).toInt32) &&& (3 : Int32))), .val (.int (((p1.toUInt32 >>> ((7 : Int32) &&& 31).toUInt32).toInt32) &&& (3 : Int32))), .unset, .unset, .unset, .unset, .unset, .unset, .unset, .unset, .unset, .unset, .unset, .unset, .unset, .unset, .unset, .unset, .unset, .unset, .unset, .unset] [(.int ((p1.toUInt32 >>> ((9 : Int32) &&& 31).toUInt32).toInt32))])) _
  refine XS.iconst X0.here hx rfl (hb hby at_34) ?_
  show Steps p.tables e below (T0.setTop (mkF m 35 #[.val (.int p1), .val (.int p2), .val (.int p3), .val (.int p4), .val (.int p5), .val (.int ((p1 &&& (7 : Int32)) % (5 : Int32))), .val (.int (((p1.toUInt32 >>> ((3 : Int32) &&& 31).toUInt32).toInt32) &&& (3 : Int32))), .val (.int (((p1.toUInt32 >>> ((5 : Int32) &&& 31).toUInt32).toInt32) &&& (3 : Int32))), .val (.int (((p1.toUInt32 >>> ((7 : Int32) &&& 31).toUInt32).toInt32) &&& (3 : Int32))), .unset, .unset, .unset, .unset, .unset, .unset, .unset, .unset, .unset, .unset, .unset, .unset, .unset, .unset, .unset, .unset, .unset, .unset, .unset, .unset] [(.int (3 : Int32)), (.int ((p1.toUInt32 >>> ((9 : Int32) &&& 31).toUInt32).toInt32))])) _
  refine XS.iand X0.here hx rfl (hb hby at_35) rfl ?_
  show Steps p.tables e below (T0.setTop (mkF m 36 #[.val (.int p1), .val (.int p2), .val (.int p3), .val (.int p4), .val (.int p5), .val (.int ((p1 &&& (7 : Int32)) % (5 : Int32))), .val (.int (((p1.toUInt32 >>> ((3 : Int32) &&& 31).toUInt32).toInt32) &&& (3 : Int32))), .val (.int (((p1.toUInt32 >>> ((5 : Int32) &&& 31).toUInt32).toInt32) &&& (3 : Int32))), .val (.int (((p1.toUInt32 >>> ((7 : Int32) &&& 31).toUInt32).toInt32) &&& (3 : Int32))), .unset, .unset, .unset, .unset, .unset, .unset, .unset, .unset, .unset, .unset, .unset, .unset, .unset, .unset, .unset, .unset, .unset, .unset, .unset, .unset] [(.int (((p1.toUInt32 >>> ((9 : Int32) &&& 31).toUInt32).toInt32) &&& (3 : Int32)))])) _
  refine XS.istore X0.here hx rfl (hb hby at_36) rfl (l' := #[.val (.int p1), .val (.int p2), .val (.int p3), .val (.int p4), .val (.int p5), .val (.int ((p1 &&& (7 : Int32)) % (5 : Int32))), .val (.int (((p1.toUInt32 >>> ((3 : Int32) &&& 31).toUInt32).toInt32) &&& (3 : Int32))), .val (.int (((p1.toUInt32 >>> ((5 : Int32) &&& 31).toUInt32).toInt32) &&& (3 : Int32))), .val (.int (((p1.toUInt32 >>> ((7 : Int32) &&& 31).toUInt32).toInt32) &&& (3 : Int32))), .val (.int (((p1.toUInt32 >>> ((9 : Int32) &&& 31).toUInt32).toInt32) &&& (3 : Int32))), .unset, .unset, .unset, .unset, .unset, .unset, .unset, .unset, .unset, .unset, .unset, .unset, .unset, .unset, .unset, .unset, .unset, .unset, .unset]) rfl ?_
  show Steps p.tables e below (T0.setTop (mkF m 38 #[.val (.int p1), .val (.int p2), .val (.int p3), .val (.int p4), .val (.int p5), .val (.int ((p1 &&& (7 : Int32)) % (5 : Int32))), .val (.int (((p1.toUInt32 >>> ((3 : Int32) &&& 31).toUInt32).toInt32) &&& (3 : Int32))), .val (.int (((p1.toUInt32 >>> ((5 : Int32) &&& 31).toUInt32).toInt32) &&& (3 : Int32))), .val (.int (((p1.toUInt32 >>> ((7 : Int32) &&& 31).toUInt32).toInt32) &&& (3 : Int32))), .val (.int (((p1.toUInt32 >>> ((9 : Int32) &&& 31).toUInt32).toInt32) &&& (3 : Int32))), .unset, .unset, .unset, .unset, .unset, .unset, .unset, .unset, .unset, .unset, .unset, .unset, .unset, .unset, .unset, .unset, .unset, .unset, .unset] [])) _
  refine XS.iloadN X0.here hx rfl (hb hby at_38) rfl ?_
  show Steps p.tables e below (T0.setTop (mkF m 39 #[.val (.int p1), .val (.int p2), .val (.int p3), .val (.int p4), .val (.int p5), .val (.int ((p1 &&& (7 : Int32)) % (5 : Int32))), .val (.int (((p1.toUInt32 >>> ((3 : Int32) &&& 31).toUInt32).toInt32) &&& (3 : Int32))), .val (.int (((p1.toUInt32 >>> ((5 : Int32) &&& 31).toUInt32).toInt32) &&& (3 : Int32))), .val (.int (((p1.toUInt32 >>> ((7 : Int32) &&& 31).toUInt32).toInt32) &&& (3 : Int32))), .val (.int (((p1.toUInt32 >>> ((9 : Int32) &&& 31).toUInt32).toInt32) &&& (3 : Int32))), .unset, .unset, .unset, .unset, .unset, .unset, .unset, .unset, .unset, .unset, .unset, .unset, .unset, .unset, .unset, .unset, .unset, .unset, .unset] [(.int p2)])) _
  refine XS.bipush X0.here hx rfl (hb hby at_39) ?_
  show Steps p.tables e below (T0.setTop (mkF m 41 #[.val (.int p1), .val (.int p2), .val (.int p3), .val (.int p4), .val (.int p5), .val (.int ((p1 &&& (7 : Int32)) % (5 : Int32))), .val (.int (((p1.toUInt32 >>> ((3 : Int32) &&& 31).toUInt32).toInt32) &&& (3 : Int32))), .val (.int (((p1.toUInt32 >>> ((5 : Int32) &&& 31).toUInt32).toInt32) &&& (3 : Int32))), .val (.int (((p1.toUInt32 >>> ((7 : Int32) &&& 31).toUInt32).toInt32) &&& (3 : Int32))), .val (.int (((p1.toUInt32 >>> ((9 : Int32) &&& 31).toUInt32).toInt32) &&& (3 : Int32))), .unset, .unset, .unset, .unset, .unset, .unset, .unset, .unset, .unset, .unset, .unset, .unset, .unset, .unset, .unset, .unset, .unset, .unset, .unset] [(.int (7 : Int32)), (.int p2)])) _
  refine XS.iand X0.here hx rfl (hb hby at_41) rfl ?_
  show Steps p.tables e below (T0.setTop (mkF m 42 #[.val (.int p1), .val (.int p2), .val (.int p3), .val (.int p4), .val (.int p5), .val (.int ((p1 &&& (7 : Int32)) % (5 : Int32))), .val (.int (((p1.toUInt32 >>> ((3 : Int32) &&& 31).toUInt32).toInt32) &&& (3 : Int32))), .val (.int (((p1.toUInt32 >>> ((5 : Int32) &&& 31).toUInt32).toInt32) &&& (3 : Int32))), .val (.int (((p1.toUInt32 >>> ((7 : Int32) &&& 31).toUInt32).toInt32) &&& (3 : Int32))), .val (.int (((p1.toUInt32 >>> ((9 : Int32) &&& 31).toUInt32).toInt32) &&& (3 : Int32))), .unset, .unset, .unset, .unset, .unset, .unset, .unset, .unset, .unset, .unset, .unset, .unset, .unset, .unset, .unset, .unset, .unset, .unset, .unset] [(.int (p2 &&& (7 : Int32)))])) _
  refine XS.iconst X0.here hx rfl (hb hby at_42) ?_
  show Steps p.tables e below (T0.setTop (mkF m 43 #[.val (.int p1), .val (.int p2), .val (.int p3), .val (.int p4), .val (.int p5), .val (.int ((p1 &&& (7 : Int32)) % (5 : Int32))), .val (.int (((p1.toUInt32 >>> ((3 : Int32) &&& 31).toUInt32).toInt32) &&& (3 : Int32))), .val (.int (((p1.toUInt32 >>> ((5 : Int32) &&& 31).toUInt32).toInt32) &&& (3 : Int32))), .val (.int (((p1.toUInt32 >>> ((7 : Int32) &&& 31).toUInt32).toInt32) &&& (3 : Int32))), .val (.int (((p1.toUInt32 >>> ((9 : Int32) &&& 31).toUInt32).toInt32) &&& (3 : Int32))), .unset, .unset, .unset, .unset, .unset, .unset, .unset, .unset, .unset, .unset, .unset, .unset, .unset, .unset, .unset, .unset, .unset, .unset, .unset] [(.int (5 : Int32)), (.int (p2 &&& (7 : Int32)))])) _
  refine iremM X0 hx rfl (hb hby at_43) rfl (by decide) ?_
  show Steps p.tables e below (T0.setTop (mkF m 44 #[.val (.int p1), .val (.int p2), .val (.int p3), .val (.int p4), .val (.int p5), .val (.int ((p1 &&& (7 : Int32)) % (5 : Int32))), .val (.int (((p1.toUInt32 >>> ((3 : Int32) &&& 31).toUInt32).toInt32) &&& (3 : Int32))), .val (.int (((p1.toUInt32 >>> ((5 : Int32) &&& 31).toUInt32).toInt32) &&& (3 : Int32))), .val (.int (((p1.toUInt32 >>> ((7 : Int32) &&& 31).toUInt32).toInt32) &&& (3 : Int32))), .val (.int (((p1.toUInt32 >>> ((9 : Int32) &&& 31).toUInt32).toInt32) &&& (3 : Int32))), .unset, .unset, .unset, .unset, .unset, .unset, .unset, .unset, .unset, .unset, .unset, .unset, .unset, .unset, .unset, .unset, .unset, .unset, .unset] [(.int ((p2 &&& (7 : Int32)) % (5 : Int32)))])) _
  refine XS.istore X0.here hx rfl (hb hby at_44) rfl (l' := #[.val (.int p1), .val (.int p2), .val (.int p3), .val (.int p4), .val (.int p5), .val (.int ((p1 &&& (7 : Int32)) % (5 : Int32))), .val (.int (((p1.toUInt32 >>> ((3 : Int32) &&& 31).toUInt32).toInt32) &&& (3 : Int32))), .val (.int (((p1.toUInt32 >>> ((5 : Int32) &&& 31).toUInt32).toInt32) &&& (3 : Int32))), .val (.int (((p1.toUInt32 >>> ((7 : Int32) &&& 31).toUInt32).toInt32) &&& (3 : Int32))), .val (.int (((p1.toUInt32 >>> ((9 : Int32) &&& 31).toUInt32).toInt32) &&& (3 : Int32))), .val (.int ((p2 &&& (7 : Int32)) % (5 : Int32))), .unset, .unset, .unset, .unset, .unset, .unset, .unset, .unset, .unset, .unset, .unset, .unset, .unset, .unset, .unset, .unset, .unset, .unset]) rfl ?_
  show Steps p.tables e below (T0.setTop (mkF m 46 #[.val (.int p1), .val (.int p2), .val (.int p3), .val (.int p4), .val (.int p5), .val (.int ((p1 &&& (7 : Int32)) % (5 : Int32))), .val (.int (((p1.toUInt32 >>> ((3 : Int32) &&& 31).toUInt32).toInt32) &&& (3 : Int32))), .val (.int (((p1.toUInt32 >>> ((5 : Int32) &&& 31).toUInt32).toInt32) &&& (3 : Int32))), .val (.int (((p1.toUInt32 >>> ((7 : Int32) &&& 31).toUInt32).toInt32) &&& (3 : Int32))), .val (.int (((p1.toUInt32 >>> ((9 : Int32) &&& 31).toUInt32).toInt32) &&& (3 : Int32))), .val (.int ((p2 &&& (7 : Int32)) % (5 : Int32))), .unset, .unset, .unset, .unset, .unset, .unset, .unset, .unset, .unset, .unset, .unset, .unset, .unset, .unset, .unset, .unset, .unset, .unset] [])) _
  refine XS.iloadN X0.here hx rfl (hb hby at_46) rfl ?_
  show Steps p.tables e below (T0.setTop (mkF m 47 #[.val (.int p1), .val (.int p2), .val (.int p3), .val (.int p4), .val (.int p5), .val (.int ((p1 &&& (7 : Int32)) % (5 : Int32))), .val (.int (((p1.toUInt32 >>> ((3 : Int32) &&& 31).toUInt32).toInt32) &&& (3 : Int32))), .val (.int (((p1.toUInt32 >>> ((5 : Int32) &&& 31).toUInt32).toInt32) &&& (3 : Int32))), .val (.int (((p1.toUInt32 >>> ((7 : Int32) &&& 31).toUInt32).toInt32) &&& (3 : Int32))), .val (.int (((p1.toUInt32 >>> ((9 : Int32) &&& 31).toUInt32).toInt32) &&& (3 : Int32))), .val (.int ((p2 &&& (7 : Int32)) % (5 : Int32))), .unset, .unset, .unset, .unset, .unset, .unset, .unset, .unset, .unset, .unset, .unset, .unset, .unset, .unset, .unset, .unset, .unset, .unset] [(.int p2)])) _
  refine XS.iconst X0.here hx rfl (hb hby at_47) ?_
  show Steps p.tables e below (T0.setTop (mkF m 48 #[.val (.int p1), .val (.int p2), .val (.int p3), .val (.int p4), .val (.int p5), .val (.int ((p1 &&& (7 : Int32)) % (5 : Int32))), .val (.int (((p1.toUInt32 >>> ((3 : Int32) &&& 31).toUInt32).toInt32) &&& (3 : Int32))), .val (.int (((p1.toUInt32 >>> ((5 : Int32) &&& 31).toUInt32).toInt32) &&& (3 : Int32))), .val (.int (((p1.toUInt32 >>> ((7 : Int32) &&& 31).toUInt32).toInt32) &&& (3 : Int32))), .val (.int (((p1.toUInt32 >>> ((9 : Int32) &&& 31).toUInt32).toInt32) &&& (3 : Int32))), .val (.int ((p2 &&& (7 : Int32)) % (5 : Int32))), .unset, .unset, .unset, .unset, .unset, .unset, .unset, .unset, .unset, .unset, .unset, .unset, .unset, .unset, .unset, .unset, .unset, .unset] [(.int (3 : Int32)), (.int p2)])) _
  refine XS.iushr X0.here hx rfl (hb hby at_48) rfl ?_
  show Steps p.tables e below (T0.setTop (mkF m 49 #[.val (.int p1), .val (.int p2), .val (.int p3), .val (.int p4), .val (.int p5), .val (.int ((p1 &&& (7 : Int32)) % (5 : Int32))), .val (.int (((p1.toUInt32 >>> ((3 : Int32) &&& 31).toUInt32).toInt32) &&& (3 : Int32))), .val (.int (((p1.toUInt32 >>> ((5 : Int32) &&& 31).toUInt32).toInt32) &&& (3 : Int32))), .val (.int (((p1.toUInt32 >>> ((7 : Int32) &&& 31).toUInt32).toInt32) &&& (3 : Int32))), .val (.int (((p1.toUInt32 >>> ((9 : Int32) &&& 31).toUInt32).toInt32) &&& (3 : Int32))), .val (.int ((p2 &&& (7 : Int32)) % (5 : Int32))), .unset, .unset, .unset, .unset, .unset, .unset, .unset, .unset, .unset, .unset, .unset, .unset, .unset, .unset, .unset, .unset, .unset, .unset] [(.int ((p2.toUInt32 >>> ((3 : Int32) &&& 31).toUInt32).toInt32))])) _
  refine XS.iconst X0.here hx rfl (hb hby at_49) ?_
  show Steps p.tables e below (T0.setTop (mkF m 50 #[.val (.int p1), .val (.int p2), .val (.int p3), .val (.int p4), .val (.int p5), .val (.int ((p1 &&& (7 : Int32)) % (5 : Int32))), .val (.int (((p1.toUInt32 >>> ((3 : Int32) &&& 31).toUInt32).toInt32) &&& (3 : Int32))), .val (.int (((p1.toUInt32 >>> ((5 : Int32) &&& 31).toUInt32).toInt32) &&& (3 : Int32))), .val (.int (((p1.toUInt32 >>> ((7 : Int32) &&& 31).toUInt32).toInt32) &&& (3 : Int32))), .val (.int (((p1.toUInt32 >>> ((9 : Int32) &&& 31).toUInt32).toInt32) &&& (3 : Int32))), .val (.int ((p2 &&& (7 : Int32)) % (5 : Int32))), .unset, .unset, .unset, .unset, .unset, .unset, .unset, .unset, .unset, .unset, .unset, .unset, .unset, .unset, .unset, .unset, .unset, .unset] [(.int (3 : Int32)), (.int ((p2.toUInt32 >>> ((3 : Int32) &&& 31).toUInt32).toInt32))])) _
  refine XS.iand X0.here hx rfl (hb hby at_50) rfl ?_
  show Steps p.tables e below (T0.setTop (mkF m 51 #[.val (.int p1), .val (.int p2), .val (.int p3), .val (.int p4), .val (.int p5), .val (.int ((p1 &&& (7 : Int32)) % (5 : Int32))), .val (.int (((p1.toUInt32 >>> ((3 : Int32) &&& 31).toUInt32).toInt32) &&& (3 : Int32))), .val (.int (((p1.toUInt32 >>> ((5 : Int32) &&& 31).toUInt32).toInt32) &&& (3 : Int32))), .val (.int (((p1.toUInt32 >>> ((7 : Int32) &&& 31).toUInt32).toInt32) &&& (3 : Int32))), .val (.int (((p1.toUInt32 >>> ((9 : Int32) &&& 31).toUInt32).toInt32) &&& (3 : Int32))), .val (.int ((p2 &&& (7 : Int32)) % (5 : Int32))), .unset, .unset, .unset, .unset, .unset, .unset, .unset, .unset, .unset, .unset, .unset, .unset, .unset, .unset, .unset, .unset, .unset, .unset] [(.int (((p2.toUInt32 >>> ((3 : Int32) &&& 31).toUInt32).toInt32) &&& (3 : Int32)))])) _
  refine XS.istore X0.here hx rfl (hb hby at_51) rfl (l' := #[.val (.int p1), .val (.int p2), .val (.int p3), .val (.int p4), .val (.int p5), .val (.int ((p1 &&& (7 : Int32)) % (5 : Int32))), .val (.int (((p1.toUInt32 >>> ((3 : Int32) &&& 31).toUInt32).toInt32) &&& (3 : Int32))), .val (.int (((p1.toUInt32 >>> ((5 : Int32) &&& 31).toUInt32).toInt32) &&& (3 : Int32))), .val (.int (((p1.toUInt32 >>> ((7 : Int32) &&& 31).toUInt32).toInt32) &&& (3 : Int32))), .val (.int (((p1.toUInt32 >>> ((9 : Int32) &&& 31).toUInt32).toInt32) &&& (3 : Int32))), .val (.int ((p2 &&& (7 : Int32)) % (5 : Int32))), .val (.int (((p2.toUInt32 >>> ((3 : Int32) &&& 31).toUInt32).toInt32) &&& (3 : Int32))), .unset, .unset, .unset, .unset, .unset, .unset, .unset, .unset, .unset, .unset, .unset, .unset, .unset, .unset, .unset, .unset, .unset]) rfl ?_
  show Steps p.tables e below (T0.setTop (mkF m 53 #[.val (.int p1), .val (.int p2), .val (.int p3), .val (.int p4), .val (.int p5), .val (.int ((p1 &&& (7 : Int32)) % (5 : Int32))), .val (.int (((p1.toUInt32 >>> ((3 : Int32) &&& 31).toUInt32).toInt32) &&& (3 : Int32))), .val (.int (((p1.toUInt32 >>> ((5 : Int32) &&& 31).toUInt32).toInt32) &&& (3 : Int32))), .val (.int (((p1.toUInt32 >>> ((7 : Int32) &&& 31).toUInt32).toInt32) &&& (3 : Int32))), .val (.int (((p1.toUInt32 >>> ((9 : Int32) &&& 31).toUInt32).toInt32) &&& (3 : Int32))), .val (.int ((p2 &&& (7 : Int32)) % (5 : Int32))), .val (.int (((p2.toUInt32 >>> ((3 : Int32) &&& 31).toUInt32).toInt32) &&& (3 : Int32))), .unset, .unset, .unset, .unset, .unset, .unset, .unset, .unset, .unset, .unset, .unset, .unset, .unset, .unset, .unset, .unset, .unset] [])) _
  refine XS.iloadN X0.here hx rfl (hb hby at_53) rfl ?_
  show Steps p.tables e below (T0.setTop (mkF m 54 #[.val (.int p1), .val (.int p2), .val (.int p3), .val (.int p4), .val (.int p5), .val (.int ((p1 &&& (7 : Int32)) % (5 : Int32))), .val (.int (((p1.toUInt32 >>> ((3 : Int32) &&& 31).toUInt32).toInt32) &&& (3 : Int32))), .val (.int (((p1.toUInt32 >>> ((5 : Int32) &&& 31).toUInt32).toInt32) &&& (3 : Int32))), .val (.int (((p1.toUInt32 >>> ((7 : Int32) &&& 31).toUInt32).toInt32) &&& (3 : Int32))), .val (.int (((p1.toUInt32 >>> ((9 : Int32) &&& 31).toUInt32).toInt32) &&& (3 : Int32))), .val (.int ((p2 &&& (7 : Int32)) % (5 : Int32))), .val (.int (((p2.toUInt32 >>> ((3 : Int32) &&& 31).toUInt32).toInt32) &&& (3 : Int32))), .unset, .unset, .unset, .unset, .unset, .unset, .unset, .unset, .unset, .unset, .unset, .unset, .unset, .unset, .unset, .unset, .unset] [(.int p2)])) _
  refine XS.iconst X0.here hx rfl (hb hby at_54) ?_
  show Steps p.tables e below (T0.setTop (mkF m 55 #[.val (.int p1), .val (.int p2), .val (.int p3), .val (.int p4), .val (.int p5), .val (.int ((p1 &&& (7 : Int32)) % (5 : Int32))), .val (.int (((p1.toUInt32 >>> ((3 : Int32) &&& 31).toUInt32).toInt32) &&& (3 : Int32))), .val (.int (((p1.toUInt32 >>> ((5 : Int32) &&& 31).toUInt32).toInt32) &&& (3 : Int32))), .val (.int (((p1.toUInt32 >>> ((7 : Int32) &&& 31).toUInt32).toInt32) &&& (3 : Int32))), .val (.int (((p1.toUInt32 >>> ((9 : Int32) &&& 31).toUInt32).toInt32) &&& (3 : Int32))), .val (.int ((p2 &&& (7 : Int32)) % (5 : Int32))), .val (.int (((p2.toUInt32 >>> ((3 : Int32) &&& 31).toUInt32).toInt32) &&& (3 : Int32))), .unset, .unset, .unset, .unset, .unset, .unset, .unset, .unset, .unset, .unset, .unset, .unset, .unset, .unset, .unset, .unset, .unset] [(.int (5 : Int32)), (.int p2)])) _
  refine XS.iushr X0.here hx rfl (hb hby at_55) rfl ?_
  show Steps p.tables e below (T0.setTop (mkF m 56 #[.val (.int p1), .val (.int p2), .val (.int p3), .val (.int p4), .val (.int p5), .val (.int ((p1 &&& (7 : Int32)) % (5 : Int32))), .val (.int (((p1.toUInt32 >>> ((3 : Int32) &&& 31).toUInt32).toInt32) &&& (3 : Int32))), .val (.int (((p1.toUInt32 >>> ((5 : Int32) &&& 31).toUInt32).toInt32) &&& (3 : Int32))), .val (.int (((p1.toUInt32 >>> ((7 : Int32) &&& 31).toUInt32).toInt32) &&& (3 : Int32))), .val (.int (((p1.toUInt32 >>> ((9 : Int32) &&& 31).toUInt32).toInt32) &&& (3 : Int32))), .val (.int ((p2 &&& (7 : Int32)) % (5 : Int32))), .val (.int (((p2.toUInt32 >>> ((3 : Int32) &&& 31).toUInt32).toInt32) &&& (3 : Int32))), .unset, .unset, .unset, .unset, .unset, .unset, .unset, .unset, .unset, .unset, .unset, .unset, .unset, .unset, .unset, .unset, .unset] [(.int ((p2.toUInt32 >>> ((5 : Int32) &&& 31).toUInt32).toInt32))])) _
  refine XS.iconst X0.here hx rfl (hb hby at_56) ?_
  show Steps p.tables e below (T0.setTop (mkF m 57 #[.val (.int p1), .val (.int p2), .val (.int p3), .val (.int p4), .val (.int p5), .val (.int ((p1 &&& (7 : Int32)) % (5 : Int32))), .val (.int (((p1.toUInt32 >>> ((3 : Int32) &&& 31).toUInt32).toInt32) &&& (3 : Int32))), .val (.int (((p1.toUInt32 >>> ((5 : Int32) &&& 31).toUInt32).toInt32) &&& (3 : Int32))), .val (.int (((p1.toUInt32 >>> ((7 : Int32) &&& 31).toUInt32).toInt32) &&& (3 : Int32))), .val (.int (((p1.toUInt32 >>> ((9 : Int32) &&& 31).toUInt32).toInt32) &&& (3 : Int32))), .val (.int ((p2 &&& (7 : Int32)) % (5 : Int32))), .val (.int (((p2.toUInt32 >>> ((3 : Int32) &&& 31).toUInt32).toInt32) &&& (3 : Int32))), .unset, .unset, .unset, .unset, .unset, .unset, .unset, .unset, .unset, .unset, .unset, .unset, .unset, .unset, .unset, .unset, .unset] [(.int (3 : Int32)), (.int ((p2.toUInt32 >>> ((5 : Int32) &&& 31).toUInt32).toInt32))])) _
  refine XS.iand X0.here hx rfl (hb hby at_57) rfl ?_
  show Steps p.tables e below (T0.setTop (mkF m 58 #[.val (.int p1), .val (.int p2), .val (.int p3), .val (.int p4), .val (.int p5), .val (.int ((p1 &&& (7 : Int32)) % (5 : Int32))), .val (.int (((p1.toUInt32 >>> ((3 : Int32) &&& 31).toUInt32).toInt32) &&& (3 : Int32))), .val (.int (((p1.toUInt32 >>> ((5 : Int32) &&& 31).toUInt32).toInt32) &&& (3 : Int32))), .val (.int (((p1.toUInt32 >>> ((7 : Int32) &&& 31).toUInt32).toInt32) &&& (3 : Int32))), .val (.int (((p1.toUInt32 >>> ((9 : Int32) &&& 31).toUInt32).toInt32) &&& (3 : Int32))), .val (.int ((p2 &&& (7 : Int32)) % (5 : Int32))), .val (.int (((p2.toUInt32 >>> ((3 : Int32) &&& 31).toUInt32).toInt32) &&& (3 : Int32))), .unset, .unset, .unset, .unset, .unset, .unset, .unset, .unset, .unset, .unset, .unset, .unset, .unset, .unset, .unset, .unset, .unset] [(.int (((p2.toUInt32 >>> ((5 : Int32) &&& 31).toUInt32).toInt32) &&& (3 : Int32)))])) _
  refine XS.istore X0.here hx rfl (hb hby at_58) rfl (l' := #[.val (.int p1), .val (.int p2), .val (.int p3), .val (.int p4), .val (.int p5), .val (.int ((p1 &&& (7 : Int32)) % (5 : Int32))), .val (.int (((p1.toUInt32 >>> ((3 : Int32) &&& 31).toUInt32).toInt32) &&& (3 : Int32))), .val (.int (((p1.toUInt32 >>> ((5 : Int32) &&& 31).toUInt32).toInt32) &&& (3 : Int32))), .val (.int (((p1.toUInt32 >>> ((7 : Int32) &&& 31).toUInt32).toInt32) &&& (3 : Int32))), .val (.int (((p1.toUInt32 >>> ((9 : Int32) &&& 31).toUInt32).toInt32) &&& (3 : Int32))), .val (.int ((p2 &&& (7 : Int32)) % (5 : Int32))), .val (.int (((p2.toUInt32 >>> ((3 : Int32) &&& 31).toUInt32).toInt32) &&& (3 : Int32))), .val (.int (((p2.toUInt32 >>> ((5 : Int32) &&& 31).toUInt32).toInt32) &&& (3 : Int32))), .unset, .unset, .unset, .unset, .unset, .unset, .unset, .unset, .unset, .unset, .unset, .unset, .unset, .unset, .unset, .unset]) rfl ?_
  show Steps p.tables e below (T0.setTop (mkF m 60 #[.val (.int p1), .val (.int p2), .val (.int p3), .val (.int p4), .val (.int p5), .val (.int ((p1 &&& (7 : Int32)) % (5 : Int32))), .val (.int (((p1.toUInt32 >>> ((3 : Int32) &&& 31).toUInt32).toInt32) &&& (3 : Int32))), .val (.int (((p1.toUInt32 >>> ((5 : Int32) &&& 31).toUInt32).toInt32) &&& (3 : Int32))), .val (.int (((p1.toUInt32 >>> ((7 : Int32) &&& 31).toUInt32).toInt32) &&& (3 : Int32))), .val (.int (((p1.toUInt32 >>> ((9 : Int32) &&& 31).toUInt32).toInt32) &&& (3 : Int32))), .val (.int ((p2 &&& (7 : Int32)) % (5 : Int32))), .val (.int (((p2.toUInt32 >>> ((3 : Int32) &&& 31).toUInt32).toInt32) &&& (3 : Int32))), .val (.int (((p2.toUInt32 >>> ((5 : Int32) &&& 31).toUInt32).toInt32) &&& (3 : Int32))), .unset, .unset, .unset, .unset, .unset, .unset, .unset, .unset, .unset, .unset, .unset, .unset, .unset, .unset, .unset, .unset] [])) _
  refine XS.iloadN X0.here hx rfl (hb hby at_60) rfl ?_
  show Steps p.tables e below (T0.setTop (mkF m 61 #[.val (.int p1), .val (.int p2), .val (.int p3), .val (.int p4), .val (.int p5), .val (.int ((p1 &&& (7 : Int32)) % (5 : Int32))), .val (.int (((p1.toUInt32 >>> ((3 : Int32) &&& 31).toUInt32).toInt32) &&& (3 : Int32))), .val (.int (((p1.toUInt32 >>> ((5 : Int32) &&& 31).toUInt32).toInt32) &&& (3 : Int32))), .val (.int (((p1.toUInt32 >>> ((7 : Int32) &&& 31).toUInt32).toInt32) &&& (3 : Int32))), .val (.int (((p1.toUInt32 >>> ((9 : Int32) &&& 31).toUInt32).toInt32) &&& (3 : Int32))), .val (.int ((p2 &&& (7 : Int32)) % (5 : Int32))), .val (.int (((p2.toUInt32 >>> ((3 : Int32) &&& 31).toUInt32).toInt32) &&& (3 : Int32))), .val (.int (((p2.toUInt32 >>> ((5 : Int32) &&& 31).toUInt32).toInt32) &&& (3 : Int32))), .unset, .unset, .unset, .unset, .unset, .unset, .unset, .unset, .unset, .unset, .unset, .unset, .unset, .unset, .unset, .unset] [(.int p2)])) _
  refine XS.bipush X0.here hx rfl (hb hby at_61) ?_
  show Steps p.tables e below (T0.setTop (mkF m 63 #[.val (.int p1), .val (.int p2), .val (.int p3), .val (.int p4), .val (.int p5), .val (.int ((p1 &&& (7 : Int32)) % (5 : Int32))), .val (.int (((p1.toUInt32 >>> ((3 : Int32) &&& 31).toUInt32).toInt32) &&& (3 : Int32))), .val (.int (((p1.toUInt32 >>> ((5 : Int32) &&& 31).toUInt32).toInt32) &&& (3 : Int32))), .val (.int (((p1.toUInt32 >>> ((7 : Int32) &&& 31).toUInt32).toInt32) &&& (3 : Int32))), .val (.int (((p1.toUInt32 >>> ((9 : Int32) &&& 31).toUInt32).toInt32) &&& (3 : Int32))), .val (.int ((p2 &&& (7 : Int32)) % (5 : Int32))), .val (.int (((p2.toUInt32 >>> ((3 : Int32) &&& 31).toUInt32).toInt32) &&& (3 : Int32))), .val (.int (((p2.toUInt32 >>> ((5 : Int32) &&& 31).toUInt32).toInt32) &&& (3 : Int32))), .unset, .unset, .unset, .unset, .unset, .unset, .unset, .unset, .unset, .unset, .unset, .unset, .unset, .unset, .unset, .unset] [(.int (7 : Int32)), (.int p2)])) _
  refine XS.iushr X0.here hx rfl (hb hby at_63) rfl ?_
  show Steps p.tables e below (T0.setTop (mkF m 64 #[.val (.int p1), .val (.int p2), .val (.int p3), .val (.int p4), .val (.int p5), .val (.int ((p1 &&& (7 : Int32)) % (5 : Int32))), .val (.int (((p1.toUInt32 >>> ((3 : Int32) &&& 31).toUInt32).toInt32) &&& (3 : Int32))), .val (.int (((p1.toUInt32 >>> ((5 : Int32) &&& 31).toUInt32).toInt32) &&& (3 : Int32))), .val (.int (((p1.toUInt32 >>> ((7 : Int32) &&& 31).toUInt32).toInt32) &&& (3 : Int32))), .val (.int (((p1.toUInt32 >>> ((9 : Int32) &&& 31).toUInt32).toInt32) &&& (3 : Int32))), .val (.int ((p2 &&& (7 : Int32)) % (5 : Int32))), .val (.int (((p2.toUInt32 >>> ((3 : Int32) &&& 31).toUInt32).toInt32) &&& (3 : Int32))), .val (.int (((p2.toUInt32 >>> ((5 : Int32) &&& 31).toUInt32).toInt32) &&& (3 : Int32))), .unset, .unset, .unset, .unset, .unset, .unset, .unset, .unset, .unset, .unset, .unset, .unset, .unset, .unset, .unset, .unset] [(.int ((p2.toUInt32 >>> ((7 : Int32) &&& 31).toUInt32).toInt32))])) _
  refine XS.iconst X0.here hx rfl (hb hby at_64) ?_
  show Steps p.tables e below (T0.setTop (mkF m 65 #[.val (.int p1), .val (.int p2), .val (.int p3), .val (.int p4), .val (.int p5), .val (.int ((p1 &&& (7 : Int32)) % (5 : Int32))), .val (.int (((p1.toUInt32 >>> ((3 : Int32) &&& 31).toUInt32).toInt32) &&& (3 : Int32))), .val (.int (((p1.toUInt32 >>> ((5 : Int32) &&& 31).toUInt32).toInt32) &&& (3 : Int32))), .val (.int (((p1.toUInt32 >>> ((7 : Int32) &&& 31).toUInt32).toInt32) &&& (3 : Int32))), .val (.int (((p1.toUInt32 >>> ((9 : Int32) &&& 31).toUInt32).toInt32) &&& (3 : Int32))), .val (.int ((p2 &&& (7 : Int32)) % (5 : Int32))), .val (.int (((p2.toUInt32 >>> ((3 : Int32) &&& 31).toUInt32).toInt32) &&& (3 : Int32))), .val (.int (((p2.toUInt32 >>> ((5 : Int32) &&& 31).toUInt32).toInt32) &&& (3 : Int32))), .unset, .unset, .unset, .unset, .unset, .unset, .unset, .unset, .unset, .unset, .unset, .unset, .unset, .unset, .unset, .unset] [(.int (3 : Int32)), (.int ((p2.toUInt32 >>> ((7 : Int32) &&& 31).toUInt32).toInt32))])) _
  refine XS.iand X0.here hx rfl (hb hby at_65) rfl ?_
  show Steps p.tables e below (T0.setTop (mkF m 66 #[.val (.int p1), .val (.int p2), .val (.int p3), .val (.int p4), .val (.int p5), .val (.int ((p1 &&& (7 : Int32)) % (5 : Int32))), .val (.int (((p1.toUInt32 >>> ((3 : Int32) &&& 31).toUInt32).toInt32) &&& (3 : Int32))), .val (.int (((p1.toUInt32 >>> ((5 : Int32) &&& 31).toUInt32).toInt32) &&& (3 : Int32))), .val (.int (((p1.toUInt32 >>> ((7 : Int32) &&& 31).toUInt32).toInt32) &&& (3 : Int32))), .val (.int (((p1.toUInt32 >>> ((9 : Int32) &&& 31).toUInt32).toInt32) &&& (3 : Int32))), .val (.int ((p2 &&& (7 : Int32)) % (5 : Int32))), .val (.int (((p2.toUInt32 >>> ((3 : Int32) &&& 31).toUInt32).toInt32) &&& (3 : Int32))), .val (.int (((p2.toUInt32 >>> ((5 : Int32) &&& 31).toUInt32).toInt32) &&& (3 : Int32))), .unset, .unset, .unset, .unset, .unset, .unset, .unset, .unset, .unset, .unset, .unset, .unset, .unset, .unset, .unset, .unset] [(.int (((p2.toUInt32 >>> ((7 : Int32) &&& 31).toUInt32).toInt32) &&& (3 : Int32)))])) _
  refine XS.istore X0.here hx rfl (hb hby at_66) rfl (l' := #[.val (.int p1), .val (.int p2), .val (.int p3), .val (.int p4), .val (.int p5), .val (.int ((p1 &&& (7 : Int32)) % (5 : Int32))), .val (.int (((p1.toUInt32 >>> ((3 : Int32) &&& 31).toUInt32).toInt32) &&& (3 : Int32))), .val (.int (((p1.toUInt32 >>> ((5 : Int32) &&& 31).toUInt32).toInt32) &&& (3 : Int32))), .val (.int (((p1.toUInt32 >>> ((7 : Int32) &&& 31).toUInt32).toInt32) &&& (3 : Int32))), .val (.int (((p1.toUInt32 >>> ((9 : Int32) &&& 31).toUInt32).toInt32) &&& (3 : Int32))), .val (.int ((p2 &&& (7 : Int32)) % (5 : Int32))), .val (.int (((p2.toUInt32 >>> ((3 : Int32) &&& 31).toUInt32).toInt32) &&& (3 : Int32))), .val (.int (((p2.toUInt32 >>> ((5 : Int32) &&& 31).toUInt32).toInt32) &&& (3 : Int32))), .val (.int (((p2.toUInt32 >>> ((7 : Int32) &&& 31).toUInt32).toInt32) &&& (3 : Int32))), .unset, .unset, .unset, .unset, .unset, .unset, .unset, .unset, .unset, .unset, .unset, .unset, .unset, .unset, .unset]) rfl ?_
  show Steps p.tables e below (T0.setTop (mkF m 68 #[.val (.int p1), .val (.int p2), .val (.int p3), .val (.int p4), .val (.int p5), .val (.int ((p1 &&& (7 : Int32)) % (5 : Int32))), .val (.int (((p1.toUInt32 >>> ((3 : Int32) &&& 31).toUInt32).toInt32) &&& (3 : Int32))), .val (.int (((p1.toUInt32 >>> ((5 : Int32) &&& 31).toUInt32).toInt32) &&& (3 : Int32))), .val (.int (((p1.toUInt32 >>> ((7 : Int32) &&& 31).toUInt32).toInt32) &&& (3 : Int32))), .val (.int (((p1.toUInt32 >>> ((9 : Int32) &&& 31).toUInt32).toInt32) &&& (3 : Int32))), .val (.int ((p2 &&& (7 : Int32)) % (5 : Int32))), .val (.int (((p2.toUInt32 >>> ((3 : Int32) &&& 31).toUInt32).toInt32) &&& (3 : Int32))), .val (.int (((p2.toUInt32 >>> ((5 : Int32) &&& 31).toUInt32).toInt32) &&& (3 : Int32))), .val (.int (((p2.toUInt32 >>> ((7 : Int32) &&& 31).toUInt32).toInt32) &&& (3 : Int32))), .unset, .unset, .unset, .unset, .unset, .unset, .unset, .unset, .unset, .unset, .unset, .unset, .unset, .unset, .unset] [])) _
  refine XS.iloadN X0.here hx rfl (hb hby at_68) rfl ?_
  show Steps p.tables e below (T0.setTop (mkF m 69 #[.val (.int p1), .val (.int p2), .val (.int p3), .val (.int p4), .val (.int p5), .val (.int ((p1 &&& (7 : Int32)) % (5 : Int32))), .val (.int (((p1.toUInt32 >>> ((3 : Int32) &&& 31).toUInt32).toInt32) &&& (3 : Int32))), .val (.int (((p1.toUInt32 >>> ((5 : Int32) &&& 31).toUInt32).toInt32) &&& (3 : Int32))), .val (.int (((p1.toUInt32 >>> ((7 : Int32) &&& 31).toUInt32).toInt32) &&& (3 : Int32))), .val (.int (((p1.toUInt32 >>> ((9 : Int32) &&& 31).toUInt32).toInt32) &&& (3 : Int32))), .val (.int ((p2 &&& (7 : Int32)) % (5 : Int32))), .val (.int (((p2.toUInt32 >>> ((3 : Int32) &&& 31).toUInt32).toInt32) &&& (3 : Int32))), .val (.int (((p2.toUInt32 >>> ((5 : Int32) &&& 31).toUInt32).toInt32) &&& (3 : Int32))), .val (.int (((p2.toUInt32 >>> ((7 : Int32) &&& 31).toUInt32).toInt32) &&& (3 : Int32))), .unset, .unset, .unset, .unset, .unset, .unset, .unset, .unset, .unset, .unset, .unset, .unset, .unset, .unset, .unset] [(.int p2)])) _
  refine XS.bipush X0.here hx rfl (hb hby at_69) ?_
  show Steps p.tables e below (T0.setTop (mkF m 71 #[.val (.int p1), .val (.int p2), .val (.int p3), .val (.int p4), .val (.int p5), .val (.int ((p1 &&& (7 : Int32)) % (5 : Int32))), .val (.int (((p1.toUInt32 >>> ((3 : Int32) &&& 31).toUInt32).toInt32) &&& (3 : Int32))), .val (.int (((p1.toUInt32 >>> ((5 : Int32) &&& 31).toUInt32).toInt32) &&& (3 : Int32))), .val (.int (((p1.toUInt32 >>> ((7 : Int32) &&& 31).toUInt32).toInt32) &&& (3 : Int32))), .val (.int (((p1.toUInt32 >>> ((9 : Int32) &&& 31).toUInt32).toInt32) &&& (3 : Int32))), .val (.int ((p2 &&& (7 : Int32)) % (5 : Int32))), .val (.int (((p2.toUInt32 >>> ((3 : Int32) &&& 31).toUInt32).toInt32) &&& (3 : Int32))), .val (.int (((p2.toUInt32 >>> ((5 : Int32) &&& 31).toUInt32).toInt32) &&& (3 : Int32))), .val (.int (((p2.toUInt32 >>> ((7 : Int32) &&& 31).toUInt32).toInt32) &&& (3 : Int32))), .unset, .unset, .unset, .unset, .unset, .unset, .unset, .unset, .unset, .unset, .unset, .unset, .unset, .unset, .unset] [(.int (9 : Int32)), (.int p2)])) _
  refine XS.iushr X0.here hx rfl (hb hby at_71) rfl ?_
  show Steps p.tables e below (T0.setTop (mkF m 72 #[.val (.int p1), .val (.int p2), .val (.int p3), .val (.int p4), .val (.int p5), .val (.int ((p1 &&& (7 : Int32)) % (5 : Int32))), .val (.int (((p1.toUInt32 >>> ((3 : Int32) &&& 31).toUInt32).toInt32) &&& (3 : Int32))), .val (.int (((p1.toUInt32 >>> ((5 : Int32) &&& 31).toUInt32).toInt32) &&& (3 : Int32))), .val (.int (((p1.toUInt32 >>> ((7 : Int32) &&& 31).toUInt32).toInt32) &&& (3 : Int32))), .val (.int (((p1.toUInt32 >>> ((9 : Int32) &&& 31).toUInt32).toInt32) &&& (3 : Int32))), .val (.int ((p2 &&& (7 : Int32)) % (5 : Int32))), .val (.int (((p2.toUInt32 >>> ((3 : Int32) &&& 31).toUInt32).toInt32) &&& (3 : Int32))), .val (.int (((p2.toUInt32 >>> ((5 : Int32) &&& 31).toUInt32).toInt32) &&& (3 : Int32))), .val (.int (((p2.toUInt32 >>> ((7 : Int32) &&& 31).toUInt32).toInt32) &&& (3 : Int32))), .unset, .unset, .unset, .unset, .unset, .unset, .unset, .unset, .unset, .unset, .unset, .unset, .unset, .unset, .unset] [(.int ((p2.toUInt32 >>> ((9 : Int32) &&& 31).toUInt32).toInt32))])) _
  refine XS.iconst X0.here hx rfl (hb hby at_72) ?_
  show Steps p.tables e below (T0.setTop (mkF m 73 #[.val (.int p1), .val (.int p2), .val (.int p3), .val (.int p4), .val (.int p5), .val (.int ((p1 &&& (7 : Int32)) % (5 : Int32))), .val (.int (((p1.toUInt32 >>> ((3 : Int32) &&& 31).toUInt32).toInt32) &&& (3 : Int32))), .val (.int (((p1.toUInt32 >>> ((5 : Int32) &&& 31).toUInt32).toInt32) &&& (3 : Int32))), .val (.int (((p1.toUInt32 >>> ((7 : Int32) &&& 31).toUInt32).toInt32) &&& (3 : Int32))), .val (.int (((p1.toUInt32 >>> ((9 : Int32) &&& 31).toUInt32).toInt32) &&& (3 : Int32))), .val (.int ((p2 &&& (7 : Int32)) % (5 : Int32))), .val (.int (((p2.toUInt32 >>> ((3 : Int32) &&& 31).toUInt32).toInt32) &&& (3 : Int32))), .val (.int (((p2.toUInt32 >>> ((5 : Int32) &&& 31).toUInt32).toInt32) &&& (3 : Int32))), .val (.int (((p2.toUInt32 >>> ((7 : Int32) &&& 31).toUInt32).toInt32) &&& (3 : Int32))), .unset, .unset, .unset, .unset, .unset, .unset, .unset, .unset, .unset, .unset, .unset, .unset, .unset, .unset, .unset] [(.int (3 : Int32)), (.int ((p2.toUInt32 >>> ((9 : Int32) &&& 31).toUInt32).toInt32))])) _
  refine XS.iand X0.here hx rfl (hb hby at_73) rfl ?_
  show Steps p.tables e below (T0.setTop (mkF m 74 #[.val (.int p1), .val (.int p2), .val (.int p3), .val (.int p4), .val (.int p5), .val (.int ((p1 &&& (7 : Int32)) % (5 : Int32))), .val (.int (((p1.toUInt32 >>> ((3 : Int32) &&& 31).toUInt32).toInt32) &&& (3 : Int32))), .val (.int (((p1.toUInt32 >>> ((5 : Int32) &&& 31).toUInt32).toInt32) &&& (3 : Int32))), .val (.int (((p1.toUInt32 >>> ((7 : Int32) &&& 31).toUInt32).toInt32) &&& (3 : Int32))), .val (.int (((p1.toUInt32 >>> ((9 : Int32) &&& 31).toUInt32).toInt32) &&& (3 : Int32))), .val (.int ((p2 &&& (7 : Int32)) % (5 : Int32))), .val (.int (((p2.toUInt32 >>> ((3 : Int32) &&& 31).toUInt32).toInt32) &&& (3 : Int32))), .val (.int (((p2.toUInt32 >>> ((5 : Int32) &&& 31).toUInt32).toInt32) &&& (3 : Int32))), .val (.int (((p2.toUInt32 >>> ((7 : Int32) &&& 31).toUInt32).toInt32) &&& (3 : Int32))), .unset, .unset, .unset, .unset, .unset, .unset, .unset, .unset, .unset, .unset, .unset, .unset, .unset, .unset, .unset] [(.int (((p2.toUInt32 >>> ((9 : Int32) &&& 31).toUInt32).toInt32) &&& (3 : Int32)))])) _
  refine XS.istore X0.here hx rfl (hb hby at_74) rfl (l' := #[.val (.int p1), .val (.int p2), .val (.int p3), .val (.int p4), .val (.int p5), .val (.int ((p1 &&& (7 : Int32)) % (5 : Int32))), .val (.int (((p1.toUInt32 >>> ((3 : Int32) &&& 31).toUInt32).toInt32) &&& (3 : Int32))), .val (.int (((p1.toUInt32 >>> ((5 : Int32) &&& 31).toUInt32).toInt32) &&& (3 : Int32))), .val (.int (((p1.toUInt32 >>> ((7 : Int32) &&& 31).toUInt32).toInt32) &&& (3 : Int32))), .val (.int (((p1.toUInt32 >>> ((9 : Int32) &&& 31).toUInt32).toInt32) &&& (3 : Int32))), .val (.int ((p2 &&& (7 : Int32)) % (5 : Int32))), .val (.int (((p2.toUInt32 >>> ((3 : Int32) &&& 31).toUInt32).toInt32) &&& (3 : Int32))), .val (.int (((p2.toUInt32 >>> ((5 : Int32) &&& 31).toUInt32).toInt32) &&& (3 : Int32))), .val (.int (((p2.toUInt32 >>> ((7 : Int32) &&& 31).toUInt32).toInt32) &&& (3 : Int32))), .val (.int (((p2.toUInt32 >>> ((9 : Int32) &&& 31).toUInt32).toInt32) &&& (3 : Int32))), .unset, .unset, .unset, .unset, .unset, .unset, .unset, .unset, .unset, .unset, .unset, .unset, .unset, .unset]) rfl ?_
  show Steps p.tables e below (T0.setTop (mkF m 76 #[.val (.int p1), .val (.int p2), .val (.int p3), .val (.int p4), .val (.int p5), .val (.int ((p1 &&& (7 : Int32)) % (5 : Int32))), .val (.int (((p1.toUInt32 >>> ((3 : Int32) &&& 31).toUInt32).toInt32) &&& (3 : Int32))), .val (.int (((p1.toUInt32 >>> ((5 : Int32) &&& 31).toUInt32).toInt32) &&& (3 : Int32))), .val (.int (((p1.toUInt32 >>> ((7 : Int32) &&& 31).toUInt32).toInt32) &&& (3 : Int32))), .val (.int (((p1.toUInt32 >>> ((9 : Int32) &&& 31).toUInt32).toInt32) &&& (3 : Int32))), .val (.int ((p2 &&& (7 : Int32)) % (5 : Int32))), .val (.int (((p2.toUInt32 >>> ((3 : Int32) &&& 31).toUInt32).toInt32) &&& (3 : Int32))), .val (.int (((p2.toUInt32 >>> ((5 : Int32) &&& 31).toUInt32).toInt32) &&& (3 : Int32))), .val (.int (((p2.toUInt32 >>> ((7 : Int32) &&& 31).toUInt32).toInt32) &&& (3 : Int32))), .val (.int (((p2.toUInt32 >>> ((9 : Int32) &&& 31).toUInt32).toInt32) &&& (3 : Int32))), .unset, .unset, .unset, .unset, .unset, .unset, .unset, .unset, .unset, .unset, .unset, .unset, .unset, .unset] [])) _
  exact kt
set_option maxRecDepth 65536 in
set_option maxHeartbeats 40000000 in
theorem qB {p : Program} {l : Launch} {e : Env} {s : State} {m : MethodId} {args : Array Value} {below : List Frame} {meth : Method} {c : Code} {T0 : State} {locs : List Loc} {Z : State} {a0 : Array Value} {h0 : Heap} {n0 : Nat} (p1 : Int32) (p2 : Int32) (p3 : Int32) (p4 : Int32) (p5 : Int32) (nA : Int32) (x0 : Int32) (x1 : Int32) (x2 : Int32) (x3 : Int32) (nB : Int32) (y0 : Int32) (y1 : Int32) (y2 : Int32) (y3 : Int32)
    (X0 : Stand p l e room_1 s m args below meth c T0 locs 0 0) (hx : p.tables.exec = Jvm.exec) (hZ : Z.Warmed39 s.vm) (hw : ∀ d ∈ tables_1, d.before a0 Z = true) (hby : c.code = code) (hml : c.maxLocals = 29) (hown : s.vm.findClass "com/example/caprice/caprice/solver/DomainsGatherReasonsPinLaw" = some m.cls) (e0 : T0.heap = h0) (N0 : Fr n0 locs) (O0 : Old Z n0 h0) :
    ∃ (T' : State) (locs' : List Loc), Stand p l e room_1 s m args below meth c T' locs' 0 0 ∧ Fr n0 locs' ∧ T'.heap = h0 ∧ ∀ t, Steps p.tables e below (T'.setTop (mkF m 86 #[.val (.int p1), .val (.int p2), .val (.int p3), .val (.int p4), .val (.int p5), .val (.int nA), .val (.int x0), .val (.int x1), .val (.int x2), .val (.int x3), .val (.int nB), .val (.int y0), .val (.int y1), .val (.int y2), .val (.int y3), .unset, .unset, .unset, .unset, .unset, .unset, .unset, .unset, .unset, .unset, .unset, .unset, .unset, .unset] [(.int x3), (.int x2), (.int x1), (.int x0), (.int nA)])) t → Steps p.tables e below (T0.setTop (mkF m 76 #[.val (.int p1), .val (.int p2), .val (.int p3), .val (.int p4), .val (.int p5), .val (.int nA), .val (.int x0), .val (.int x1), .val (.int x2), .val (.int x3), .val (.int nB), .val (.int y0), .val (.int y1), .val (.int y2), .val (.int y3), .unset, .unset, .unset, .unset, .unset, .unset, .unset, .unset, .unset, .unset, .unset, .unset, .unset, .unset] [])) t := by
  refine ⟨T0, _, X0, N0, e0, fun t kt => ?_⟩
  show Steps p.tables e below (T0.setTop (mkF m 76 #[.val (.int p1), .val (.int p2), .val (.int p3), .val (.int p4), .val (.int p5), .val (.int nA), .val (.int x0), .val (.int x1), .val (.int x2), .val (.int x3), .val (.int nB), .val (.int y0), .val (.int y1), .val (.int y2), .val (.int y3), .unset, .unset, .unset, .unset, .unset, .unset, .unset, .unset, .unset, .unset, .unset, .unset, .unset, .unset] [])) _
  refine XS.iload X0.here hx rfl (hb hby at_76) rfl ?_
  show Steps p.tables e below (T0.setTop (mkF m 78 #[.val (.int p1), .val (.int p2), .val (.int p3), .val (.int p4), .val (.int p5), .val (.int nA), .val (.int x0), .val (.int x1), .val (.int x2), .val (.int x3), .val (.int nB), .val (.int y0), .val (.int y1), .val (.int y2), .val (.int y3), .unset, .unset, .unset, .unset, .unset, .unset, .unset, .unset, .unset, .unset, .unset, .unset, .unset, .unset] [(.int nA)])) _
  refine XS.iload X0.here hx rfl (hb hby at_78) rfl ?_
  show Steps p.tables e below (T0.setTop (mkF m 80 #[.val (.int p1), .val (.int p2), .val (.int p3), .val (.int p4), .val (.int p5), .val (.int nA), .val (.int x0), .val (.int x1), .val (.int x2), .val (.int x3), .val (.int nB), .val (.int y0), .val (.int y1), .val (.int y2), .val (.int y3), .unset, .unset, .unset, .unset, .unset, .unset, .unset, .unset, .unset, .unset, .unset, .unset, .unset, .unset] [(.int x0), (.int nA)])) _
  refine XS.iload X0.here hx rfl (hb hby at_80) rfl ?_
  show Steps p.tables e below (T0.setTop (mkF m 82 #[.val (.int p1), .val (.int p2), .val (.int p3), .val (.int p4), .val (.int p5), .val (.int nA), .val (.int x0), .val (.int x1), .val (.int x2), .val (.int x3), .val (.int nB), .val (.int y0), .val (.int y1), .val (.int y2), .val (.int y3), .unset, .unset, .unset, .unset, .unset, .unset, .unset, .unset, .unset, .unset, .unset, .unset, .unset, .unset] [(.int x1), (.int x0), (.int nA)])) _
  refine XS.iload X0.here hx rfl (hb hby at_82) rfl ?_
  show Steps p.tables e below (T0.setTop (mkF m 84 #[.val (.int p1), .val (.int p2), .val (.int p3), .val (.int p4), .val (.int p5), .val (.int nA), .val (.int x0), .val (.int x1), .val (.int x2), .val (.int x3), .val (.int nB), .val (.int y0), .val (.int y1), .val (.int y2), .val (.int y3), .unset, .unset, .unset, .unset, .unset, .unset, .unset, .unset, .unset, .unset, .unset, .unset, .unset, .unset] [(.int x2), (.int x1), (.int x0), (.int nA)])) _
  refine XS.iload X0.here hx rfl (hb hby at_84) rfl ?_
  show Steps p.tables e below (T0.setTop (mkF m 86 #[.val (.int p1), .val (.int p2), .val (.int p3), .val (.int p4), .val (.int p5), .val (.int nA), .val (.int x0), .val (.int x1), .val (.int x2), .val (.int x3), .val (.int nB), .val (.int y0), .val (.int y1), .val (.int y2), .val (.int y3), .unset, .unset, .unset, .unset, .unset, .unset, .unset, .unset, .unset, .unset, .unset, .unset, .unset, .unset] [(.int x3), (.int x2), (.int x1), (.int x0), (.int nA)])) _
  exact kt
theorem pd470 : parseMethodDescriptor "(IIIII)[I" = some ⟨[.int, .int, .int, .int, .int], some (.array .int)⟩ := by decide +kernel
set_option maxRecDepth 65536 in
set_option maxHeartbeats 4000000 in
theorem cMk1 {p : Program} {l : Launch} {e : Env} {s : State} {m : MethodId} {args : Array Value} {below : List Frame} {meth : Method} {c : Code} {T0 : State} {locs : List Loc} {cells slots : Nat} {Z : State} {a0 : Array Value} {h0 : Heap} {Ls : Array Slot} (x0 : Int32) (x1 : Int32) (x2 : Int32) (x3 : Int32) (x4 : Int32)
    (X0 : Stand p l e room_1 s m args below meth c T0 locs cells slots) (hx : p.tables.exec = Jvm.exec) (hZ : Z.Warmed39 s.vm) (hw : ∀ d ∈ tables_1, d.before a0 Z = true) (hby : c.code = code) (hml : c.maxLocals = 29) (hown : s.vm.findClass "com/example/caprice/caprice/solver/DomainsGatherReasonsPinLaw" = some m.cls) (e0 : T0.heap = h0) (hsz : Ls.size = 29) {rm : Room} {Q : Option Value → Heap → List Loc → Prop}
    (M : MetFree l (⟨"com/example/caprice/caprice/solver/DomainsGatherReasonsPinLaw", "make", "(IIIII)[I"⟩ : MethodName) (head1 [Jvm.Cond.code (⟨"com/example/caprice/caprice/solver/DomainsGatherReasonsPinLaw", "make", "(IIIII)[I"⟩ : MethodName) method_3_code 5 (some (.array .int))] rm) (fun a U => a = #[(.int x0), (.int x1), (.int x2), (.int x3), (.int x4)] ∧ Z.Warmed39 U.vm ∧ U.heap = h0) (fun _ _ _ _ _ => True) (fun _ U o U' => ∃ v L, o = .returned v ∧ Q v U'.heap L ∧ FrameEnd U o U' L rm.cells rm.slots)) (hfr : rm.frames + 1 ≤ room_1.frames) (hlo : 0 + (5 + 11) + rm.locals ≤ room_1.locals) (hce : cells + rm.cells ≤ room_1.cells) (hsl : slots + rm.slots ≤ room_1.slots) :
    ∃ (T' : State) (v : Option Value) (L : List Loc), Stand p l e room_1 s m args below meth c T' (locs ++ L) (cells + rm.cells) (slots + rm.slots) ∧ Q v T'.heap L ∧ ∀ t, Steps p.tables e below (T'.setTop (mkF m 89 Ls (v.toList ++ []))) t → Steps p.tables e below (T0.setTop (mkF m 86 Ls [(.int x4), (.int x3), (.int x2), (.int x1), (.int x0)])) t := by
  obtain ⟨v, _, ⟨T1, L1, k1, n1⟩, -, X1, ⟨Lc, hQ, l1, y1, z1⟩, st⟩ := Jvm.LawKit.callS X0 hx (y := (⟨"com/example/caprice/caprice/solver/DomainsGatherReasonsPinLaw", "make", "(IIIII)[I"⟩ : MethodName)) hown (mvT hZ (hw _ (List.mem_of_getElem? (i := 0) rfl))) (mvT hZ (hw _ (List.mem_of_getElem? (i := 1) rfl))) (mvT hZ (hw _ (List.mem_of_getElem? (i := 2) rfl))) (mvT hZ (hw _ (List.mem_of_getElem? (i := 3) rfl))) (by decide) (backOf (W := 0) M hZ (hw _ (List.mem_of_getElem? (i := 3) rfl)) (hw _ (List.mem_of_getElem? (i := 2) rfl)) hfr hlo) (g := (mkF m 86 Ls [(.int x4), (.int x3), (.int x2), (.int x1), (.int x0)])) rfl (by rw [hml]; exact hsz) (argsL := [(.int x0), (.int x1), (.int x2), (.int x3), (.int x4)]) (rest := []) (lenOf pd470 rfl) rfl (by show 2 * 0 + _ ≤ _; exact Nat.le_of_eq rfl) (hb hby at_86) (fun _ _ => ⟨rfl, e0, hce, hsl⟩)
  dsimp only [Pt.U, Pt.locs, Pt.cells, Pt.slots] at X1 l1 y1 z1 st hQ
  subst l1 y1 z1
  exact ⟨T1, v, Lc, X1, hQ, fun t kt => st t kt⟩
set_option maxRecDepth 65536 in
set_option maxHeartbeats 40000000 in
theorem qC {p : Program} {l : Launch} {e : Env} {s : State} {m : MethodId} {args : Array Value} {below : List Frame} {meth : Method} {c : Code} {T0 : State} {locs : List Loc} {Z : State} {a0 : Array Value} {h0 : Heap} {n0 : Nat} (p1 : Int32) (p2 : Int32) (p3 : Int32) (p4 : Int32) (p5 : Int32) (nA : Int32) (x0 : Int32) (x1 : Int32) (x2 : Int32) (x3 : Int32) (nB : Int32) (y0 : Int32) (y1 : Int32) (y2 : Int32) (y3 : Int32) (ra : Addr)
    (X0 : Stand p l e room_1 s m args below meth c T0 locs 1 4) (hx : p.tables.exec = Jvm.exec) (hZ : Z.Warmed39 s.vm) (hw : ∀ d ∈ tables_1, d.before a0 Z = true) (hby : c.code = code) (hml : c.maxLocals = 29) (hown : s.vm.findClass "com/example/caprice/caprice/solver/DomainsGatherReasonsPinLaw" = some m.cls) (e0 : T0.heap = h0) (N0 : Fr n0 locs) (O0 : Old Z n0 h0) :
    ∃ (T' : State) (locs' : List Loc), Stand p l e room_1 s m args below meth c T' locs' 1 4 ∧ Fr n0 locs' ∧ T'.heap = h0 ∧ ∀ t, Steps p.tables e below (T'.setTop (mkF m 101 #[.val (.int p1), .val (.int p2), .val (.int p3), .val (.int p4), .val (.int p5), .val (.int nA), .val (.int x0), .val (.int x1), .val (.int x2), .val (.int x3), .val (.int nB), .val (.int y0), .val (.int y1), .val (.int y2), .val (.int y3), .val (.ref ra), .unset, .unset, .unset, .unset, .unset, .unset, .unset, .unset, .unset, .unset, .unset, .unset, .unset] [(.int y3), (.int y2), (.int y1), (.int y0), (.int nB)])) t → Steps p.tables e below (T0.setTop (mkF m 89 #[.val (.int p1), .val (.int p2), .val (.int p3), .val (.int p4), .val (.int p5), .val (.int nA), .val (.int x0), .val (.int x1), .val (.int x2), .val (.int x3), .val (.int nB), .val (.int y0), .val (.int y1), .val (.int y2), .val (.int y3), .unset, .unset, .unset, .unset, .unset, .unset, .unset, .unset, .unset, .unset, .unset, .unset, .unset, .unset] [(.ref ra)])) t := by
  refine ⟨T0, _, X0, N0, e0, fun t kt => ?_⟩
  show Steps p.tables e below (T0.setTop (mkF m 89 #[.val (.int p1), .val (.int p2), .val (.int p3), .val (.int p4), .val (.int p5), .val (.int nA), .val (.int x0), .val (.int x1), .val (.int x2), .val (.int x3), .val (.int nB), .val (.int y0), .val (.int y1), .val (.int y2), .val (.int y3), .unset, .unset, .unset, .unset, .unset, .unset, .unset, .unset, .unset, .unset, .unset, .unset, .unset, .unset] [(.ref ra)])) _
  refine XS.astore X0.here hx rfl (hb hby at_89) rfl rfl (l' := #[.val (.int p1), .val (.int p2), .val (.int p3), .val (.int p4), .val (.int p5), .val (.int nA), .val (.int x0), .val (.int x1), .val (.int x2), .val (.int x3), .val (.int nB), .val (.int y0), .val (.int y1), .val (.int y2), .val (.int y3), .val (.ref ra), .unset, .unset, .unset, .unset, .unset, .unset, .unset, .unset, .unset, .unset, .unset, .unset, .unset]) rfl ?_
  show Steps p.tables e below (T0.setTop (mkF m 91 #[.val (.int p1), .val (.int p2), .val (.int p3), .val (.int p4), .val (.int p5), .val (.int nA), .val (.int x0), .val (.int x1), .val (.int x2), .val (.int x3), .val (.int nB), .val (.int y0), .val (.int y1), .val (.int y2), .val (.int y3), .val (.ref ra), .unset, .unset, .unset, .unset, .unset, .unset, .unset, .unset, .unset, .unset, .unset, .unset, .unset] [])) _
  refine XS.iload X0.here hx rfl (hb hby at_91) rfl ?_
  show Steps p.tables e below (T0.setTop (mkF m 93 #[.val (.int p1), .val (.int p2), .val (.int p3), .val (.int p4), .val (.int p5), .val (.int nA), .val (.int x0), .val (.int x1), .val (.int x2), .val (.int x3), .val (.int nB), .val (.int y0), .val (.int y1), .val (.int y2), .val (.int y3), .val (.ref ra), .unset, .unset, .unset, .unset, .unset, .unset, .unset, .unset, .unset, .unset, .unset, .unset, .unset] [(.int nB)])) _
  refine XS.iload X0.here hx rfl (hb hby at_93) rfl ?_
  show Steps p.tables e below (T0.setTop (mkF m 95 #[.val (.int p1), .val (.int p2), .val (.int p3), .val (.int p4), .val (.int p5), .val (.int nA), .val (.int x0), .val (.int x1), .val (.int x2), .val (.int x3), .val (.int nB), .val (.int y0), .val (.int y1), .val (.int y2), .val (.int y3), .val (.ref ra), .unset, .unset, .unset, .unset, .unset, .unset, .unset, .unset, .unset, .unset, .unset, .unset, .unset] [(.int y0), (.int nB)])) _
  refine XS.iload X0.here hx rfl (hb hby at_95) rfl ?_
  show Steps p.tables e below (T0.setTop (mkF m 97 #[.val (.int p1), .val (.int p2), .val (.int p3), .val (.int p4), .val (.int p5), .val (.int nA), .val (.int x0), .val (.int x1), .val (.int x2), .val (.int x3), .val (.int nB), .val (.int y0), .val (.int y1), .val (.int y2), .val (.int y3), .val (.ref ra), .unset, .unset, .unset, .unset, .unset, .unset, .unset, .unset, .unset, .unset, .unset, .unset, .unset] [(.int y1), (.int y0), (.int nB)])) _
  refine XS.iload X0.here hx rfl (hb hby at_97) rfl ?_
  show Steps p.tables e below (T0.setTop (mkF m 99 #[.val (.int p1), .val (.int p2), .val (.int p3), .val (.int p4), .val (.int p5), .val (.int nA), .val (.int x0), .val (.int x1), .val (.int x2), .val (.int x3), .val (.int nB), .val (.int y0), .val (.int y1), .val (.int y2), .val (.int y3), .val (.ref ra), .unset, .unset, .unset, .unset, .unset, .unset, .unset, .unset, .unset, .unset, .unset, .unset, .unset] [(.int y2), (.int y1), (.int y0), (.int nB)])) _
  refine XS.iload X0.here hx rfl (hb hby at_99) rfl ?_
  show Steps p.tables e below (T0.setTop (mkF m 101 #[.val (.int p1), .val (.int p2), .val (.int p3), .val (.int p4), .val (.int p5), .val (.int nA), .val (.int x0), .val (.int x1), .val (.int x2), .val (.int x3), .val (.int nB), .val (.int y0), .val (.int y1), .val (.int y2), .val (.int y3), .val (.ref ra), .unset, .unset, .unset, .unset, .unset, .unset, .unset, .unset, .unset, .unset, .unset, .unset, .unset] [(.int y3), (.int y2), (.int y1), (.int y0), (.int nB)])) _
  exact kt
set_option maxRecDepth 65536 in
set_option maxHeartbeats 4000000 in
theorem cMk2 {p : Program} {l : Launch} {e : Env} {s : State} {m : MethodId} {args : Array Value} {below : List Frame} {meth : Method} {c : Code} {T0 : State} {locs : List Loc} {cells slots : Nat} {Z : State} {a0 : Array Value} {h0 : Heap} {Ls : Array Slot} (x0 : Int32) (x1 : Int32) (x2 : Int32) (x3 : Int32) (x4 : Int32)
    (X0 : Stand p l e room_1 s m args below meth c T0 locs cells slots) (hx : p.tables.exec = Jvm.exec) (hZ : Z.Warmed39 s.vm) (hw : ∀ d ∈ tables_1, d.before a0 Z = true) (hby : c.code = code) (hml : c.maxLocals = 29) (hown : s.vm.findClass "com/example/caprice/caprice/solver/DomainsGatherReasonsPinLaw" = some m.cls) (e0 : T0.heap = h0) (hsz : Ls.size = 29) {rm : Room} {Q : Option Value → Heap → List Loc → Prop}
    (M : MetFree l (⟨"com/example/caprice/caprice/solver/DomainsGatherReasonsPinLaw", "make", "(IIIII)[I"⟩ : MethodName) (head1 [Jvm.Cond.code (⟨"com/example/caprice/caprice/solver/DomainsGatherReasonsPinLaw", "make", "(IIIII)[I"⟩ : MethodName) method_3_code 5 (some (.array .int))] rm) (fun a U => a = #[(.int x0), (.int x1), (.int x2), (.int x3), (.int x4)] ∧ Z.Warmed39 U.vm ∧ U.heap = h0) (fun _ _ _ _ _ => True) (fun _ U o U' => ∃ v L, o = .returned v ∧ Q v U'.heap L ∧ FrameEnd U o U' L rm.cells rm.slots)) (hfr : rm.frames + 1 ≤ room_1.frames) (hlo : 0 + (5 + 11) + rm.locals ≤ room_1.locals) (hce : cells + rm.cells ≤ room_1.cells) (hsl : slots + rm.slots ≤ room_1.slots) :
    ∃ (T' : State) (v : Option Value) (L : List Loc), Stand p l e room_1 s m args below meth c T' (locs ++ L) (cells + rm.cells) (slots + rm.slots) ∧ Q v T'.heap L ∧ ∀ t, Steps p.tables e below (T'.setTop (mkF m 104 Ls (v.toList ++ []))) t → Steps p.tables e below (T0.setTop (mkF m 101 Ls [(.int x4), (.int x3), (.int x2), (.int x1), (.int x0)])) t := by
  obtain ⟨v, _, ⟨T1, L1, k1, n1⟩, -, X1, ⟨Lc, hQ, l1, y1, z1⟩, st⟩ := Jvm.LawKit.callS X0 hx (y := (⟨"com/example/caprice/caprice/solver/DomainsGatherReasonsPinLaw", "make", "(IIIII)[I"⟩ : MethodName)) hown (mvT hZ (hw _ (List.mem_of_getElem? (i := 0) rfl))) (mvT hZ (hw _ (List.mem_of_getElem? (i := 1) rfl))) (mvT hZ (hw _ (List.mem_of_getElem? (i := 2) rfl))) (mvT hZ (hw _ (List.mem_of_getElem? (i := 3) rfl))) (by decide) (backOf (W := 0) M hZ (hw _ (List.mem_of_getElem? (i := 3) rfl)) (hw _ (List.mem_of_getElem? (i := 2) rfl)) hfr hlo) (g := (mkF m 101 Ls [(.int x4), (.int x3), (.int x2), (.int x1), (.int x0)])) rfl (by rw [hml]; exact hsz) (argsL := [(.int x0), (.int x1), (.int x2), (.int x3), (.int x4)]) (rest := []) (lenOf pd470 rfl) rfl (by show 2 * 0 + _ ≤ _; exact Nat.le_of_eq rfl) (hb hby at_101) (fun _ _ => ⟨rfl, e0, hce, hsl⟩)
  dsimp only [Pt.U, Pt.locs, Pt.cells, Pt.slots] at X1 l1 y1 z1 st hQ
  subst l1 y1 z1
  exact ⟨T1, v, Lc, X1, hQ, fun t kt => st t kt⟩
set_option maxRecDepth 65536 in
set_option maxHeartbeats 40000000 in
theorem qD {p : Program} {l : Launch} {e : Env} {s : State} {m : MethodId} {args : Array Value} {below : List Frame} {meth : Method} {c : Code} {T0 : State} {locs : List Loc} {Z : State} {a0 : Array Value} {h0 : Heap} {n0 : Nat} (p1 : Int32) (p2 : Int32) (p3 : Int32) (p4 : Int32) (p5 : Int32) (nA : Int32) (x0 : Int32) (x1 : Int32) (x2 : Int32) (x3 : Int32) (nB : Int32) (y0 : Int32) (y1 : Int32) (y2 : Int32) (y3 : Int32) (ra : Addr) (rb : Addr)
    (X0 : Stand p l e room_1 s m args below meth c T0 locs 2 8) (hx : p.tables.exec = Jvm.exec) (hZ : Z.Warmed39 s.vm) (hw : ∀ d ∈ tables_1, d.before a0 Z = true) (hby : c.code = code) (hml : c.maxLocals = 29) (hown : s.vm.findClass "com/example/caprice/caprice/solver/DomainsGatherReasonsPinLaw" = some m.cls) (e0 : T0.heap = h0) (N0 : Fr n0 locs) (O0 : Old Z n0 h0) :
    ∃ (T' : State) (locs' : List Loc), Stand p l e room_1 s m args below meth c T' locs' 2 8 ∧ Fr n0 locs' ∧ T'.heap = h0 ∧ ∀ t, Steps p.tables e below (T'.setTop (mkF m 129 #[.val (.int p1), .val (.int p2), .val (.int p3), .val (.int p4), .val (.int p5), .val (.int nA), .val (.int x0), .val (.int x1), .val (.int x2), .val (.int x3), .val (.int nB), .val (.int y0), .val (.int y1), .val (.int y2), .val (.int y3), .val (.ref ra), .val (.ref rb), .val (.int (p3 &&& (7 : Int32))), .val (.int ((((p3 &&& (7 : Int32)) + (1 : Int32)) + ((p4 &&& (7 : Int32)) % (7 : Int32))) &&& (7 : Int32))), .unset, .unset, .unset, .unset, .unset, .unset, .unset, .unset, .unset, .unset] [])) t → Steps p.tables e below (T0.setTop (mkF m 104 #[.val (.int p1), .val (.int p2), .val (.int p3), .val (.int p4), .val (.int p5), .val (.int nA), .val (.int x0), .val (.int x1), .val (.int x2), .val (.int x3), .val (.int nB), .val (.int y0), .val (.int y1), .val (.int y2), .val (.int y3), .val (.ref ra), .unset, .unset, .unset, .unset, .unset, .unset, .unset, .unset, .unset, .unset, .unset, .unset, .unset] [(.ref rb)])) t := by
  refine ⟨T0, _, X0, N0, e0, fun t kt => ?_⟩
  show Steps p.tables e below (T0.setTop (mkF m 104 #[.val (.int p1), .val (.int p2), .val (.int p3), .val (.int p4), .val (.int p5), .val (.int nA), .val (.int x0), .val (.int x1), .val (.int x2), .val (.int x3), .val (.int nB), .val (.int y0), .val (.int y1), .val (.int y2), .val (.int y3), .val (.ref ra), .unset, .unset, .unset, .unset, .unset, .unset, .unset, .unset, .unset, .unset, .unset, .unset, .unset] [(.ref rb)])) _
  refine XS.astore X0.here hx rfl (hb hby at_104) rfl rfl (l' := #[.val (.int p1), .val (.int p2), .val (.int p3), .val (.int p4), .val (.int p5), .val (.int nA), .val (.int x0), .val (.int x1), .val (.int x2), .val (.int x3), .val (.int nB), .val (.int y0), .val (.int y1), .val (.int y2), .val (.int y3), .val (.ref ra), .val (.ref rb), .unset, .unset, .unset, .unset, .unset, .unset, .unset, .unset, .unset, .unset, .unset, .unset]) rfl ?_
  show Steps p.tables e below (T0.setTop (mkF m 106 #[.val (.int p1), .val (.int p2), .val (.int p3), .val (.int p4), .val (.int p5), .val (.int nA), .val (.int x0), .val (.int x1), .val (.int x2), .val (.int x3), .val (.int nB), .val (.int y0), .val (.int y1), .val (.int y2), .val (.int y3), .val (.ref ra), .val (.ref rb), .unset, .unset, .unset, .unset, .unset, .unset, .unset, .unset, .unset, .unset, .unset, .unset] [])) _
  refine XS.iloadN X0.here hx rfl (hb hby at_106) rfl ?_
  show Steps p.tables e below (T0.setTop (mkF m 107 #[.val (.int p1), .val (.int p2), .val (.int p3), .val (.int p4), .val (.int p5), .val (.int nA), .val (.int x0), .val (.int x1), .val (.int x2), .val (.int x3), .val (.int nB), .val (.int y0), .val (.int y1), .val (.int y2), .val (.int y3), .val (.ref ra), .val (.ref rb), .unset, .unset, .unset, .unset, .unset, .unset, .unset, .unset, .unset, .unset, .unset, .unset] [(.int p3)])) _
  refine XS.bipush X0.here hx rfl (hb hby at_107) ?_
  show Steps p.tables e below (T0.setTop (mkF m 109 #[.val (.int p1), .val (.int p2), .val (.int p3), .val (.int p4), .val (.int p5), .val (.int nA), .val (.int x0), .val (.int x1), .val (.int x2), .val (.int x3), .val (.int nB), .val (.int y0), .val (.int y1), .val (.int y2), .val (.int y3), .val (.ref ra), .val (.ref rb), .unset, .unset, .unset, .unset, .unset, .unset, .unset, .unset, .unset, .unset, .unset, .unset] [(.int (7 : Int32)), (.int p3)])) _
  refine XS.iand X0.here hx rfl (hb hby at_109) rfl ?_
  show Steps p.tables e below (T0.setTop (mkF m 110 #[.val (.int p1), .val (.int p2), .val (.int p3), .val (.int p4), .val (.int p5), .val (.int nA), .val (.int x0), .val (.int x1), .val (.int x2), .val (.int x3), .val (.int nB), .val (.int y0), .val (.int y1), .val (.int y2), .val (.int y3), .val (.ref ra), .val (.ref rb), .unset, .unset, .unset, .unset, .unset, .unset, .unset, .unset, .unset, .unset, .unset, .unset] [(.int (p3 &&& (7 : Int32)))])) _
  refine XS.istore X0.here hx rfl (hb hby at_110) rfl (l' := #[.val (.int p1), .val (.int p2), .val (.int p3), .val (.int p4), .val (.int p5), .val (.int nA), .val (.int x0), .val (.int x1), .val (.int x2), .val (.int x3), .val (.int nB), .val (.int y0), .val (.int y1), .val (.int y2), .val (.int y3), .val (.ref ra), .val (.ref rb), .val (.int (p3 &&& (7 : Int32))), .unset, .unset, .unset, .unset, .unset, .unset, .unset, .unset, .unset, .unset, .unset]) rfl ?_
  show Steps p.tables e below (T0.setTop (mkF m 112 #[.val (.int p1), .val (.int p2), .val (.int p3), .val (.int p4), .val (.int p5), .val (.int nA), .val (.int x0), .val (.int x1), .val (.int x2), .val (.int x3), .val (.int nB), .val (.int y0), .val (.int y1), .val (.int y2), .val (.int y3), .val (.ref ra), .val (.ref rb), .val (.int (p3 &&& (7 : Int32))), .unset, .unset, .unset, .unset, .unset, .unset, .unset, .unset, .unset, .unset, .unset] [])) _
  refine XS.iload X0.here hx rfl (hb hby at_112) rfl ?_
  show Steps p.tables e below (T0.setTop (mkF m 114 #[.val (.int p1), .val (.int p2), .val (.int p3), .val (.int p4), .val (.int p5), .val (.int nA), .val (.int x0), .val (.int x1), .val (.int x2), .val (.int x3), .val (.int nB), .val (.int y0), .val (.int y1), .val (.int y2), .val (.int y3), .val (.ref ra), .val (.ref rb), .val (.int (p3 &&& (7 : Int32))), .unset, .unset, .unset, .unset, .unset, .unset, .unset, .unset, .unset, .unset, .unset] [(.int (p3 &&& (7 : Int32)))])) _
  refine XS.iconst X0.here hx rfl (hb hby at_114) ?_
  show Steps p.tables e below (T0.setTop (mkF m 115 #[.val (.int p1), .val (.int p2), .val (.int p3), .val (.int p4), .val (.int p5), .val (.int nA), .val (.int x0), .val (.int x1), .val (.int x2), .val (.int x3), .val (.int nB), .val (.int y0), .val (.int y1), .val (.int y2), .val (.int y3), .val (.ref ra), .val (.ref rb), .val (.int (p3 &&& (7 : Int32))), .unset, .unset, .unset, .unset, .unset, .unset, .unset, .unset, .unset, .unset, .unset] [(.int (1 : Int32)), (.int (p3 &&& (7 : Int32)))])) _
  refine XS.iadd X0.here hx rfl (hb hby at_115) rfl ?_
  show Steps p.tables e below (T0.setTop (mkF m 116 #[.val (.int p1), .val (.int p2), .val (.int p3), .val (.int p4), .val (.int p5), .val (.int nA), .val (.int x0), .val (.int x1), .val (.int x2), .val (.int x3), .val (.int nB), .val (.int y0), .val (.int y1), .val (.int y2), .val (.int y3), .val (.ref ra), .val (.ref rb), .val (.int (p3 &&& (7 : Int32))), .unset, .unset, .unset, .unset, .unset, .unset, .unset, .unset, .unset, .unset, .unset] [(.int ((p3 &&& (7 : Int32)) + (1 : Int32)))])) _
  refine XS.iloadN X0.here hx rfl (hb hby at_116) rfl ?_
  show Steps p.tables e below (T0.setTop (mkF m 117 #[.val (.int p1), .val (.int p2), .val (.int p3), .val (.int p4), .val (.int p5), .val (.int nA), .val (.int x0), .val (.int x1), .val (.int x2), .val (.int x3), .val (.int nB), .val (.int y0), .val (.int y1), .val (.int y2), .val (.int y3), .val (.ref ra), .val (.ref rb), .val (.int (p3 &&& (7 : Int32))), .unset, .unset, .unset, .unset, .unset, .unset, .unset, .unset, .unset, .unset, .unset] [(.int p4), (.int ((p3 &&& (7 : Int32)) + (1 : Int32)))])) _
  refine XS.bipush X0.here hx rfl (hb hby at_117) ?_
  show Steps p.tables e below (T0.setTop (mkF m 119 #[.val (.int p1), .val (.int p2), .val (.int p3), .val (.int p4), .val (.int p5), .val (.int nA), .val (.int x0), .val (.int x1), .val (.int x2), .val (.int x3), .val (.int nB), .val (.int y0), .val (.int y1), .val (.int y2), .val (.int y3), .val (.ref ra), .val (.ref rb), .val (.int (p3 &&& (7 : Int32))), .unset, .unset, .unset, .unset, .unset, .unset, .unset, .unset, .unset, .unset, .unset] [(.int (7 : Int32)), (.int p4), (.int ((p3 &&& (7 : Int32)) + (1 : Int32)))])) _
  refine XS.iand X0.here hx rfl (hb hby at_119) rfl ?_
  show Steps p.tables e below (T0.setTop (mkF m 120 #[.val (.int p1), .val (.int p2), .val (.int p3), .val (.int p4), .val (.int p5), .val (.int nA), .val (.int x0), .val (.int x1), .val (.int x2), .val (.int x3), .val (.int nB), .val (.int y0), .val (.int y1), .val (.int y2), .val (.int y3), .val (.ref ra), .val (.ref rb), .val (.int (p3 &&& (7 : Int32))), .unset, .unset, .unset, .unset, .unset, .unset, .unset, .unset, .unset, .unset, .unset] [(.int (p4 &&& (7 : Int32))), (.int ((p3 &&& (7 : Int32)) + (1 : Int32)))])) _
  refine XS.bipush X0.here hx rfl (hb hby at_120) ?_
  show Steps p.tables e below (T0.setTop (mkF m 122 #[.val (.int p1), .val (.int p2), .val (.int p3), .val (.int p4), .val (.int p5), .val (.int nA), .val (.int x0), .val (.int x1), .val (.int x2), .val (.int x3), .val (.int nB), .val (.int y0), .val (.int y1), .val (.int y2), .val (.int y3), .val (.ref ra), .val (.ref rb), .val (.int (p3 &&& (7 : Int32))), .unset, .unset, .unset, .unset, .unset, .unset, .unset, .unset, .unset, .unset, .unset] [(.int (7 : Int32)), (.int (p4 &&& (7 : Int32))), (.int ((p3 &&& (7 : Int32)) + (1 : Int32)))])) _
  refine iremM X0 hx rfl (hb hby at_122) rfl (by decide) ?_
  show Steps p.tables e below (T0.setTop (mkF m 123 #[.val (.int p1), .val (.int p2), .val (.int p3), .val (.int p4), .val (.int p5), .val (.int nA), .val (.int x0), .val (.int x1), .val (.int x2), .val (.int x3), .val (.int nB), .val (.int y0), .val (.int y1), .val (.int y2), .val (.int y3), .val (.ref ra), .val (.ref rb), .val (.int (p3 &&& (7 : Int32))), .unset, .unset, .unset, .unset, .unset, .unset, .unset, .unset, .unset, .unset, .unset] [(.int ((p4 &&& (7 : Int32)) % (7 : Int32))), (.int ((p3 &&& (7 : Int32)) + (1 : Int32)))])) _
  refine XS.iadd X0.here hx rfl (hb hby at_123) rfl ?_
  show Steps p.tables e below (T0.setTop (mkF m 124 #[.val (.int p1), .val (.int p2), .val (.int p3), .val (.int p4), .val (.int p5), .val (.int nA), .val (.int x0), .val (.int x1), .val (.int x2), .val (.int x3), .val (.int nB), .val (.int y0), .val (.int y1), .val (.int y2), .val (.int y3), .val (.ref ra), .val (.ref rb), .val (.int (p3 &&& (7 : Int32))), .unset, .unset, .unset, .unset, .unset, .unset, .unset, .unset, .unset, .unset, .unset] [(.int (((p3 &&& (7 : Int32)) + (1 : Int32)) + ((p4 &&& (7 : Int32)) % (7 : Int32))))])) _
  refine XS.bipush X0.here hx rfl (hb hby at_124) ?_
  show Steps p.tables e below (T0.setTop (mkF m 126 #[.val (.int p1), .val (.int p2), .val (.int p3), .val (.int p4), .val (.int p5), .val (.int nA), .val (.int x0), .val (.int x1), .val (.int x2), .val (.int x3), .val (.int nB), .val (.int y0), .val (.int y1), .val (.int y2), .val (.int y3), .val (.ref ra), .val (.ref rb), .val (.int (p3 &&& (7 : Int32))), .unset, .unset, .unset, .unset, .unset, .unset, .unset, .unset, .unset, .unset, .unset] [(.int (7 : Int32)), (.int (((p3 &&& (7 : Int32)) + (1 : Int32)) + ((p4 &&& (7 : Int32)) % (7 : Int32))))])) _
  refine XS.iand X0.here hx rfl (hb hby at_126) rfl ?_
  show Steps p.tables e below (T0.setTop (mkF m 127 #[.val (.int p1), .val (.int p2), .val (.int p3), .val (.int p4), .val (.int p5), .val (.int nA), .val (.int x0), .val (.int x1), .val (.int x2), .val (.int x3), .val (.int nB), .val (.int y0), .val (.int y1), .val (.int y2), .val (.int y3), .val (.ref ra), .val (.ref rb), .val (.int (p3 &&& (7 : Int32))), .unset, .unset, .unset, .unset, .unset, .unset, .unset, .unset, .unset, .unset, .unset] [(.int ((((p3 &&& (7 : Int32)) + (1 : Int32)) + ((p4 &&& (7 : Int32)) % (7 : Int32))) &&& (7 : Int32)))])) _
  refine XS.istore X0.here hx rfl (hb hby at_127) rfl (l' := #[.val (.int p1), .val (.int p2), .val (.int p3), .val (.int p4), .val (.int p5), .val (.int nA), .val (.int x0), .val (.int x1), .val (.int x2), .val (.int x3), .val (.int nB), .val (.int y0), .val (.int y1), .val (.int y2), .val (.int y3), .val (.ref ra), .val (.ref rb), .val (.int (p3 &&& (7 : Int32))), .val (.int ((((p3 &&& (7 : Int32)) + (1 : Int32)) + ((p4 &&& (7 : Int32)) % (7 : Int32))) &&& (7 : Int32))), .unset, .unset, .unset, .unset, .unset, .unset, .unset, .unset, .unset, .unset]) rfl ?_
  show Steps p.tables e below (T0.setTop (mkF m 129 #[.val (.int p1), .val (.int p2), .val (.int p3), .val (.int p4), .val (.int p5), .val (.int nA), .val (.int x0), .val (.int x1), .val (.int x2), .val (.int x3), .val (.int nB), .val (.int y0), .val (.int y1), .val (.int y2), .val (.int y3), .val (.ref ra), .val (.ref rb), .val (.int (p3 &&& (7 : Int32))), .val (.int ((((p3 &&& (7 : Int32)) + (1 : Int32)) + ((p4 &&& (7 : Int32)) % (7 : Int32))) &&& (7 : Int32))), .unset, .unset, .unset, .unset, .unset, .unset, .unset, .unset, .unset, .unset] [])) _
  exact kt
set_option maxRecDepth 65536 in
set_option maxHeartbeats 40000000 in
theorem qE0 {p : Program} {l : Launch} {e : Env} {s : State} {m : MethodId} {args : Array Value} {below : List Frame} {meth : Method} {c : Code} {T0 : State} {locs : List Loc} {Z : State} {a0 : Array Value} {h0 : Heap} {n0 : Nat} (p1 : Int32) (p2 : Int32) (p3 : Int32) (p4 : Int32) (p5 : Int32) (nA : Int32) (x0 : Int32) (x1 : Int32) (x2 : Int32) (x3 : Int32) (nB : Int32) (y0 : Int32) (y1 : Int32) (y2 : Int32) (y3 : Int32) (ra : Addr) (rb : Addr) (i1 : Int32) (i2 : Int32)
    (X0 : Stand p l e room_1 s m args below meth c T0 locs 2 8) (hx : p.tables.exec = Jvm.exec) (hZ : Z.Warmed39 s.vm) (hw : ∀ d ∈ tables_1, d.before a0 Z = true) (hby : c.code = code) (hml : c.maxLocals = 29) (hown : s.vm.findClass "com/example/caprice/caprice/solver/DomainsGatherReasonsPinLaw" = some m.cls) (e0 : T0.heap = h0) (N0 : Fr n0 locs) (O0 : Old Z n0 h0) (hd0 : (p5 &&& (1 : Int32)) = (0 : Int32)) :
    ∃ (T' : State) (locs' : List Loc), Stand p l e room_1 s m args below meth c T' locs' 2 8 ∧ Fr n0 locs' ∧ T'.heap = h0 ∧ ∀ t, Steps p.tables e below (T'.setTop (mkF m 143 #[.val (.int p1), .val (.int p2), .val (.int p3), .val (.int p4), .val (.int p5), .val (.int nA), .val (.int x0), .val (.int x1), .val (.int x2), .val (.int x3), .val (.int nB), .val (.int y0), .val (.int y1), .val (.int y2), .val (.int y3), .val (.ref ra), .val (.ref rb), .val (.int i1), .val (.int i2), .val (.int (0 : Int32)), .unset, .unset, .unset, .unset, .unset, .unset, .unset, .unset, .unset] [])) t → Steps p.tables e below (T0.setTop (mkF m 129 #[.val (.int p1), .val (.int p2), .val (.int p3), .val (.int p4), .val (.int p5), .val (.int nA), .val (.int x0), .val (.int x1), .val (.int x2), .val (.int x3), .val (.int nB), .val (.int y0), .val (.int y1), .val (.int y2), .val (.int y3), .val (.ref ra), .val (.ref rb), .val (.int i1), .val (.int i2), .unset, .unset, .unset, .unset, .unset, .unset, .unset, .unset, .unset, .unset] [])) t := by
  refine ⟨T0, _, X0, N0, e0, fun t kt => ?_⟩
  show Steps p.tables e below (T0.setTop (mkF m 129 #[.val (.int p1), .val (.int p2), .val (.int p3), .val (.int p4), .val (.int p5), .val (.int nA), .val (.int x0), .val (.int x1), .val (.int x2), .val (.int x3), .val (.int nB), .val (.int y0), .val (.int y1), .val (.int y2), .val (.int y3), .val (.ref ra), .val (.ref rb), .val (.int i1), .val (.int i2), .unset, .unset, .unset, .unset, .unset, .unset, .unset, .unset, .unset, .unset] [])) _
  refine XS.iload X0.here hx rfl (hb hby at_129) rfl ?_
  show Steps p.tables e below (T0.setTop (mkF m 131 #[.val (.int p1), .val (.int p2), .val (.int p3), .val (.int p4), .val (.int p5), .val (.int nA), .val (.int x0), .val (.int x1), .val (.int x2), .val (.int x3), .val (.int nB), .val (.int y0), .val (.int y1), .val (.int y2), .val (.int y3), .val (.ref ra), .val (.ref rb), .val (.int i1), .val (.int i2), .unset, .unset, .unset, .unset, .unset, .unset, .unset, .unset, .unset, .unset] [(.int p5)])) _
  refine XS.iconst X0.here hx rfl (hb hby at_131) ?_
  show Steps p.tables e below (T0.setTop (mkF m 132 #[.val (.int p1), .val (.int p2), .val (.int p3), .val (.int p4), .val (.int p5), .val (.int nA), .val (.int x0), .val (.int x1), .val (.int x2), .val (.int x3), .val (.int nB), .val (.int y0), .val (.int y1), .val (.int y2), .val (.int y3), .val (.ref ra), .val (.ref rb), .val (.int i1), .val (.int i2), .unset, .unset, .unset, .unset, .unset, .unset, .unset, .unset, .unset, .unset] [(.int (1 : Int32)), (.int p5)])) _
  refine XS.iand X0.here hx rfl (hb hby at_132) rfl ?_
  show Steps p.tables e below (T0.setTop (mkF m 133 #[.val (.int p1), .val (.int p2), .val (.int p3), .val (.int p4), .val (.int p5), .val (.int nA), .val (.int x0), .val (.int x1), .val (.int x2), .val (.int x3), .val (.int nB), .val (.int y0), .val (.int y1), .val (.int y2), .val (.int y3), .val (.ref ra), .val (.ref rb), .val (.int i1), .val (.int i2), .unset, .unset, .unset, .unset, .unset, .unset, .unset, .unset, .unset, .unset] [(.int (p5 &&& (1 : Int32)))])) _
  refine XS.ifYes X0.here hx rfl (pc0 := 133) (pc' := 140) rfl (hb hby at_133) rfl ((if0 _ _).trans (teq hd0).1) (by decide) (by decide) ?_
  show Steps p.tables e below (T0.setTop (mkF m 140 #[.val (.int p1), .val (.int p2), .val (.int p3), .val (.int p4), .val (.int p5), .val (.int nA), .val (.int x0), .val (.int x1), .val (.int x2), .val (.int x3), .val (.int nB), .val (.int y0), .val (.int y1), .val (.int y2), .val (.int y3), .val (.ref ra), .val (.ref rb), .val (.int i1), .val (.int i2), .unset, .unset, .unset, .unset, .unset, .unset, .unset, .unset, .unset, .unset] [])) _
  refine XS.iconst X0.here hx rfl (hb hby at_140) ?_
  show Steps p.tables e below (T0.setTop (mkF m 141 #[.val (.int p1), .val (.int p2), .val (.int p3), .val (.int p4), .val (.int p5), .val (.int nA), .val (.int x0), .val (.int x1), .val (.int x2), .val (.int x3), .val (.int nB), .val (.int y0), .val (.int y1), .val (.int y2), .val (.int y3), .val (.ref ra), .val (.ref rb), .val (.int i1), .val (.int i2), .unset, .unset, .unset, .unset, .unset, .unset, .unset, .unset, .unset, .unset] [(.int (0 : Int32))])) _
  refine XS.istore X0.here hx rfl (hb hby at_141) rfl (l' := #[.val (.int p1), .val (.int p2), .val (.int p3), .val (.int p4), .val (.int p5), .val (.int nA), .val (.int x0), .val (.int x1), .val (.int x2), .val (.int x3), .val (.int nB), .val (.int y0), .val (.int y1), .val (.int y2), .val (.int y3), .val (.ref ra), .val (.ref rb), .val (.int i1), .val (.int i2), .val (.int (0 : Int32)), .unset, .unset, .unset, .unset, .unset, .unset, .unset, .unset, .unset]) rfl ?_
  show Steps p.tables e below (T0.setTop (mkF m 143 #[.val (.int p1), .val (.int p2), .val (.int p3), .val (.int p4), .val (.int p5), .val (.int nA), .val (.int x0), .val (.int x1), .val (.int x2), .val (.int x3), .val (.int nB), .val (.int y0), .val (.int y1), .val (.int y2), .val (.int y3), .val (.ref ra), .val (.ref rb), .val (.int i1), .val (.int i2), .val (.int (0 : Int32)), .unset, .unset, .unset, .unset, .unset, .unset, .unset, .unset, .unset] [])) _
  exact kt
set_option maxRecDepth 65536 in
set_option maxHeartbeats 40000000 in
theorem qF0 {p : Program} {l : Launch} {e : Env} {s : State} {m : MethodId} {args : Array Value} {below : List Frame} {meth : Method} {c : Code} {T0 : State} {locs : List Loc} {Z : State} {a0 : Array Value} {h0 : Heap} {n0 : Nat} (p1 : Int32) (p2 : Int32) (p3 : Int32) (p4 : Int32) (p5 : Int32) (nA : Int32) (x0 : Int32) (x1 : Int32) (x2 : Int32) (x3 : Int32) (nB : Int32) (y0 : Int32) (y1 : Int32) (y2 : Int32) (y3 : Int32) (ra : Addr) (rb : Addr) (i1 : Int32) (i2 : Int32) (bo : Int32)
    (X0 : Stand p l e room_1 s m args below meth c T0 locs 2 8) (hx : p.tables.exec = Jvm.exec) (hZ : Z.Warmed39 s.vm) (hw : ∀ d ∈ tables_1, d.before a0 Z = true) (hby : c.code = code) (hml : c.maxLocals = 29) (hown : s.vm.findClass "com/example/caprice/caprice/solver/DomainsGatherReasonsPinLaw" = some m.cls) (e0 : T0.heap = h0) (N0 : Fr n0 locs) (O0 : Old Z n0 h0) (hd0 : (p5 &&& (2 : Int32)) = (0 : Int32)) :
    ∃ (T' : State) (locs' : List Loc), Stand p l e room_1 s m args below meth c T' locs' 2 8 ∧ Fr n0 locs' ∧ T'.heap = h0 ∧ ∀ t, Steps p.tables e below (T'.setTop (mkF m 157 #[.val (.int p1), .val (.int p2), .val (.int p3), .val (.int p4), .val (.int p5), .val (.int nA), .val (.int x0), .val (.int x1), .val (.int x2), .val (.int x3), .val (.int nB), .val (.int y0), .val (.int y1), .val (.int y2), .val (.int y3), .val (.ref ra), .val (.ref rb), .val (.int i1), .val (.int i2), .val (.int bo), .val (.int (0 : Int32)), .unset, .unset, .unset, .unset, .unset, .unset, .unset, .unset] [])) t → Steps p.tables e below (T0.setTop (mkF m 143 #[.val (.int p1), .val (.int p2), .val (.int p3), .val (.int p4), .val (.int p5), .val (.int nA), .val (.int x0), .val (.int x1), .val (.int x2), .val (.int x3), .val (.int nB), .val (.int y0), .val (.int y1), .val (.int y2), .val (.int y3), .val (.ref ra), .val (.ref rb), .val (.int i1), .val (.int i2), .val (.int bo), .unset, .unset, .unset, .unset, .unset, .unset, .unset, .unset, .unset] [])) t := by
  refine ⟨T0, _, X0, N0, e0, fun t kt => ?_⟩
  show Steps p.tables e below (T0.setTop (mkF m 143 #[.val (.int p1), .val (.int p2), .val (.int p3), .val (.int p4), .val (.int p5), .val (.int nA), .val (.int x0), .val (.int x1), .val (.int x2), .val (.int x3), .val (.int nB), .val (.int y0), .val (.int y1), .val (.int y2), .val (.int y3), .val (.ref ra), .val (.ref rb), .val (.int i1), .val (.int i2), .val (.int bo), .unset, .unset, .unset, .unset, .unset, .unset, .unset, .unset, .unset] [])) _
  refine XS.iload X0.here hx rfl (hb hby at_143) rfl ?_
  show Steps p.tables e below (T0.setTop (mkF m 145 #[.val (.int p1), .val (.int p2), .val (.int p3), .val (.int p4), .val (.int p5), .val (.int nA), .val (.int x0), .val (.int x1), .val (.int x2), .val (.int x3), .val (.int nB), .val (.int y0), .val (.int y1), .val (.int y2), .val (.int y3), .val (.ref ra), .val (.ref rb), .val (.int i1), .val (.int i2), .val (.int bo), .unset, .unset, .unset, .unset, .unset, .unset, .unset, .unset, .unset] [(.int p5)])) _
  refine XS.iconst X0.here hx rfl (hb hby at_145) ?_
  show Steps p.tables e below (T0.setTop (mkF m 146 #[.val (.int p1), .val (.int p2), .val (.int p3), .val (.int p4), .val (.int p5), .val (.int nA), .val (.int x0), .val (.int x1), .val (.int x2), .val (.int x3), .val (.int nB), .val (.int y0), .val (.int y1), .val (.int y2), .val (.int y3), .val (.ref ra), .val (.ref rb), .val (.int i1), .val (.int i2), .val (.int bo), .unset, .unset, .unset, .unset, .unset, .unset, .unset, .unset, .unset] [(.int (2 : Int32)), (.int p5)])) _
  refine XS.iand X0.here hx rfl (hb hby at_146) rfl ?_
  show Steps p.tables e below (T0.setTop (mkF m 147 #[.val (.int p1), .val (.int p2), .val (.int p3), .val (.int p4), .val (.int p5), .val (.int nA), .val (.int x0), .val (.int x1), .val (.int x2), .val (.int x3), .val (.int nB), .val (.int y0), .val (.int y1), .val (.int y2), .val (.int y3), .val (.ref ra), .val (.ref rb), .val (.int i1), .val (.int i2), .val (.int bo), .unset, .unset, .unset, .unset, .unset, .unset, .unset, .unset, .unset] [(.int (p5 &&& (2 : Int32)))])) _
  refine XS.ifYes X0.here hx rfl (pc0 := 147) (pc' := 154) rfl (hb hby at_147) rfl ((if0 _ _).trans (teq hd0).1) (by decide) (by decide) ?_
  show Steps p.tables e below (T0.setTop (mkF m 154 #[.val (.int p1), .val (.int p2), .val (.int p3), .val (.int p4), .val (.int p5), .val (.int nA), .val (.int x0), .val (.int x1), .val (.int x2), .val (.int x3), .val (.int nB), .val (.int y0), .val (.int y1), .val (.int y2), .val (.int y3), .val (.ref ra), .val (.ref rb), .val (.int i1), .val (.int i2), .val (.int bo), .unset, .unset, .unset, .unset, .unset, .unset, .unset, .unset, .unset] [])) _
  refine XS.iconst X0.here hx rfl (hb hby at_154) ?_
  show Steps p.tables e below (T0.setTop (mkF m 155 #[.val (.int p1), .val (.int p2), .val (.int p3), .val (.int p4), .val (.int p5), .val (.int nA), .val (.int x0), .val (.int x1), .val (.int x2), .val (.int x3), .val (.int nB), .val (.int y0), .val (.int y1), .val (.int y2), .val (.int y3), .val (.ref ra), .val (.ref rb), .val (.int i1), .val (.int i2), .val (.int bo), .unset, .unset, .unset, .unset, .unset, .unset, .unset, .unset, .unset] [(.int (0 : Int32))])) _
  refine XS.istore X0.here hx rfl (hb hby at_155) rfl (l' := #[.val (.int p1), .val (.int p2), .val (.int p3), .val (.int p4), .val (.int p5), .val (.int nA), .val (.int x0), .val (.int x1), .val (.int x2), .val (.int x3), .val (.int nB), .val (.int y0), .val (.int y1), .val (.int y2), .val (.int y3), .val (.ref ra), .val (.ref rb), .val (.int i1), .val (.int i2), .val (.int bo), .val (.int (0 : Int32)), .unset, .unset, .unset, .unset, .unset, .unset, .unset, .unset]) rfl ?_
  show Steps p.tables e below (T0.setTop (mkF m 157 #[.val (.int p1), .val (.int p2), .val (.int p3), .val (.int p4), .val (.int p5), .val (.int nA), .val (.int x0), .val (.int x1), .val (.int x2), .val (.int x3), .val (.int nB), .val (.int y0), .val (.int y1), .val (.int y2), .val (.int y3), .val (.ref ra), .val (.ref rb), .val (.int i1), .val (.int i2), .val (.int bo), .val (.int (0 : Int32)), .unset, .unset, .unset, .unset, .unset, .unset, .unset, .unset] [])) _
  exact kt
set_option maxRecDepth 65536 in
set_option maxHeartbeats 40000000 in
theorem qE1 {p : Program} {l : Launch} {e : Env} {s : State} {m : MethodId} {args : Array Value} {below : List Frame} {meth : Method} {c : Code} {T0 : State} {locs : List Loc} {Z : State} {a0 : Array Value} {h0 : Heap} {n0 : Nat} (p1 : Int32) (p2 : Int32) (p3 : Int32) (p4 : Int32) (p5 : Int32) (nA : Int32) (x0 : Int32) (x1 : Int32) (x2 : Int32) (x3 : Int32) (nB : Int32) (y0 : Int32) (y1 : Int32) (y2 : Int32) (y3 : Int32) (ra : Addr) (rb : Addr) (i1 : Int32) (i2 : Int32)
    (X0 : Stand p l e room_1 s m args below meth c T0 locs 2 8) (hx : p.tables.exec = Jvm.exec) (hZ : Z.Warmed39 s.vm) (hw : ∀ d ∈ tables_1, d.before a0 Z = true) (hby : c.code = code) (hml : c.maxLocals = 29) (hown : s.vm.findClass "com/example/caprice/caprice/solver/DomainsGatherReasonsPinLaw" = some m.cls) (e0 : T0.heap = h0) (N0 : Fr n0 locs) (O0 : Old Z n0 h0) (hd0 : ¬ ((p5 &&& (1 : Int32)) = (0 : Int32))) :
    ∃ (T' : State) (locs' : List Loc), Stand p l e room_1 s m args below meth c T' locs' 2 8 ∧ Fr n0 locs' ∧ T'.heap = h0 ∧ ∀ t, Steps p.tables e below (T'.setTop (mkF m 143 #[.val (.int p1), .val (.int p2), .val (.int p3), .val (.int p4), .val (.int p5), .val (.int nA), .val (.int x0), .val (.int x1), .val (.int x2), .val (.int x3), .val (.int nB), .val (.int y0), .val (.int y1), .val (.int y2), .val (.int y3), .val (.ref ra), .val (.ref rb), .val (.int i1), .val (.int i2), .val (.int (1 : Int32)), .unset, .unset, .unset, .unset, .unset, .unset, .unset, .unset, .unset] [])) t → Steps p.tables e below (T0.setTop (mkF m 129 #[.val (.int p1), .val (.int p2), .val (.int p3), .val (.int p4), .val (.int p5), .val (.int nA), .val (.int x0), .val (.int x1), .val (.int x2), .val (.int x3), .val (.int nB), .val (.int y0), .val (.int y1), .val (.int y2), .val (.int y3), .val (.ref ra), .val (.ref rb), .val (.int i1), .val (.int i2), .unset, .unset, .unset, .unset, .unset, .unset, .unset, .unset, .unset, .unset] [])) t := by
  refine ⟨T0, _, X0, N0, e0, fun t kt => ?_⟩
  show Steps p.tables e below (T0.setTop (mkF m 129 #[.val (.int p1), .val (.int p2), .val (.int p3), .val (.int p4), .val (.int p5), .val (.int nA), .val (.int x0), .val (.int x1), .val (.int x2), .val (.int x3), .val (.int nB), .val (.int y0), .val (.int y1), .val (.int y2), .val (.int y3), .val (.ref ra), .val (.ref rb), .val (.int i1), .val (.int i2), .unset, .unset, .unset, .unset, .unset, .unset, .unset, .unset, .unset, .unset] [])) _
  refine XS.iload X0.here hx rfl (hb hby at_129) rfl ?_
  show Steps p.tables e below (T0.setTop (mkF m 131 #[.val (.int p1), .val (.int p2), .val (.int p3), .val (.int p4), .val (.int p5), .val (.int nA), .val (.int x0), .val (.int x1), .val (.int x2), .val (.int x3), .val (.int nB), .val (.int y0), .val (.int y1), .val (.int y2), .val (.int y3), .val (.ref ra), .val (.ref rb), .val (.int i1), .val (.int i2), .unset, .unset, .unset, .unset, .unset, .unset, .unset, .unset, .unset, .unset] [(.int p5)])) _
  refine XS.iconst X0.here hx rfl (hb hby at_131) ?_
  show Steps p.tables e below (T0.setTop (mkF m 132 #[.val (.int p1), .val (.int p2), .val (.int p3), .val (.int p4), .val (.int p5), .val (.int nA), .val (.int x0), .val (.int x1), .val (.int x2), .val (.int x3), .val (.int nB), .val (.int y0), .val (.int y1), .val (.int y2), .val (.int y3), .val (.ref ra), .val (.ref rb), .val (.int i1), .val (.int i2), .unset, .unset, .unset, .unset, .unset, .unset, .unset, .unset, .unset, .unset] [(.int (1 : Int32)), (.int p5)])) _
  refine XS.iand X0.here hx rfl (hb hby at_132) rfl ?_
  show Steps p.tables e below (T0.setTop (mkF m 133 #[.val (.int p1), .val (.int p2), .val (.int p3), .val (.int p4), .val (.int p5), .val (.int nA), .val (.int x0), .val (.int x1), .val (.int x2), .val (.int x3), .val (.int nB), .val (.int y0), .val (.int y1), .val (.int y2), .val (.int y3), .val (.ref ra), .val (.ref rb), .val (.int i1), .val (.int i2), .unset, .unset, .unset, .unset, .unset, .unset, .unset, .unset, .unset, .unset] [(.int (p5 &&& (1 : Int32)))])) _
  refine XS.ifNo X0.here hx rfl (hb hby at_133) rfl ((if0 _ _).trans (feq hd0).1) ?_
  show Steps p.tables e below (T0.setTop (mkF m 136 #[.val (.int p1), .val (.int p2), .val (.int p3), .val (.int p4), .val (.int p5), .val (.int nA), .val (.int x0), .val (.int x1), .val (.int x2), .val (.int x3), .val (.int nB), .val (.int y0), .val (.int y1), .val (.int y2), .val (.int y3), .val (.ref ra), .val (.ref rb), .val (.int i1), .val (.int i2), .unset, .unset, .unset, .unset, .unset, .unset, .unset, .unset, .unset, .unset] [])) _
  refine XS.iconst X0.here hx rfl (hb hby at_136) ?_
  show Steps p.tables e below (T0.setTop (mkF m 137 #[.val (.int p1), .val (.int p2), .val (.int p3), .val (.int p4), .val (.int p5), .val (.int nA), .val (.int x0), .val (.int x1), .val (.int x2), .val (.int x3), .val (.int nB), .val (.int y0), .val (.int y1), .val (.int y2), .val (.int y3), .val (.ref ra), .val (.ref rb), .val (.int i1), .val (.int i2), .unset, .unset, .unset, .unset, .unset, .unset, .unset, .unset, .unset, .unset] [(.int (1 : Int32))])) _
  refine XS.goto X0.here hx rfl (pc0 := 137) (pc' := 141) rfl (hb hby at_137) (by decide) (by decide) ?_
  show Steps p.tables e below (T0.setTop (mkF m 141 #[.val (.int p1), .val (.int p2), .val (.int p3), .val (.int p4), .val (.int p5), .val (.int nA), .val (.int x0), .val (.int x1), .val (.int x2), .val (.int x3), .val (.int nB), .val (.int y0), .val (.int y1), .val (.int y2), .val (.int y3), .val (.ref ra), .val (.ref rb), .val (.int i1), .val (.int i2), .unset, .unset, .unset, .unset, .unset, .unset, .unset, .unset, .unset, .unset] [(.int (1 : Int32))])) _
  refine XS.istore X0.here hx rfl (hb hby at_141) rfl (l' := #[.val (.int p1), .val (.int p2), .val (.int p3), .val (.int p4), .val (.int p5), .val (.int nA), .val (.int x0), .val (.int x1), .val (.int x2), .val (.int x3), .val (.int nB), .val (.int y0), .val (.int y1), .val (.int y2), .val (.int y3), .val (.ref ra), .val (.ref rb), .val (.int i1), .val (.int i2), .val (.int (1 : Int32)), .unset, .unset, .unset, .unset, .unset, .unset, .unset, .unset, .unset]) rfl ?_
  show Steps p.tables e below (T0.setTop (mkF m 143 #[.val (.int p1), .val (.int p2), .val (.int p3), .val (.int p4), .val (.int p5), .val (.int nA), .val (.int x0), .val (.int x1), .val (.int x2), .val (.int x3), .val (.int nB), .val (.int y0), .val (.int y1), .val (.int y2), .val (.int y3), .val (.ref ra), .val (.ref rb), .val (.int i1), .val (.int i2), .val (.int (1 : Int32)), .unset, .unset, .unset, .unset, .unset, .unset, .unset, .unset, .unset] [])) _
  exact kt
set_option maxRecDepth 65536 in
set_option maxHeartbeats 40000000 in
theorem qF1 {p : Program} {l : Launch} {e : Env} {s : State} {m : MethodId} {args : Array Value} {below : List Frame} {meth : Method} {c : Code} {T0 : State} {locs : List Loc} {Z : State} {a0 : Array Value} {h0 : Heap} {n0 : Nat} (p1 : Int32) (p2 : Int32) (p3 : Int32) (p4 : Int32) (p5 : Int32) (nA : Int32) (x0 : Int32) (x1 : Int32) (x2 : Int32) (x3 : Int32) (nB : Int32) (y0 : Int32) (y1 : Int32) (y2 : Int32) (y3 : Int32) (ra : Addr) (rb : Addr) (i1 : Int32) (i2 : Int32) (bo : Int32)
    (X0 : Stand p l e room_1 s m args below meth c T0 locs 2 8) (hx : p.tables.exec = Jvm.exec) (hZ : Z.Warmed39 s.vm) (hw : ∀ d ∈ tables_1, d.before a0 Z = true) (hby : c.code = code) (hml : c.maxLocals = 29) (hown : s.vm.findClass "com/example/caprice/caprice/solver/DomainsGatherReasonsPinLaw" = some m.cls) (e0 : T0.heap = h0) (N0 : Fr n0 locs) (O0 : Old Z n0 h0) (hd0 : ¬ ((p5 &&& (2 : Int32)) = (0 : Int32))) :
    ∃ (T' : State) (locs' : List Loc), Stand p l e room_1 s m args below meth c T' locs' 2 8 ∧ Fr n0 locs' ∧ T'.heap = h0 ∧ ∀ t, Steps p.tables e below (T'.setTop (mkF m 157 #[.val (.int p1), .val (.int p2), .val (.int p3), .val (.int p4), .val (.int p5), .val (.int nA), .val (.int x0), .val (.int x1), .val (.int x2), .val (.int x3), .val (.int nB), .val (.int y0), .val (.int y1), .val (.int y2), .val (.int y3), .val (.ref ra), .val (.ref rb), .val (.int i1), .val (.int i2), .val (.int bo), .val (.int (1 : Int32)), .unset, .unset, .unset, .unset, .unset, .unset, .unset, .unset] [])) t → Steps p.tables e below (T0.setTop (mkF m 143 #[.val (.int p1), .val (.int p2), .val (.int p3), .val (.int p4), .val (.int p5), .val (.int nA), .val (.int x0), .val (.int x1), .val (.int x2), .val (.int x3), .val (.int nB), .val (.int y0), .val (.int y1), .val (.int y2), .val (.int y3), .val (.ref ra), .val (.ref rb), .val (.int i1), .val (.int i2), .val (.int bo), .unset, .unset, .unset, .unset, .unset, .unset, .unset, .unset, .unset] [])) t := by
  refine ⟨T0, _, X0, N0, e0, fun t kt => ?_⟩
  show Steps p.tables e below (T0.setTop (mkF m 143 #[.val (.int p1), .val (.int p2), .val (.int p3), .val (.int p4), .val (.int p5), .val (.int nA), .val (.int x0), .val (.int x1), .val (.int x2), .val (.int x3), .val (.int nB), .val (.int y0), .val (.int y1), .val (.int y2), .val (.int y3), .val (.ref ra), .val (.ref rb), .val (.int i1), .val (.int i2), .val (.int bo), .unset, .unset, .unset, .unset, .unset, .unset, .unset, .unset, .unset] [])) _
  refine XS.iload X0.here hx rfl (hb hby at_143) rfl ?_
  show Steps p.tables e below (T0.setTop (mkF m 145 #[.val (.int p1), .val (.int p2), .val (.int p3), .val (.int p4), .val (.int p5), .val (.int nA), .val (.int x0), .val (.int x1), .val (.int x2), .val (.int x3), .val (.int nB), .val (.int y0), .val (.int y1), .val (.int y2), .val (.int y3), .val (.ref ra), .val (.ref rb), .val (.int i1), .val (.int i2), .val (.int bo), .unset, .unset, .unset, .unset, .unset, .unset, .unset, .unset, .unset] [(.int p5)])) _
  refine XS.iconst X0.here hx rfl (hb hby at_145) ?_
  show Steps p.tables e below (T0.setTop (mkF m 146 #[.val (.int p1), .val (.int p2), .val (.int p3), .val (.int p4), .val (.int p5), .val (.int nA), .val (.int x0), .val (.int x1), .val (.int x2), .val (.int x3), .val (.int nB), .val (.int y0), .val (.int y1), .val (.int y2), .val (.int y3), .val (.ref ra), .val (.ref rb), .val (.int i1), .val (.int i2), .val (.int bo), .unset, .unset, .unset, .unset, .unset, .unset, .unset, .unset, .unset] [(.int (2 : Int32)), (.int p5)])) _
  refine XS.iand X0.here hx rfl (hb hby at_146) rfl ?_
  show Steps p.tables e below (T0.setTop (mkF m 147 #[.val (.int p1), .val (.int p2), .val (.int p3), .val (.int p4), .val (.int p5), .val (.int nA), .val (.int x0), .val (.int x1), .val (.int x2), .val (.int x3), .val (.int nB), .val (.int y0), .val (.int y1), .val (.int y2), .val (.int y3), .val (.ref ra), .val (.ref rb), .val (.int i1), .val (.int i2), .val (.int bo), .unset, .unset, .unset, .unset, .unset, .unset, .unset, .unset, .unset] [(.int (p5 &&& (2 : Int32)))])) _
  refine XS.ifNo X0.here hx rfl (hb hby at_147) rfl ((if0 _ _).trans (feq hd0).1) ?_
  show Steps p.tables e below (T0.setTop (mkF m 150 #[.val (.int p1), .val (.int p2), .val (.int p3), .val (.int p4), .val (.int p5), .val (.int nA), .val (.int x0), .val (.int x1), .val (.int x2), .val (.int x3), .val (.int nB), .val (.int y0), .val (.int y1), .val (.int y2), .val (.int y3), .val (.ref ra), .val (.ref rb), .val (.int i1), .val (.int i2), .val (.int bo), .unset, .unset, .unset, .unset, .unset, .unset, .unset, .unset, .unset] [])) _
  refine XS.iconst X0.here hx rfl (hb hby at_150) ?_
  show Steps p.tables e below (T0.setTop (mkF m 151 #[.val (.int p1), .val (.int p2), .val (.int p3), .val (.int p4), .val (.int p5), .val (.int nA), .val (.int x0), .val (.int x1), .val (.int x2), .val (.int x3), .val (.int nB), .val (.int y0), .val (.int y1), .val (.int y2), .val (.int y3), .val (.ref ra), .val (.ref rb), .val (.int i1), .val (.int i2), .val (.int bo), .unset, .unset, .unset, .unset, .unset, .unset, .unset, .unset, .unset] [(.int (1 : Int32))])) _
  refine XS.goto X0.here hx rfl (pc0 := 151) (pc' := 155) rfl (hb hby at_151) (by decide) (by decide) ?_
  show Steps p.tables e below (T0.setTop (mkF m 155 #[.val (.int p1), .val (.int p2), .val (.int p3), .val (.int p4), .val (.int p5), .val (.int nA), .val (.int x0), .val (.int x1), .val (.int x2), .val (.int x3), .val (.int nB), .val (.int y0), .val (.int y1), .val (.int y2), .val (.int y3), .val (.ref ra), .val (.ref rb), .val (.int i1), .val (.int i2), .val (.int bo), .unset, .unset, .unset, .unset, .unset, .unset, .unset, .unset, .unset] [(.int (1 : Int32))])) _
  refine XS.istore X0.here hx rfl (hb hby at_155) rfl (l' := #[.val (.int p1), .val (.int p2), .val (.int p3), .val (.int p4), .val (.int p5), .val (.int nA), .val (.int x0), .val (.int x1), .val (.int x2), .val (.int x3), .val (.int nB), .val (.int y0), .val (.int y1), .val (.int y2), .val (.int y3), .val (.ref ra), .val (.ref rb), .val (.int i1), .val (.int i2), .val (.int bo), .val (.int (1 : Int32)), .unset, .unset, .unset, .unset, .unset, .unset, .unset, .unset]) rfl ?_
  show Steps p.tables e below (T0.setTop (mkF m 157 #[.val (.int p1), .val (.int p2), .val (.int p3), .val (.int p4), .val (.int p5), .val (.int nA), .val (.int x0), .val (.int x1), .val (.int x2), .val (.int x3), .val (.int nB), .val (.int y0), .val (.int y1), .val (.int y2), .val (.int y3), .val (.ref ra), .val (.ref rb), .val (.int i1), .val (.int i2), .val (.int bo), .val (.int (1 : Int32)), .unset, .unset, .unset, .unset, .unset, .unset, .unset, .unset] [])) _
  exact kt
set_option maxRecDepth 65536 in
set_option maxHeartbeats 40000000 in
theorem qG {p : Program} {l : Launch} {e : Env} {s : State} {m : MethodId} {args : Array Value} {below : List Frame} {meth : Method} {c : Code} {T0 : State} {locs : List Loc} {Z : State} {a0 : Array Value} {h0 : Heap} {n0 : Nat} (p1 : Int32) (p2 : Int32) (p3 : Int32) (p4 : Int32) (p5 : Int32) (nA : Int32) (x0 : Int32) (x1 : Int32) (x2 : Int32) (x3 : Int32) (nB : Int32) (y0 : Int32) (y1 : Int32) (y2 : Int32) (y3 : Int32) (ra : Addr) (rb : Addr) (i1 : Int32) (i2 : Int32) (bo : Int32) (ag : Int32)
    (X0 : Stand p l e room_1 s m args below meth c T0 locs 2 8) (hx : p.tables.exec = Jvm.exec) (hZ : Z.Warmed39 s.vm) (hw : ∀ d ∈ tables_1, d.before a0 Z = true) (hby : c.code = code) (hml : c.maxLocals = 29) (hown : s.vm.findClass "com/example/caprice/caprice/solver/DomainsGatherReasonsPinLaw" = some m.cls) (e0 : T0.heap = h0) (N0 : Fr n0 locs) (O0 : Old Z n0 h0) :
    ∃ (T' : State) (locs' : List Loc) (b1 : Addr) (b2 : Addr) (kk_b2 : ClassId), Stand p l e room_1 s m args below meth c T' locs' 4 20 ∧ Fr n0 locs' ∧ Keep h0 T'.heap [] ∧ Old Z n0 T'.heap ∧ h0.size ≤ b1 ∧ h0.size ≤ b2 ∧ b1 < b2 ∧ Arv Z T'.heap b2 kk_b2 .int (4 : Int32) [(.int (2 : Int32)), (.int (2 : Int32)), (.int (2 : Int32)), (.int (2 : Int32))] (.int (0 : Int32)) ∧ Exa Z T'.heap b2 "[I" ∧ Exa Z T'.heap b1 "com/example/caprice/caprice/solver/Domains" ∧ Fld Z T'.heap b1 "com/example/caprice/caprice/solver/Domains" "reasons" "[[[I" .null ∧ Fld Z T'.heap b1 "com/example/caprice/caprice/solver/Domains" "left" "[I" .null ∧ Fld Z T'.heap b1 "com/example/caprice/caprice/solver/Domains" "leftMasks" "[J" .null ∧ Fld Z T'.heap b1 "com/example/caprice/caprice/solver/Domains" "trail" "[I" .null ∧ Fld Z T'.heap b1 "com/example/caprice/caprice/solver/Domains" "gathered" "[I" .null ∧ Fld Z T'.heap b1 "com/example/caprice/caprice/solver/Domains" "marked" "[Z" .null ∧ Fld Z T'.heap b1 "com/example/caprice/caprice/solver/Domains" "trailSize" "I" (.int (0 : Int32)) ∧ Fld Z T'.heap b1 "com/example/caprice/caprice/solver/Domains" "gatheredCount" "I" (.int (0 : Int32)) ∧ True ∧ ∀ t, Steps p.tables e below (T'.setTop (mkF m 180 #[.val (.int p1), .val (.int p2), .val (.int p3), .val (.int p4), .val (.int p5), .val (.int nA), .val (.int x0), .val (.int x1), .val (.int x2), .val (.int x3), .val (.int nB), .val (.int y0), .val (.int y1), .val (.int y2), .val (.int y3), .val (.ref ra), .val (.ref rb), .val (.int i1), .val (.int i2), .val (.int bo), .val (.int ag), .unset, .unset, .unset, .unset, .unset, .unset, .unset, .unset] [(.ref b2), (.ref b1), (.ref b1)])) t → Steps p.tables e below (T0.setTop (mkF m 157 #[.val (.int p1), .val (.int p2), .val (.int p3), .val (.int p4), .val (.int p5), .val (.int nA), .val (.int x0), .val (.int x1), .val (.int x2), .val (.int x3), .val (.int nB), .val (.int y0), .val (.int y1), .val (.int y2), .val (.int y3), .val (.ref ra), .val (.ref rb), .val (.int i1), .val (.int i2), .val (.int bo), .val (.int ag), .unset, .unset, .unset, .unset, .unset, .unset, .unset, .unset] [])) t := by
  obtain ⟨T1, h1, X1, e1, E1, A1, D1, -, st1⟩ := newO X0 hx hZ hown (hw _ (List.mem_of_getElem? (i := 5) rfl)) (hw _ (List.mem_of_getElem? (i := 6) rfl)) (hw _ (List.mem_of_getElem? (i := 7) rfl)) e0 (g := (mkF m 157 #[.val (.int p1), .val (.int p2), .val (.int p3), .val (.int p4), .val (.int p5), .val (.int nA), .val (.int x0), .val (.int x1), .val (.int x2), .val (.int x3), .val (.int nB), .val (.int y0), .val (.int y1), .val (.int y2), .val (.int y3), .val (.ref ra), .val (.ref rb), .val (.int i1), .val (.int i2), .val (.int bo), .val (.int ag), .unset, .unset, .unset, .unset, .unset, .unset, .unset, .unset] [])) rfl (hb hby at_157) (by decide) (by decide)
  obtain ⟨b1, gg1⟩ : ∃ z, z = h0.size := ⟨_, rfl⟩
  rw [← gg1] at A1 D1 st1
  have bo_b1 : h0.size ≤ b1 := Nat.le_of_eq gg1.symm
  have g_b1 : n0 ≤ b1 := Nat.le_trans (own_n0 O0) bo_b1
  have sz_b1 : h0.size ≤ b1 := Nat.le_trans (Keep.refl h0 []).1 bo_b1
  have KK1 : Keep h0 h1 [] := (Keep.refl h0 []).ext E1
  have O1 := O0.ext E1
  have lb_b1 : b1 < h1.size := A1.lt
  have F_reasons_b1 : Fld Z h1 b1 "com/example/caprice/caprice/solver/Domains" "reasons" "[[[I" .null := D1 (Or.inr (hw _ (List.mem_of_getElem? (i := 17) rfl))) (ty := (.array (.array (.array .int)))) (by decide)
  have F_left_b1 : Fld Z h1 b1 "com/example/caprice/caprice/solver/Domains" "left" "[I" .null := D1 (Or.inr (hw _ (List.mem_of_getElem? (i := 19) rfl))) (ty := (.array .int)) (by decide)
  have F_leftMasks_b1 : Fld Z h1 b1 "com/example/caprice/caprice/solver/Domains" "leftMasks" "[J" .null := D1 (Or.inr (hw _ (List.mem_of_getElem? (i := 22) rfl))) (ty := (.array .long)) (by decide)
  have F_trail_b1 : Fld Z h1 b1 "com/example/caprice/caprice/solver/Domains" "trail" "[I" .null := D1 (Or.inr (hw _ (List.mem_of_getElem? (i := 30) rfl))) (ty := (.array .int)) (by decide)
  have F_gathered_b1 : Fld Z h1 b1 "com/example/caprice/caprice/solver/Domains" "gathered" "[I" .null := D1 (Or.inr (hw _ (List.mem_of_getElem? (i := 32) rfl))) (ty := (.array .int)) (by decide)
  have F_marked_b1 : Fld Z h1 b1 "com/example/caprice/caprice/solver/Domains" "marked" "[Z" .null := D1 (Or.inr (hw _ (List.mem_of_getElem? (i := 35) rfl))) (ty := (.array .boolean)) (by decide)
  have F_trailSize_b1 : Fld Z h1 b1 "com/example/caprice/caprice/solver/Domains" "trailSize" "I" (.int (0 : Int32)) := D1 (Or.inl (hw _ (List.mem_of_getElem? (i := 44) rfl))) (ty := .int) (by decide)
  have F_gatheredCount_b1 : Fld Z h1 b1 "com/example/caprice/caprice/solver/Domains" "gatheredCount" "I" (.int (0 : Int32)) := D1 (Or.inl (hw _ (List.mem_of_getElem? (i := 56) rfl))) (ty := .int) (by decide)
  obtain ⟨T2, h2, k2, X2, e2, E2, A2, B2, st2⟩ := newPE X1 hx hZ (hw _ (List.mem_of_getElem? (i := 4) rfl)) e1 (g := (mkF m 162 #[.val (.int p1), .val (.int p2), .val (.int p3), .val (.int p4), .val (.int p5), .val (.int nA), .val (.int x0), .val (.int x1), .val (.int x2), .val (.int x3), .val (.int nB), .val (.int y0), .val (.int y1), .val (.int y2), .val (.int y3), .val (.ref ra), .val (.ref rb), .val (.int i1), .val (.int i2), .val (.int bo), .val (.int ag), .unset, .unset, .unset, .unset, .unset, .unset, .unset, .unset] [(.int (4 : Int32)), (.ref b1), (.ref b1)])) rfl (hb hby at_162) rfl (by decide) (cap := 4) (by decide) (by decide) (by decide) (by decide) (ad := "[I") (by decide)
  obtain ⟨b2, gg2⟩ : ∃ z, z = h1.size := ⟨_, rfl⟩
  rw [← gg2] at A2 B2 st2
  have bo_b2 : h1.size ≤ b2 := Nat.le_of_eq gg2.symm
  have g_b2 : n0 ≤ b2 := Nat.le_trans (own_n0 O1) bo_b2
  have sz_b2 : h0.size ≤ b2 := Nat.le_trans KK1.1 bo_b2
  have V_b2 : Arv Z h2 b2 k2 .int (4 : Int32) [(.int (0 : Int32)), (.int (0 : Int32)), (.int (0 : Int32)), (.int (0 : Int32))] (.int (0 : Int32)) := (Arv.new A2 (by decide)).pad (pad_rep [] (.int (0 : Int32)) 4)
  have lb_b2 : b2 < h2.size := A2.lt
  have KK2 : Keep h0 h2 [] := KK1.ext E2
  have O2 := O1.ext E2
  obtain ⟨ac3, aA3, aq3, aS3, aN3, aH3, aG3⟩ := id V_b2
  obtain ⟨T4, h4, X4, e4, W4, st4⟩ := stI X2 hx hZ e2 aA3 (j := (0 : Int32)) (inb_of aS3 ⟨by decide, by decide⟩) (g := (mkF m 167 #[.val (.int p1), .val (.int p2), .val (.int p3), .val (.int p4), .val (.int p5), .val (.int nA), .val (.int x0), .val (.int x1), .val (.int x2), .val (.int x3), .val (.int nB), .val (.int y0), .val (.int y1), .val (.int y2), .val (.int y3), .val (.ref ra), .val (.ref rb), .val (.int i1), .val (.int i2), .val (.int bo), .val (.int ag), .unset, .unset, .unset, .unset, .unset, .unset, .unset, .unset] [(.int (2 : Int32)), (.int (0 : Int32)), (.ref b2), (.ref b2), (.ref b1), (.ref b1)])) rfl rfl (hb hby at_167)
  have V_b2_4 : Arv Z h4 b2 k2 .int (4 : Int32) [(.int (2 : Int32)), (.int (0 : Int32)), (.int (0 : Int32)), (.int (0 : Int32))] (.int (0 : Int32)) := Arv.set aA3 aq3 aS3 aN3 aH3 aG3 rfl W4 0 rfl (Nat.le_of_ble_eq_true rfl)
  have N4 := Fr.snoc X4 N0 g_b2
  have O4 := O2.wr W4 g_b2
  have KK4 : Keep h0 h4 [] := KK2.wr W4 (Or.inr sz_b2)
  obtain ⟨ac5, aA5, aq5, aS5, aN5, aH5, aG5⟩ := id V_b2_4
  obtain ⟨T6, h6, X6, e6, W6, st6⟩ := stI X4 hx hZ e4 aA5 (j := (1 : Int32)) (inb_of aS5 ⟨by decide, by decide⟩) (g := (mkF m 171 #[.val (.int p1), .val (.int p2), .val (.int p3), .val (.int p4), .val (.int p5), .val (.int nA), .val (.int x0), .val (.int x1), .val (.int x2), .val (.int x3), .val (.int nB), .val (.int y0), .val (.int y1), .val (.int y2), .val (.int y3), .val (.ref ra), .val (.ref rb), .val (.int i1), .val (.int i2), .val (.int bo), .val (.int ag), .unset, .unset, .unset, .unset, .unset, .unset, .unset, .unset] [(.int (2 : Int32)), (.int (1 : Int32)), (.ref b2), (.ref b2), (.ref b1), (.ref b1)])) rfl rfl (hb hby at_171)
  have V_b2_6 : Arv Z h6 b2 k2 .int (4 : Int32) [(.int (2 : Int32)), (.int (2 : Int32)), (.int (0 : Int32)), (.int (0 : Int32))] (.int (0 : Int32)) := Arv.set aA5 aq5 aS5 aN5 aH5 aG5 rfl W6 1 rfl (Nat.le_of_ble_eq_true rfl)
  have N6 := Fr.snoc X6 N4 g_b2
  have O6 := O4.wr W6 g_b2
  have KK6 : Keep h0 h6 [] := KK4.wr W6 (Or.inr sz_b2)
  obtain ⟨ac7, aA7, aq7, aS7, aN7, aH7, aG7⟩ := id V_b2_6
  obtain ⟨T8, h8, X8, e8, W8, st8⟩ := stI X6 hx hZ e6 aA7 (j := (2 : Int32)) (inb_of aS7 ⟨by decide, by decide⟩) (g := (mkF m 175 #[.val (.int p1), .val (.int p2), .val (.int p3), .val (.int p4), .val (.int p5), .val (.int nA), .val (.int x0), .val (.int x1), .val (.int x2), .val (.int x3), .val (.int nB), .val (.int y0), .val (.int y1), .val (.int y2), .val (.int y3), .val (.ref ra), .val (.ref rb), .val (.int i1), .val (.int i2), .val (.int bo), .val (.int ag), .unset, .unset, .unset, .unset, .unset, .unset, .unset, .unset] [(.int (2 : Int32)), (.int (2 : Int32)), (.ref b2), (.ref b2), (.ref b1), (.ref b1)])) rfl rfl (hb hby at_175)
  have V_b2_8 : Arv Z h8 b2 k2 .int (4 : Int32) [(.int (2 : Int32)), (.int (2 : Int32)), (.int (2 : Int32)), (.int (0 : Int32))] (.int (0 : Int32)) := Arv.set aA7 aq7 aS7 aN7 aH7 aG7 rfl W8 2 rfl (Nat.le_of_ble_eq_true rfl)
  have N8 := Fr.snoc X8 N6 g_b2
  have O8 := O6.wr W8 g_b2
  have KK8 : Keep h0 h8 [] := KK6.wr W8 (Or.inr sz_b2)
  obtain ⟨ac9, aA9, aq9, aS9, aN9, aH9, aG9⟩ := id V_b2_8
  obtain ⟨T10, h10, X10, e10, W10, st10⟩ := stI X8 hx hZ e8 aA9 (j := (3 : Int32)) (inb_of aS9 ⟨by decide, by decide⟩) (g := (mkF m 179 #[.val (.int p1), .val (.int p2), .val (.int p3), .val (.int p4), .val (.int p5), .val (.int nA), .val (.int x0), .val (.int x1), .val (.int x2), .val (.int x3), .val (.int nB), .val (.int y0), .val (.int y1), .val (.int y2), .val (.int y3), .val (.ref ra), .val (.ref rb), .val (.int i1), .val (.int i2), .val (.int bo), .val (.int ag), .unset, .unset, .unset, .unset, .unset, .unset, .unset, .unset] [(.int (2 : Int32)), (.int (3 : Int32)), (.ref b2), (.ref b2), (.ref b1), (.ref b1)])) rfl rfl (hb hby at_179)
  have V_b2_10 : Arv Z h10 b2 k2 .int (4 : Int32) [(.int (2 : Int32)), (.int (2 : Int32)), (.int (2 : Int32)), (.int (2 : Int32))] (.int (0 : Int32)) := Arv.set aA9 aq9 aS9 aN9 aH9 aG9 rfl W10 3 rfl (Nat.le_of_ble_eq_true rfl)
  have N10 := Fr.snoc X10 N8 g_b2
  have O10 := O8.wr W10 g_b2
  have KK10 : Keep h0 h10 [] := KK8.wr W10 (Or.inr sz_b2)
  have J11 := ((((B2.wr W4).wr W6).wr W8).wr W10)
  have J12 := (((((A1.ext E2).wr W4).wr W6).wr W8).wr W10)
  have J13 := (((((F_reasons_b1.ext E2).other W4 (Or.inl (Nat.ne_of_lt (Nat.lt_of_lt_of_le lb_b1 bo_b2)))).other W6 (Or.inl (Nat.ne_of_lt (Nat.lt_of_lt_of_le lb_b1 bo_b2)))).other W8 (Or.inl (Nat.ne_of_lt (Nat.lt_of_lt_of_le lb_b1 bo_b2)))).other W10 (Or.inl (Nat.ne_of_lt (Nat.lt_of_lt_of_le lb_b1 bo_b2))))
  have J14 := (((((F_left_b1.ext E2).other W4 (Or.inl (Nat.ne_of_lt (Nat.lt_of_lt_of_le lb_b1 bo_b2)))).other W6 (Or.inl (Nat.ne_of_lt (Nat.lt_of_lt_of_le lb_b1 bo_b2)))).other W8 (Or.inl (Nat.ne_of_lt (Nat.lt_of_lt_of_le lb_b1 bo_b2)))).other W10 (Or.inl (Nat.ne_of_lt (Nat.lt_of_lt_of_le lb_b1 bo_b2))))
  have J15 := (((((F_leftMasks_b1.ext E2).other W4 (Or.inl (Nat.ne_of_lt (Nat.lt_of_lt_of_le lb_b1 bo_b2)))).other W6 (Or.inl (Nat.ne_of_lt (Nat.lt_of_lt_of_le lb_b1 bo_b2)))).other W8 (Or.inl (Nat.ne_of_lt (Nat.lt_of_lt_of_le lb_b1 bo_b2)))).other W10 (Or.inl (Nat.ne_of_lt (Nat.lt_of_lt_of_le lb_b1 bo_b2))))
  have J16 := (((((F_trail_b1.ext E2).other W4 (Or.inl (Nat.ne_of_lt (Nat.lt_of_lt_of_le lb_b1 bo_b2)))).other W6 (Or.inl (Nat.ne_of_lt (Nat.lt_of_lt_of_le lb_b1 bo_b2)))).other W8 (Or.inl (Nat.ne_of_lt (Nat.lt_of_lt_of_le lb_b1 bo_b2)))).other W10 (Or.inl (Nat.ne_of_lt (Nat.lt_of_lt_of_le lb_b1 bo_b2))))
  have J17 := (((((F_gathered_b1.ext E2).other W4 (Or.inl (Nat.ne_of_lt (Nat.lt_of_lt_of_le lb_b1 bo_b2)))).other W6 (Or.inl (Nat.ne_of_lt (Nat.lt_of_lt_of_le lb_b1 bo_b2)))).other W8 (Or.inl (Nat.ne_of_lt (Nat.lt_of_lt_of_le lb_b1 bo_b2)))).other W10 (Or.inl (Nat.ne_of_lt (Nat.lt_of_lt_of_le lb_b1 bo_b2))))
  have J18 := (((((F_marked_b1.ext E2).other W4 (Or.inl (Nat.ne_of_lt (Nat.lt_of_lt_of_le lb_b1 bo_b2)))).other W6 (Or.inl (Nat.ne_of_lt (Nat.lt_of_lt_of_le lb_b1 bo_b2)))).other W8 (Or.inl (Nat.ne_of_lt (Nat.lt_of_lt_of_le lb_b1 bo_b2)))).other W10 (Or.inl (Nat.ne_of_lt (Nat.lt_of_lt_of_le lb_b1 bo_b2))))
  have J19 := (((((F_trailSize_b1.ext E2).other W4 (Or.inl (Nat.ne_of_lt (Nat.lt_of_lt_of_le lb_b1 bo_b2)))).other W6 (Or.inl (Nat.ne_of_lt (Nat.lt_of_lt_of_le lb_b1 bo_b2)))).other W8 (Or.inl (Nat.ne_of_lt (Nat.lt_of_lt_of_le lb_b1 bo_b2)))).other W10 (Or.inl (Nat.ne_of_lt (Nat.lt_of_lt_of_le lb_b1 bo_b2))))
  have J20 := (((((F_gatheredCount_b1.ext E2).other W4 (Or.inl (Nat.ne_of_lt (Nat.lt_of_lt_of_le lb_b1 bo_b2)))).other W6 (Or.inl (Nat.ne_of_lt (Nat.lt_of_lt_of_le lb_b1 bo_b2)))).other W8 (Or.inl (Nat.ne_of_lt (Nat.lt_of_lt_of_le lb_b1 bo_b2)))).other W10 (Or.inl (Nat.ne_of_lt (Nat.lt_of_lt_of_le lb_b1 bo_b2))))
  refine ⟨T10, _, b1, b2, k2, X10, N10, (by rw [e10]; exact KK10), (by rw [e10]; exact O10), sz_b1, sz_b2, (Nat.lt_of_lt_of_le lb_b1 bo_b2), (by rw [e10]; exact V_b2_10), (by rw [e10]; exact J11), (by rw [e10]; exact J12), (by rw [e10]; exact J13), (by rw [e10]; exact J14), (by rw [e10]; exact J15), (by rw [e10]; exact J16), (by rw [e10]; exact J17), (by rw [e10]; exact J18), (by rw [e10]; exact J19), (by rw [e10]; exact J20), trivial, fun t kt => ?_⟩
  show Steps p.tables e below (T0.setTop (mkF m 157 #[.val (.int p1), .val (.int p2), .val (.int p3), .val (.int p4), .val (.int p5), .val (.int nA), .val (.int x0), .val (.int x1), .val (.int x2), .val (.int x3), .val (.int nB), .val (.int y0), .val (.int y1), .val (.int y2), .val (.int y3), .val (.ref ra), .val (.ref rb), .val (.int i1), .val (.int i2), .val (.int bo), .val (.int ag), .unset, .unset, .unset, .unset, .unset, .unset, .unset, .unset] [])) _
  refine st1 _ ?_
  show Steps p.tables e below (T1.setTop (mkF m 160 #[.val (.int p1), .val (.int p2), .val (.int p3), .val (.int p4), .val (.int p5), .val (.int nA), .val (.int x0), .val (.int x1), .val (.int x2), .val (.int x3), .val (.int nB), .val (.int y0), .val (.int y1), .val (.int y2), .val (.int y3), .val (.ref ra), .val (.ref rb), .val (.int i1), .val (.int i2), .val (.int bo), .val (.int ag), .unset, .unset, .unset, .unset, .unset, .unset, .unset, .unset] [(.ref b1)])) _
  refine XS.dup X1.here hx rfl (hb hby at_160) rfl rfl ?_
  show Steps p.tables e below (T1.setTop (mkF m 161 #[.val (.int p1), .val (.int p2), .val (.int p3), .val (.int p4), .val (.int p5), .val (.int nA), .val (.int x0), .val (.int x1), .val (.int x2), .val (.int x3), .val (.int nB), .val (.int y0), .val (.int y1), .val (.int y2), .val (.int y3), .val (.ref ra), .val (.ref rb), .val (.int i1), .val (.int i2), .val (.int bo), .val (.int ag), .unset, .unset, .unset, .unset, .unset, .unset, .unset, .unset] [(.ref b1), (.ref b1)])) _
  refine XS.iconst X1.here hx rfl (hb hby at_161) ?_
  show Steps p.tables e below (T1.setTop (mkF m 162 #[.val (.int p1), .val (.int p2), .val (.int p3), .val (.int p4), .val (.int p5), .val (.int nA), .val (.int x0), .val (.int x1), .val (.int x2), .val (.int x3), .val (.int nB), .val (.int y0), .val (.int y1), .val (.int y2), .val (.int y3), .val (.ref ra), .val (.ref rb), .val (.int i1), .val (.int i2), .val (.int bo), .val (.int ag), .unset, .unset, .unset, .unset, .unset, .unset, .unset, .unset] [(.int (4 : Int32)), (.ref b1), (.ref b1)])) _
  refine st2 _ ?_
  show Steps p.tables e below (T2.setTop (mkF m 164 #[.val (.int p1), .val (.int p2), .val (.int p3), .val (.int p4), .val (.int p5), .val (.int nA), .val (.int x0), .val (.int x1), .val (.int x2), .val (.int x3), .val (.int nB), .val (.int y0), .val (.int y1), .val (.int y2), .val (.int y3), .val (.ref ra), .val (.ref rb), .val (.int i1), .val (.int i2), .val (.int bo), .val (.int ag), .unset, .unset, .unset, .unset, .unset, .unset, .unset, .unset] [(.ref b2), (.ref b1), (.ref b1)])) _
  refine XS.dup X2.here hx rfl (hb hby at_164) rfl rfl ?_
  show Steps p.tables e below (T2.setTop (mkF m 165 #[.val (.int p1), .val (.int p2), .val (.int p3), .val (.int p4), .val (.int p5), .val (.int nA), .val (.int x0), .val (.int x1), .val (.int x2), .val (.int x3), .val (.int nB), .val (.int y0), .val (.int y1), .val (.int y2), .val (.int y3), .val (.ref ra), .val (.ref rb), .val (.int i1), .val (.int i2), .val (.int bo), .val (.int ag), .unset, .unset, .unset, .unset, .unset, .unset, .unset, .unset] [(.ref b2), (.ref b2), (.ref b1), (.ref b1)])) _
  refine XS.iconst X2.here hx rfl (hb hby at_165) ?_
  show Steps p.tables e below (T2.setTop (mkF m 166 #[.val (.int p1), .val (.int p2), .val (.int p3), .val (.int p4), .val (.int p5), .val (.int nA), .val (.int x0), .val (.int x1), .val (.int x2), .val (.int x3), .val (.int nB), .val (.int y0), .val (.int y1), .val (.int y2), .val (.int y3), .val (.ref ra), .val (.ref rb), .val (.int i1), .val (.int i2), .val (.int bo), .val (.int ag), .unset, .unset, .unset, .unset, .unset, .unset, .unset, .unset] [(.int (0 : Int32)), (.ref b2), (.ref b2), (.ref b1), (.ref b1)])) _
  refine XS.iconst X2.here hx rfl (hb hby at_166) ?_
  show Steps p.tables e below (T2.setTop (mkF m 167 #[.val (.int p1), .val (.int p2), .val (.int p3), .val (.int p4), .val (.int p5), .val (.int nA), .val (.int x0), .val (.int x1), .val (.int x2), .val (.int x3), .val (.int nB), .val (.int y0), .val (.int y1), .val (.int y2), .val (.int y3), .val (.ref ra), .val (.ref rb), .val (.int i1), .val (.int i2), .val (.int bo), .val (.int ag), .unset, .unset, .unset, .unset, .unset, .unset, .unset, .unset] [(.int (2 : Int32)), (.int (0 : Int32)), (.ref b2), (.ref b2), (.ref b1), (.ref b1)])) _
  refine st4 _ ?_
  show Steps p.tables e below (T4.setTop (mkF m 168 #[.val (.int p1), .val (.int p2), .val (.int p3), .val (.int p4), .val (.int p5), .val (.int nA), .val (.int x0), .val (.int x1), .val (.int x2), .val (.int x3), .val (.int nB), .val (.int y0), .val (.int y1), .val (.int y2), .val (.int y3), .val (.ref ra), .val (.ref rb), .val (.int i1), .val (.int i2), .val (.int bo), .val (.int ag), .unset, .unset, .unset, .unset, .unset, .unset, .unset, .unset] [(.ref b2), (.ref b1), (.ref b1)])) _
  refine XS.dup X4.here hx rfl (hb hby at_168) rfl rfl ?_
  show Steps p.tables e below (T4.setTop (mkF m 169 #[.val (.int p1), .val (.int p2), .val (.int p3), .val (.int p4), .val (.int p5), .val (.int nA), .val (.int x0), .val (.int x1), .val (.int x2), .val (.int x3), .val (.int nB), .val (.int y0), .val (.int y1), .val (.int y2), .val (.int y3), .val (.ref ra), .val (.ref rb), .val (.int i1), .val (.int i2), .val (.int bo), .val (.int ag), .unset, .unset, .unset, .unset, .unset, .unset, .unset, .unset] [(.ref b2), (.ref b2), (.ref b1), (.ref b1)])) _
  refine XS.iconst X4.here hx rfl (hb hby at_169) ?_
  show Steps p.tables e below (T4.setTop (mkF m 170 #[.val (.int p1), .val (.int p2), .val (.int p3), .val (.int p4), .val (.int p5), .val (.int nA), .val (.int x0), .val (.int x1), .val (.int x2), .val (.int x3), .val (.int nB), .val (.int y0), .val (.int y1), .val (.int y2), .val (.int y3), .val (.ref ra), .val (.ref rb), .val (.int i1), .val (.int i2), .val (.int bo), .val (.int ag), .unset, .unset, .unset, .unset, .unset, .unset, .unset, .unset] [(.int (1 : Int32)), (.ref b2), (.ref b2), (.ref b1), (.ref b1)])) _
  refine XS.iconst X4.here hx rfl (hb hby at_170) ?_
  show Steps p.tables e below (T4.setTop (mkF m 171 #[.val (.int p1), .val (.int p2), .val (.int p3), .val (.int p4), .val (.int p5), .val (.int nA), .val (.int x0), .val (.int x1), .val (.int x2), .val (.int x3), .val (.int nB), .val (.int y0), .val (.int y1), .val (.int y2), .val (.int y3), .val (.ref ra), .val (.ref rb), .val (.int i1), .val (.int i2), .val (.int bo), .val (.int ag), .unset, .unset, .unset, .unset, .unset, .unset, .unset, .unset] [(.int (2 : Int32)), (.int (1 : Int32)), (.ref b2), (.ref b2), (.ref b1), (.ref b1)])) _
  refine st6 _ ?_
  show Steps p.tables e below (T6.setTop (mkF m 172 #[.val (.int p1), .val (.int p2), .val (.int p3), .val (.int p4), .val (.int p5), .val (.int nA), .val (.int x0), .val (.int x1), .val (.int x2), .val (.int x3), .val (.int nB), .val (.int y0), .val (.int y1), .val (.int y2), .val (.int y3), .val (.ref ra), .val (.ref rb), .val (.int i1), .val (.int i2), .val (.int bo), .val (.int ag), .unset, .unset, .unset, .unset, .unset, .unset, .unset, .unset] [(.ref b2), (.ref b1), (.ref b1)])) _
  refine XS.dup X6.here hx rfl (hb hby at_172) rfl rfl ?_
  show Steps p.tables e below (T6.setTop (mkF m 173 #[.val (.int p1), .val (.int p2), .val (.int p3), .val (.int p4), .val (.int p5), .val (.int nA), .val (.int x0), .val (.int x1), .val (.int x2), .val (.int x3), .val (.int nB), .val (.int y0), .val (.int y1), .val (.int y2), .val (.int y3), .val (.ref ra), .val (.ref rb), .val (.int i1), .val (.int i2), .val (.int bo), .val (.int ag), .unset, .unset, .unset, .unset, .unset, .unset, .unset, .unset] [(.ref b2), (.ref b2), (.ref b1), (.ref b1)])) _
  refine XS.iconst X6.here hx rfl (hb hby at_173) ?_
  show Steps p.tables e below (T6.setTop (mkF m 174 #[.val (.int p1), .val (.int p2), .val (.int p3), .val (.int p4), .val (.int p5), .val (.int nA), .val (.int x0), .val (.int x1), .val (.int x2), .val (.int x3), .val (.int nB), .val (.int y0), .val (.int y1), .val (.int y2), .val (.int y3), .val (.ref ra), .val (.ref rb), .val (.int i1), .val (.int i2), .val (.int bo), .val (.int ag), .unset, .unset, .unset, .unset, .unset, .unset, .unset, .unset] [(.int (2 : Int32)), (.ref b2), (.ref b2), (.ref b1), (.ref b1)])) _
  refine XS.iconst X6.here hx rfl (hb hby at_174) ?_
  show Steps p.tables e below (T6.setTop (mkF m 175 #[.val (.int p1), .val (.int p2), .val (.int p3), .val (.int p4), .val (.int p5), .val (.int nA), .val (.int x0), .val (.int x1), .val (.int x2), .val (.int x3), .val (.int nB), .val (.int y0), .val (.int y1), .val (.int y2), .val (.int y3), .val (.ref ra), .val (.ref rb), .val (.int i1), .val (.int i2), .val (.int bo), .val (.int ag), .unset, .unset, .unset, .unset, .unset, .unset, .unset, .unset] [(.int (2 : Int32)), (.int (2 : Int32)), (.ref b2), (.ref b2), (.ref b1), (.ref b1)])) _
  refine st8 _ ?_
  show Steps p.tables e below (T8.setTop (mkF m 176 #[.val (.int p1), .val (.int p2), .val (.int p3), .val (.int p4), .val (.int p5), .val (.int nA), .val (.int x0), .val (.int x1), .val (.int x2), .val (.int x3), .val (.int nB), .val (.int y0), .val (.int y1), .val (.int y2), .val (.int y3), .val (.ref ra), .val (.ref rb), .val (.int i1), .val (.int i2), .val (.int bo), .val (.int ag), .unset, .unset, .unset, .unset, .unset, .unset, .unset, .unset] [(.ref b2), (.ref b1), (.ref b1)])) _
  refine XS.dup X8.here hx rfl (hb hby at_176) rfl rfl ?_
  show Steps p.tables e below (T8.setTop (mkF m 177 #[.val (.int p1), .val (.int p2), .val (.int p3), .val (.int p4), .val (.int p5), .val (.int nA), .val (.int x0), .val (.int x1), .val (.int x2), .val (.int x3), .val (.int nB), .val (.int y0), .val (.int y1), .val (.int y2), .val (.int y3), .val (.ref ra), .val (.ref rb), .val (.int i1), .val (.int i2), .val (.int bo), .val (.int ag), .unset, .unset, .unset, .unset, .unset, .unset, .unset, .unset] [(.ref b2), (.ref b2), (.ref b1), (.ref b1)])) _
  refine XS.iconst X8.here hx rfl (hb hby at_177) ?_
  show Steps p.tables e below (T8.setTop (mkF m 178 #[.val (.int p1), .val (.int p2), .val (.int p3), .val (.int p4), .val (.int p5), .val (.int nA), .val (.int x0), .val (.int x1), .val (.int x2), .val (.int x3), .val (.int nB), .val (.int y0), .val (.int y1), .val (.int y2), .val (.int y3), .val (.ref ra), .val (.ref rb), .val (.int i1), .val (.int i2), .val (.int bo), .val (.int ag), .unset, .unset, .unset, .unset, .unset, .unset, .unset, .unset] [(.int (3 : Int32)), (.ref b2), (.ref b2), (.ref b1), (.ref b1)])) _
  refine XS.iconst X8.here hx rfl (hb hby at_178) ?_
  show Steps p.tables e below (T8.setTop (mkF m 179 #[.val (.int p1), .val (.int p2), .val (.int p3), .val (.int p4), .val (.int p5), .val (.int nA), .val (.int x0), .val (.int x1), .val (.int x2), .val (.int x3), .val (.int nB), .val (.int y0), .val (.int y1), .val (.int y2), .val (.int y3), .val (.ref ra), .val (.ref rb), .val (.int i1), .val (.int i2), .val (.int bo), .val (.int ag), .unset, .unset, .unset, .unset, .unset, .unset, .unset, .unset] [(.int (2 : Int32)), (.int (3 : Int32)), (.ref b2), (.ref b2), (.ref b1), (.ref b1)])) _
  refine st10 _ ?_
  show Steps p.tables e below (T10.setTop (mkF m 180 #[.val (.int p1), .val (.int p2), .val (.int p3), .val (.int p4), .val (.int p5), .val (.int nA), .val (.int x0), .val (.int x1), .val (.int x2), .val (.int x3), .val (.int nB), .val (.int y0), .val (.int y1), .val (.int y2), .val (.int y3), .val (.ref ra), .val (.ref rb), .val (.int i1), .val (.int i2), .val (.int bo), .val (.int ag), .unset, .unset, .unset, .unset, .unset, .unset, .unset, .unset] [(.ref b2), (.ref b1), (.ref b1)])) _
  exact kt
theorem pd478 : parseMethodDescriptor "([I)V" = some ⟨[(.array .int)], none⟩ := by decide +kernel
set_option maxRecDepth 65536 in
set_option maxHeartbeats 4000000 in
theorem cI {p : Program} {l : Launch} {e : Env} {s : State} {m : MethodId} {args : Array Value} {below : List Frame} {meth : Method} {c : Code} {T0 : State} {locs : List Loc} {cells slots : Nat} {Z : State} {a0 : Array Value} {h0 : Heap} {Ls : Array Slot} (ob : Addr) (x0 : Addr) (y : Addr)
    (X0 : Stand p l e room_1 s m args below meth c T0 locs cells slots) (hx : p.tables.exec = Jvm.exec) (hZ : Z.Warmed39 s.vm) (hw : ∀ d ∈ tables_1, d.before a0 Z = true) (hby : c.code = code) (hml : c.maxLocals = 29) (hown : s.vm.findClass "com/example/caprice/caprice/solver/DomainsGatherReasonsPinLaw" = some m.cls) (e0 : T0.heap = h0) (hsz : Ls.size = 29) {rm : Room} {Q : Option Value → Heap → List Loc → Prop}
    (M : MetFree l (⟨"com/example/caprice/caprice/solver/Domains", "<init>", "([I)V"⟩ : MethodName) (head1 [Jvm.Cond.code (⟨"com/example/caprice/caprice/solver/Domains", "<init>", "([I)V"⟩ : MethodName) prog_59_method_1_code 5 none] rm) (fun a U => a = #[(.ref ob), (.ref x0)] ∧ Z.Warmed39 U.vm ∧ U.heap = h0) (fun _ _ _ _ _ => True) (fun _ U o U' => ∃ v L, o = .returned v ∧ Q v U'.heap L ∧ FrameEnd U o U' L rm.cells rm.slots)) (hfr : rm.frames + 1 ≤ room_1.frames) (hlo : 1 + (5 + 11) + rm.locals ≤ room_1.locals) (hce : cells + rm.cells ≤ room_1.cells) (hsl : slots + rm.slots ≤ room_1.slots) :
    ∃ (T' : State) (v : Option Value) (L : List Loc), Stand p l e room_1 s m args below meth c T' (locs ++ L) (cells + rm.cells) (slots + rm.slots) ∧ Q v T'.heap L ∧ ∀ t, Steps p.tables e below (T'.setTop (mkF m 183 Ls (v.toList ++ [(.ref y)]))) t → Steps p.tables e below (T0.setTop (mkF m 180 Ls [(.ref x0), (.ref ob), (.ref y)])) t := by
  obtain ⟨v, _, ⟨T1, L1, k1, n1⟩, -, X1, ⟨Lc, hQ, l1, y1, z1⟩, st⟩ := X0.specialBack hx (y := (⟨"com/example/caprice/caprice/solver/Domains", "<init>", "([I)V"⟩ : MethodName)) rfl hown (mvT hZ (hw _ (List.mem_of_getElem? (i := 8) rfl))) (mvT hZ (hw _ (List.mem_of_getElem? (i := 9) rfl))) (mvT hZ (hw _ (List.mem_of_getElem? (i := 10) rfl))) (by decide) (backOf (W := 1) M hZ (hw _ (List.mem_of_getElem? (i := 10) rfl)) (hw _ (List.mem_of_getElem? (i := 7) rfl)) hfr hlo) (g := (mkF m 180 Ls [(.ref x0), (.ref ob), (.ref y)])) rfl (by rw [hml]; exact hsz) (Steps.refl _) (a := ob) (argsL := [(.ref x0)]) (rest := [(.ref y)]) (lenOf pd478 rfl) rfl (by show 2 * 0 + _ ≤ _; exact Nat.le_of_eq rfl) (hb hby at_180) (fun _ _ => ⟨rfl, e0, hce, hsl⟩)
  dsimp only [Pt.U, Pt.locs, Pt.cells, Pt.slots] at X1 l1 y1 z1 st hQ
  subst l1 y1 z1
  exact ⟨T1, v, Lc, X1, hQ, fun t kt => st.trans kt⟩
set_option maxRecDepth 65536 in
set_option maxHeartbeats 40000000 in
theorem qH {p : Program} {l : Launch} {e : Env} {s : State} {m : MethodId} {args : Array Value} {below : List Frame} {meth : Method} {c : Code} {T0 : State} {locs : List Loc} {Z : State} {a0 : Array Value} {h0 : Heap} {n0 : Nat} (p1 : Int32) (p2 : Int32) (p3 : Int32) (p4 : Int32) (p5 : Int32) (nA : Int32) (x0 : Int32) (x1 : Int32) (x2 : Int32) (x3 : Int32) (nB : Int32) (y0 : Int32) (y1 : Int32) (y2 : Int32) (y3 : Int32) (ra : Addr) (rb : Addr) (i1 : Int32) (i2 : Int32) (bo : Int32) (ag : Int32) (dom : Addr)
    (X0 : Stand p l e room_1 s m args below meth c T0 locs 14 64) (hx : p.tables.exec = Jvm.exec) (hZ : Z.Warmed39 s.vm) (hw : ∀ d ∈ tables_1, d.before a0 Z = true) (hby : c.code = code) (hml : c.maxLocals = 29) (hown : s.vm.findClass "com/example/caprice/caprice/solver/DomainsGatherReasonsPinLaw" = some m.cls) (e0 : T0.heap = h0) (N0 : Fr n0 locs) (O0 : Old Z n0 h0) :
    ∃ (T' : State) (locs' : List Loc), Stand p l e room_1 s m args below meth c T' locs' 14 64 ∧ Fr n0 locs' ∧ T'.heap = h0 ∧ ∀ t, Steps p.tables e below (T'.setTop (mkF m 197 #[.val (.int p1), .val (.int p2), .val (.int p3), .val (.int p4), .val (.int p5), .val (.int nA), .val (.int x0), .val (.int x1), .val (.int x2), .val (.int x3), .val (.int nB), .val (.int y0), .val (.int y1), .val (.int y2), .val (.int y3), .val (.ref ra), .val (.ref rb), .val (.int i1), .val (.int i2), .val (.int bo), .val (.int ag), .val (.ref dom), .unset, .unset, .unset, .unset, .unset, .unset, .unset] [(.ref ra), (.int (i1 &&& (1 : Int32))), (.int (i1 >>> ((1 : Int32) &&& 31))), (.ref dom)])) t → Steps p.tables e below (T0.setTop (mkF m 183 #[.val (.int p1), .val (.int p2), .val (.int p3), .val (.int p4), .val (.int p5), .val (.int nA), .val (.int x0), .val (.int x1), .val (.int x2), .val (.int x3), .val (.int nB), .val (.int y0), .val (.int y1), .val (.int y2), .val (.int y3), .val (.ref ra), .val (.ref rb), .val (.int i1), .val (.int i2), .val (.int bo), .val (.int ag), .unset, .unset, .unset, .unset, .unset, .unset, .unset, .unset] [(.ref dom)])) t := by
  refine ⟨T0, _, X0, N0, e0, fun t kt => ?_⟩
  show Steps p.tables e below (T0.setTop (mkF m 183 #[.val (.int p1), .val (.int p2), .val (.int p3), .val (.int p4), .val (.int p5), .val (.int nA), .val (.int x0), .val (.int x1), .val (.int x2), .val (.int x3), .val (.int nB), .val (.int y0), .val (.int y1), .val (.int y2), .val (.int y3), .val (.ref ra), .val (.ref rb), .val (.int i1), .val (.int i2), .val (.int bo), .val (.int ag), .unset, .unset, .unset, .unset, .unset, .unset, .unset, .unset] [(.ref dom)])) _
  refine XS.astore X0.here hx rfl (hb hby at_183) rfl rfl (l' := #[.val (.int p1), .val (.int p2), .val (.int p3), .val (.int p4), .val (.int p5), .val (.int nA), .val (.int x0), .val (.int x1), .val (.int x2), .val (.int x3), .val (.int nB), .val (.int y0), .val (.int y1), .val (.int y2), .val (.int y3), .val (.ref ra), .val (.ref rb), .val (.int i1), .val (.int i2), .val (.int bo), .val (.int ag), .val (.ref dom), .unset, .unset, .unset, .unset, .unset, .unset, .unset]) rfl ?_
  show Steps p.tables e below (T0.setTop (mkF m 185 #[.val (.int p1), .val (.int p2), .val (.int p3), .val (.int p4), .val (.int p5), .val (.int nA), .val (.int x0), .val (.int x1), .val (.int x2), .val (.int x3), .val (.int nB), .val (.int y0), .val (.int y1), .val (.int y2), .val (.int y3), .val (.ref ra), .val (.ref rb), .val (.int i1), .val (.int i2), .val (.int bo), .val (.int ag), .val (.ref dom), .unset, .unset, .unset, .unset, .unset, .unset, .unset] [])) _
  refine XS.aload X0.here hx rfl (hb hby at_185) rfl rfl ?_
  show Steps p.tables e below (T0.setTop (mkF m 187 #[.val (.int p1), .val (.int p2), .val (.int p3), .val (.int p4), .val (.int p5), .val (.int nA), .val (.int x0), .val (.int x1), .val (.int x2), .val (.int x3), .val (.int nB), .val (.int y0), .val (.int y1), .val (.int y2), .val (.int y3), .val (.ref ra), .val (.ref rb), .val (.int i1), .val (.int i2), .val (.int bo), .val (.int ag), .val (.ref dom), .unset, .unset, .unset, .unset, .unset, .unset, .unset] [(.ref dom)])) _
  refine XS.iload X0.here hx rfl (hb hby at_187) rfl ?_
  show Steps p.tables e below (T0.setTop (mkF m 189 #[.val (.int p1), .val (.int p2), .val (.int p3), .val (.int p4), .val (.int p5), .val (.int nA), .val (.int x0), .val (.int x1), .val (.int x2), .val (.int x3), .val (.int nB), .val (.int y0), .val (.int y1), .val (.int y2), .val (.int y3), .val (.ref ra), .val (.ref rb), .val (.int i1), .val (.int i2), .val (.int bo), .val (.int ag), .val (.ref dom), .unset, .unset, .unset, .unset, .unset, .unset, .unset] [(.int i1), (.ref dom)])) _
  refine XS.iconst X0.here hx rfl (hb hby at_189) ?_
  show Steps p.tables e below (T0.setTop (mkF m 190 #[.val (.int p1), .val (.int p2), .val (.int p3), .val (.int p4), .val (.int p5), .val (.int nA), .val (.int x0), .val (.int x1), .val (.int x2), .val (.int x3), .val (.int nB), .val (.int y0), .val (.int y1), .val (.int y2), .val (.int y3), .val (.ref ra), .val (.ref rb), .val (.int i1), .val (.int i2), .val (.int bo), .val (.int ag), .val (.ref dom), .unset, .unset, .unset, .unset, .unset, .unset, .unset] [(.int (1 : Int32)), (.int i1), (.ref dom)])) _
  refine XS.ishr X0.here hx rfl (hb hby at_190) rfl ?_
  show Steps p.tables e below (T0.setTop (mkF m 191 #[.val (.int p1), .val (.int p2), .val (.int p3), .val (.int p4), .val (.int p5), .val (.int nA), .val (.int x0), .val (.int x1), .val (.int x2), .val (.int x3), .val (.int nB), .val (.int y0), .val (.int y1), .val (.int y2), .val (.int y3), .val (.ref ra), .val (.ref rb), .val (.int i1), .val (.int i2), .val (.int bo), .val (.int ag), .val (.ref dom), .unset, .unset, .unset, .unset, .unset, .unset, .unset] [(.int (i1 >>> ((1 : Int32) &&& 31))), (.ref dom)])) _
  refine XS.iload X0.here hx rfl (hb hby at_191) rfl ?_
  show Steps p.tables e below (T0.setTop (mkF m 193 #[.val (.int p1), .val (.int p2), .val (.int p3), .val (.int p4), .val (.int p5), .val (.int nA), .val (.int x0), .val (.int x1), .val (.int x2), .val (.int x3), .val (.int nB), .val (.int y0), .val (.int y1), .val (.int y2), .val (.int y3), .val (.ref ra), .val (.ref rb), .val (.int i1), .val (.int i2), .val (.int bo), .val (.int ag), .val (.ref dom), .unset, .unset, .unset, .unset, .unset, .unset, .unset] [(.int i1), (.int (i1 >>> ((1 : Int32) &&& 31))), (.ref dom)])) _
  refine XS.iconst X0.here hx rfl (hb hby at_193) ?_
  show Steps p.tables e below (T0.setTop (mkF m 194 #[.val (.int p1), .val (.int p2), .val (.int p3), .val (.int p4), .val (.int p5), .val (.int nA), .val (.int x0), .val (.int x1), .val (.int x2), .val (.int x3), .val (.int nB), .val (.int y0), .val (.int y1), .val (.int y2), .val (.int y3), .val (.ref ra), .val (.ref rb), .val (.int i1), .val (.int i2), .val (.int bo), .val (.int ag), .val (.ref dom), .unset, .unset, .unset, .unset, .unset, .unset, .unset] [(.int (1 : Int32)), (.int i1), (.int (i1 >>> ((1 : Int32) &&& 31))), (.ref dom)])) _
  refine XS.iand X0.here hx rfl (hb hby at_194) rfl ?_
  show Steps p.tables e below (T0.setTop (mkF m 195 #[.val (.int p1), .val (.int p2), .val (.int p3), .val (.int p4), .val (.int p5), .val (.int nA), .val (.int x0), .val (.int x1), .val (.int x2), .val (.int x3), .val (.int nB), .val (.int y0), .val (.int y1), .val (.int y2), .val (.int y3), .val (.ref ra), .val (.ref rb), .val (.int i1), .val (.int i2), .val (.int bo), .val (.int ag), .val (.ref dom), .unset, .unset, .unset, .unset, .unset, .unset, .unset] [(.int (i1 &&& (1 : Int32))), (.int (i1 >>> ((1 : Int32) &&& 31))), (.ref dom)])) _
  refine XS.aload X0.here hx rfl (hb hby at_195) rfl rfl ?_
  show Steps p.tables e below (T0.setTop (mkF m 197 #[.val (.int p1), .val (.int p2), .val (.int p3), .val (.int p4), .val (.int p5), .val (.int nA), .val (.int x0), .val (.int x1), .val (.int x2), .val (.int x3), .val (.int nB), .val (.int y0), .val (.int y1), .val (.int y2), .val (.int y3), .val (.ref ra), .val (.ref rb), .val (.int i1), .val (.int i2), .val (.int bo), .val (.int ag), .val (.ref dom), .unset, .unset, .unset, .unset, .unset, .unset, .unset] [(.ref ra), (.int (i1 &&& (1 : Int32))), (.int (i1 >>> ((1 : Int32) &&& 31))), (.ref dom)])) _
  exact kt
theorem pd480 : parseMethodDescriptor "(II[I)V" = some ⟨[.int, .int, (.array .int)], none⟩ := by decide +kernel
set_option maxRecDepth 65536 in
set_option maxHeartbeats 4000000 in
theorem cR1 {p : Program} {l : Launch} {e : Env} {s : State} {m : MethodId} {args : Array Value} {below : List Frame} {meth : Method} {c : Code} {T0 : State} {locs : List Loc} {cells slots : Nat} {Z : State} {a0 : Array Value} {h0 : Heap} {Ls : Array Slot} (ob : Addr) (x0 : Int32) (x1 : Int32) (x2 : Addr)
    (X0 : Stand p l e room_1 s m args below meth c T0 locs cells slots) (hx : p.tables.exec = Jvm.exec) (hZ : Z.Warmed39 s.vm) (hw : ∀ d ∈ tables_1, d.before a0 Z = true) (hby : c.code = code) (hml : c.maxLocals = 29) (hown : s.vm.findClass "com/example/caprice/caprice/solver/DomainsGatherReasonsPinLaw" = some m.cls) (e0 : T0.heap = h0) (hsz : Ls.size = 29) (ER : Exa Z h0 ob "com/example/caprice/caprice/solver/Domains") {rm : Room} {Q : Option Value → Heap → List Loc → Prop}
    (M : MetFree l (⟨"com/example/caprice/caprice/solver/Domains", "remove", "(II[I)V"⟩ : MethodName) (head1 [Jvm.Cond.code (⟨"com/example/caprice/caprice/solver/Domains", "remove", "(II[I)V"⟩ : MethodName) prog_59_method_10_code 4 none] rm) (fun a U => a = #[(.ref ob), (.int x0), (.int x1), (.ref x2)] ∧ Z.Warmed39 U.vm ∧ U.heap = h0) (fun _ _ _ _ _ => True) (fun _ U o U' => ∃ v L, o = .returned v ∧ Q v U'.heap L ∧ FrameEnd U o U' L rm.cells rm.slots)) (hfr : rm.frames + 1 ≤ room_1.frames) (hlo : 0 + (4 + 11) + rm.locals ≤ room_1.locals) (hce : cells + rm.cells ≤ room_1.cells) (hsl : slots + rm.slots ≤ room_1.slots) :
    ∃ (T' : State) (v : Option Value) (L : List Loc), Stand p l e room_1 s m args below meth c T' (locs ++ L) (cells + rm.cells) (slots + rm.slots) ∧ Q v T'.heap L ∧ ∀ t, Steps p.tables e below (T'.setTop (mkF m 200 Ls (v.toList ++ []))) t → Steps p.tables e below (T0.setTop (mkF m 197 Ls [(.ref x2), (.int x1), (.int x0), (.ref ob)])) t := by
  obtain ⟨cq, kq, qa, qb, qc⟩ := isOf hZ e0 ER
  obtain ⟨v, _, ⟨T1, L1, k1, n1⟩, -, X1, ⟨Lc, hQ, l1, y1, z1⟩, st⟩ := X0.virtualBack hx (y := (⟨"com/example/caprice/caprice/solver/Domains", "remove", "(II[I)V"⟩ : MethodName)) (z := (⟨"com/example/caprice/caprice/solver/Domains", "remove", "(II[I)V"⟩ : MethodName)) hown (mvT hZ (hw _ (List.mem_of_getElem? (i := 36) rfl))) (mvT hZ (hw _ (List.mem_of_getElem? (i := 37) rfl))) (notFace_of_selects (args := #[]) (mvT hZ (hw _ (List.mem_of_getElem? (i := 39) rfl)))) (mvT hZ (hw _ (List.mem_of_getElem? (i := 39) rfl))) (mvT hZ (hw _ (List.mem_of_getElem? (i := 38) rfl))) (by decide) (backOf (W := 0) M hZ (hw _ (List.mem_of_getElem? (i := 40) rfl)) (hw _ (List.mem_of_getElem? (i := 7) rfl)) hfr hlo) qa qc (g := (mkF m 197 Ls [(.ref x2), (.int x1), (.int x0), (.ref ob)])) rfl (by rw [hml]; exact hsz) (Steps.refl _) (argsL := [(.int x0), (.int x1), (.ref x2)]) (rest := []) (lenOf pd480 rfl) rfl (by show 2 * 0 + _ ≤ _; exact Nat.le_of_eq rfl) (hb hby at_197) (fun _ _ => ⟨rfl, e0, hce, hsl⟩)
  dsimp only [Pt.U, Pt.locs, Pt.cells, Pt.slots] at X1 l1 y1 z1 st hQ
  subst l1 y1 z1
  exact ⟨T1, v, Lc, X1, hQ, fun t kt => st.trans kt⟩
set_option maxRecDepth 65536 in
set_option maxHeartbeats 40000000 in
theorem qI {p : Program} {l : Launch} {e : Env} {s : State} {m : MethodId} {args : Array Value} {below : List Frame} {meth : Method} {c : Code} {T0 : State} {locs : List Loc} {Z : State} {a0 : Array Value} {h0 : Heap} {n0 : Nat} (p1 : Int32) (p2 : Int32) (p3 : Int32) (p4 : Int32) (p5 : Int32) (nA : Int32) (x0 : Int32) (x1 : Int32) (x2 : Int32) (x3 : Int32) (nB : Int32) (y0 : Int32) (y1 : Int32) (y2 : Int32) (y3 : Int32) (ra : Addr) (rb : Addr) (i1 : Int32) (i2 : Int32) (bo : Int32) (ag : Int32) (dom : Addr)
    (X0 : Stand p l e room_1 s m args below meth c T0 locs 14 64) (hx : p.tables.exec = Jvm.exec) (hZ : Z.Warmed39 s.vm) (hw : ∀ d ∈ tables_1, d.before a0 Z = true) (hby : c.code = code) (hml : c.maxLocals = 29) (hown : s.vm.findClass "com/example/caprice/caprice/solver/DomainsGatherReasonsPinLaw" = some m.cls) (e0 : T0.heap = h0) (N0 : Fr n0 locs) (O0 : Old Z n0 h0) :
    ∃ (T' : State) (locs' : List Loc), Stand p l e room_1 s m args below meth c T' locs' 14 64 ∧ Fr n0 locs' ∧ T'.heap = h0 ∧ ∀ t, Steps p.tables e below (T'.setTop (mkF m 212 #[.val (.int p1), .val (.int p2), .val (.int p3), .val (.int p4), .val (.int p5), .val (.int nA), .val (.int x0), .val (.int x1), .val (.int x2), .val (.int x3), .val (.int nB), .val (.int y0), .val (.int y1), .val (.int y2), .val (.int y3), .val (.ref ra), .val (.ref rb), .val (.int i1), .val (.int i2), .val (.int bo), .val (.int ag), .val (.ref dom), .unset, .unset, .unset, .unset, .unset, .unset, .unset] [(.ref rb), (.int (i2 &&& (1 : Int32))), (.int (i2 >>> ((1 : Int32) &&& 31))), (.ref dom)])) t → Steps p.tables e below (T0.setTop (mkF m 200 #[.val (.int p1), .val (.int p2), .val (.int p3), .val (.int p4), .val (.int p5), .val (.int nA), .val (.int x0), .val (.int x1), .val (.int x2), .val (.int x3), .val (.int nB), .val (.int y0), .val (.int y1), .val (.int y2), .val (.int y3), .val (.ref ra), .val (.ref rb), .val (.int i1), .val (.int i2), .val (.int bo), .val (.int ag), .val (.ref dom), .unset, .unset, .unset, .unset, .unset, .unset, .unset] [])) t := by
  refine ⟨T0, _, X0, N0, e0, fun t kt => ?_⟩
  show Steps p.tables e below (T0.setTop (mkF m 200 #[.val (.int p1), .val (.int p2), .val (.int p3), .val (.int p4), .val (.int p5), .val (.int nA), .val (.int x0), .val (.int x1), .val (.int x2), .val (.int x3), .val (.int nB), .val (.int y0), .val (.int y1), .val (.int y2), .val (.int y3), .val (.ref ra), .val (.ref rb), .val (.int i1), .val (.int i2), .val (.int bo), .val (.int ag), .val (.ref dom), .unset, .unset, .unset, .unset, .unset, .unset, .unset] [])) _
  refine XS.aload X0.here hx rfl (hb hby at_200) rfl rfl ?_
  show Steps p.tables e below (T0.setTop (mkF m 202 #[.val (.int p1), .val (.int p2), .val (.int p3), .val (.int p4), .val (.int p5), .val (.int nA), .val (.int x0), .val (.int x1), .val (.int x2), .val (.int x3), .val (.int nB), .val (.int y0), .val (.int y1), .val (.int y2), .val (.int y3), .val (.ref ra), .val (.ref rb), .val (.int i1), .val (.int i2), .val (.int bo), .val (.int ag), .val (.ref dom), .unset, .unset, .unset, .unset, .unset, .unset, .unset] [(.ref dom)])) _
  refine XS.iload X0.here hx rfl (hb hby at_202) rfl ?_
  show Steps p.tables e below (T0.setTop (mkF m 204 #[.val (.int p1), .val (.int p2), .val (.int p3), .val (.int p4), .val (.int p5), .val (.int nA), .val (.int x0), .val (.int x1), .val (.int x2), .val (.int x3), .val (.int nB), .val (.int y0), .val (.int y1), .val (.int y2), .val (.int y3), .val (.ref ra), .val (.ref rb), .val (.int i1), .val (.int i2), .val (.int bo), .val (.int ag), .val (.ref dom), .unset, .unset, .unset, .unset, .unset, .unset, .unset] [(.int i2), (.ref dom)])) _
  refine XS.iconst X0.here hx rfl (hb hby at_204) ?_
  show Steps p.tables e below (T0.setTop (mkF m 205 #[.val (.int p1), .val (.int p2), .val (.int p3), .val (.int p4), .val (.int p5), .val (.int nA), .val (.int x0), .val (.int x1), .val (.int x2), .val (.int x3), .val (.int nB), .val (.int y0), .val (.int y1), .val (.int y2), .val (.int y3), .val (.ref ra), .val (.ref rb), .val (.int i1), .val (.int i2), .val (.int bo), .val (.int ag), .val (.ref dom), .unset, .unset, .unset, .unset, .unset, .unset, .unset] [(.int (1 : Int32)), (.int i2), (.ref dom)])) _
  refine XS.ishr X0.here hx rfl (hb hby at_205) rfl ?_
  show Steps p.tables e below (T0.setTop (mkF m 206 #[.val (.int p1), .val (.int p2), .val (.int p3), .val (.int p4), .val (.int p5), .val (.int nA), .val (.int x0), .val (.int x1), .val (.int x2), .val (.int x3), .val (.int nB), .val (.int y0), .val (.int y1), .val (.int y2), .val (.int y3), .val (.ref ra), .val (.ref rb), .val (.int i1), .val (.int i2), .val (.int bo), .val (.int ag), .val (.ref dom), .unset, .unset, .unset, .unset, .unset, .unset, .unset] [(.int (i2 >>> ((1 : Int32) &&& 31))), (.ref dom)])) _
  refine XS.iload X0.here hx rfl (hb hby at_206) rfl ?_
  show Steps p.tables e below (T0.setTop (mkF m 208 #[.val (.int p1), .val (.int p2), .val (.int p3), .val (.int p4), .val (.int p5), .val (.int nA), .val (.int x0), .val (.int x1), .val (.int x2), .val (.int x3), .val (.int nB), .val (.int y0), .val (.int y1), .val (.int y2), .val (.int y3), .val (.ref ra), .val (.ref rb), .val (.int i1), .val (.int i2), .val (.int bo), .val (.int ag), .val (.ref dom), .unset, .unset, .unset, .unset, .unset, .unset, .unset] [(.int i2), (.int (i2 >>> ((1 : Int32) &&& 31))), (.ref dom)])) _
  refine XS.iconst X0.here hx rfl (hb hby at_208) ?_
  show Steps p.tables e below (T0.setTop (mkF m 209 #[.val (.int p1), .val (.int p2), .val (.int p3), .val (.int p4), .val (.int p5), .val (.int nA), .val (.int x0), .val (.int x1), .val (.int x2), .val (.int x3), .val (.int nB), .val (.int y0), .val (.int y1), .val (.int y2), .val (.int y3), .val (.ref ra), .val (.ref rb), .val (.int i1), .val (.int i2), .val (.int bo), .val (.int ag), .val (.ref dom), .unset, .unset, .unset, .unset, .unset, .unset, .unset] [(.int (1 : Int32)), (.int i2), (.int (i2 >>> ((1 : Int32) &&& 31))), (.ref dom)])) _
  refine XS.iand X0.here hx rfl (hb hby at_209) rfl ?_
  show Steps p.tables e below (T0.setTop (mkF m 210 #[.val (.int p1), .val (.int p2), .val (.int p3), .val (.int p4), .val (.int p5), .val (.int nA), .val (.int x0), .val (.int x1), .val (.int x2), .val (.int x3), .val (.int nB), .val (.int y0), .val (.int y1), .val (.int y2), .val (.int y3), .val (.ref ra), .val (.ref rb), .val (.int i1), .val (.int i2), .val (.int bo), .val (.int ag), .val (.ref dom), .unset, .unset, .unset, .unset, .unset, .unset, .unset] [(.int (i2 &&& (1 : Int32))), (.int (i2 >>> ((1 : Int32) &&& 31))), (.ref dom)])) _
  refine XS.aload X0.here hx rfl (hb hby at_210) rfl rfl ?_
  show Steps p.tables e below (T0.setTop (mkF m 212 #[.val (.int p1), .val (.int p2), .val (.int p3), .val (.int p4), .val (.int p5), .val (.int nA), .val (.int x0), .val (.int x1), .val (.int x2), .val (.int x3), .val (.int nB), .val (.int y0), .val (.int y1), .val (.int y2), .val (.int y3), .val (.ref ra), .val (.ref rb), .val (.int i1), .val (.int i2), .val (.int bo), .val (.int ag), .val (.ref dom), .unset, .unset, .unset, .unset, .unset, .unset, .unset] [(.ref rb), (.int (i2 &&& (1 : Int32))), (.int (i2 >>> ((1 : Int32) &&& 31))), (.ref dom)])) _
  exact kt
set_option maxRecDepth 65536 in
set_option maxHeartbeats 4000000 in
theorem cR2 {p : Program} {l : Launch} {e : Env} {s : State} {m : MethodId} {args : Array Value} {below : List Frame} {meth : Method} {c : Code} {T0 : State} {locs : List Loc} {cells slots : Nat} {Z : State} {a0 : Array Value} {h0 : Heap} {Ls : Array Slot} (ob : Addr) (x0 : Int32) (x1 : Int32) (x2 : Addr)
    (X0 : Stand p l e room_1 s m args below meth c T0 locs cells slots) (hx : p.tables.exec = Jvm.exec) (hZ : Z.Warmed39 s.vm) (hw : ∀ d ∈ tables_1, d.before a0 Z = true) (hby : c.code = code) (hml : c.maxLocals = 29) (hown : s.vm.findClass "com/example/caprice/caprice/solver/DomainsGatherReasonsPinLaw" = some m.cls) (e0 : T0.heap = h0) (hsz : Ls.size = 29) (ER : Exa Z h0 ob "com/example/caprice/caprice/solver/Domains") {rm : Room} {Q : Option Value → Heap → List Loc → Prop}
    (M : MetFree l (⟨"com/example/caprice/caprice/solver/Domains", "remove", "(II[I)V"⟩ : MethodName) (head1 [Jvm.Cond.code (⟨"com/example/caprice/caprice/solver/Domains", "remove", "(II[I)V"⟩ : MethodName) prog_59_method_10_code 4 none] rm) (fun a U => a = #[(.ref ob), (.int x0), (.int x1), (.ref x2)] ∧ Z.Warmed39 U.vm ∧ U.heap = h0) (fun _ _ _ _ _ => True) (fun _ U o U' => ∃ v L, o = .returned v ∧ Q v U'.heap L ∧ FrameEnd U o U' L rm.cells rm.slots)) (hfr : rm.frames + 1 ≤ room_1.frames) (hlo : 0 + (4 + 11) + rm.locals ≤ room_1.locals) (hce : cells + rm.cells ≤ room_1.cells) (hsl : slots + rm.slots ≤ room_1.slots) :
    ∃ (T' : State) (v : Option Value) (L : List Loc), Stand p l e room_1 s m args below meth c T' (locs ++ L) (cells + rm.cells) (slots + rm.slots) ∧ Q v T'.heap L ∧ ∀ t, Steps p.tables e below (T'.setTop (mkF m 215 Ls (v.toList ++ []))) t → Steps p.tables e below (T0.setTop (mkF m 212 Ls [(.ref x2), (.int x1), (.int x0), (.ref ob)])) t := by
  obtain ⟨cq, kq, qa, qb, qc⟩ := isOf hZ e0 ER
  obtain ⟨v, _, ⟨T1, L1, k1, n1⟩, -, X1, ⟨Lc, hQ, l1, y1, z1⟩, st⟩ := X0.virtualBack hx (y := (⟨"com/example/caprice/caprice/solver/Domains", "remove", "(II[I)V"⟩ : MethodName)) (z := (⟨"com/example/caprice/caprice/solver/Domains", "remove", "(II[I)V"⟩ : MethodName)) hown (mvT hZ (hw _ (List.mem_of_getElem? (i := 36) rfl))) (mvT hZ (hw _ (List.mem_of_getElem? (i := 37) rfl))) (notFace_of_selects (args := #[]) (mvT hZ (hw _ (List.mem_of_getElem? (i := 39) rfl)))) (mvT hZ (hw _ (List.mem_of_getElem? (i := 39) rfl))) (mvT hZ (hw _ (List.mem_of_getElem? (i := 38) rfl))) (by decide) (backOf (W := 0) M hZ (hw _ (List.mem_of_getElem? (i := 40) rfl)) (hw _ (List.mem_of_getElem? (i := 7) rfl)) hfr hlo) qa qc (g := (mkF m 212 Ls [(.ref x2), (.int x1), (.int x0), (.ref ob)])) rfl (by rw [hml]; exact hsz) (Steps.refl _) (argsL := [(.int x0), (.int x1), (.ref x2)]) (rest := []) (lenOf pd480 rfl) rfl (by show 2 * 0 + _ ≤ _; exact Nat.le_of_eq rfl) (hb hby at_212) (fun _ _ => ⟨rfl, e0, hce, hsl⟩)
  dsimp only [Pt.U, Pt.locs, Pt.cells, Pt.slots] at X1 l1 y1 z1 st hQ
  subst l1 y1 z1
  exact ⟨T1, v, Lc, X1, hQ, fun t kt => st.trans kt⟩
set_option maxRecDepth 65536 in
set_option maxHeartbeats 40000000 in
theorem qJ {p : Program} {l : Launch} {e : Env} {s : State} {m : MethodId} {args : Array Value} {below : List Frame} {meth : Method} {c : Code} {T0 : State} {locs : List Loc} {Z : State} {a0 : Array Value} {h0 : Heap} {n0 : Nat} (p1 : Int32) (p2 : Int32) (p3 : Int32) (p4 : Int32) (p5 : Int32) (nA : Int32) (x0 : Int32) (x1 : Int32) (x2 : Int32) (x3 : Int32) (nB : Int32) (y0 : Int32) (y1 : Int32) (y2 : Int32) (y3 : Int32) (ra : Addr) (rb : Addr) (i1 : Int32) (i2 : Int32) (bo : Int32) (ag : Int32) (dom : Addr)
    (X0 : Stand p l e room_1 s m args below meth c T0 locs 14 64) (hx : p.tables.exec = Jvm.exec) (hZ : Z.Warmed39 s.vm) (hw : ∀ d ∈ tables_1, d.before a0 Z = true) (hby : c.code = code) (hml : c.maxLocals = 29) (hown : s.vm.findClass "com/example/caprice/caprice/solver/DomainsGatherReasonsPinLaw" = some m.cls) (e0 : T0.heap = h0) (N0 : Fr n0 locs) (O0 : Old Z n0 h0) :
    ∃ (T' : State) (locs' : List Loc), Stand p l e room_1 s m args below meth c T' locs' 14 64 ∧ Fr n0 locs' ∧ T'.heap = h0 ∧ ∀ t, Steps p.tables e below (T'.setTop (mkF m 225 #[.val (.int p1), .val (.int p2), .val (.int p3), .val (.int p4), .val (.int p5), .val (.int nA), .val (.int x0), .val (.int x1), .val (.int x2), .val (.int x3), .val (.int nB), .val (.int y0), .val (.int y1), .val (.int y2), .val (.int y3), .val (.ref ra), .val (.ref rb), .val (.int i1), .val (.int i2), .val (.int bo), .val (.int ag), .val (.ref dom), .unset, .unset, .unset, .unset, .unset, .unset, .unset] [(.int (i1 &&& (1 : Int32))), (.int (i1 >>> ((1 : Int32) &&& 31))), (.ref dom)])) t → Steps p.tables e below (T0.setTop (mkF m 215 #[.val (.int p1), .val (.int p2), .val (.int p3), .val (.int p4), .val (.int p5), .val (.int nA), .val (.int x0), .val (.int x1), .val (.int x2), .val (.int x3), .val (.int nB), .val (.int y0), .val (.int y1), .val (.int y2), .val (.int y3), .val (.ref ra), .val (.ref rb), .val (.int i1), .val (.int i2), .val (.int bo), .val (.int ag), .val (.ref dom), .unset, .unset, .unset, .unset, .unset, .unset, .unset] [])) t := by
  refine ⟨T0, _, X0, N0, e0, fun t kt => ?_⟩
  show Steps p.tables e below (T0.setTop (mkF m 215 #[.val (.int p1), .val (.int p2), .val (.int p3), .val (.int p4), .val (.int p5), .val (.int nA), .val (.int x0), .val (.int x1), .val (.int x2), .val (.int x3), .val (.int nB), .val (.int y0), .val (.int y1), .val (.int y2), .val (.int y3), .val (.ref ra), .val (.ref rb), .val (.int i1), .val (.int i2), .val (.int bo), .val (.int ag), .val (.ref dom), .unset, .unset, .unset, .unset, .unset, .unset, .unset] [])) _
  refine XS.aload X0.here hx rfl (hb hby at_215) rfl rfl ?_
  show Steps p.tables e below (T0.setTop (mkF m 217 #[.val (.int p1), .val (.int p2), .val (.int p3), .val (.int p4), .val (.int p5), .val (.int nA), .val (.int x0), .val (.int x1), .val (.int x2), .val (.int x3), .val (.int nB), .val (.int y0), .val (.int y1), .val (.int y2), .val (.int y3), .val (.ref ra), .val (.ref rb), .val (.int i1), .val (.int i2), .val (.int bo), .val (.int ag), .val (.ref dom), .unset, .unset, .unset, .unset, .unset, .unset, .unset] [(.ref dom)])) _
  refine XS.iload X0.here hx rfl (hb hby at_217) rfl ?_
  show Steps p.tables e below (T0.setTop (mkF m 219 #[.val (.int p1), .val (.int p2), .val (.int p3), .val (.int p4), .val (.int p5), .val (.int nA), .val (.int x0), .val (.int x1), .val (.int x2), .val (.int x3), .val (.int nB), .val (.int y0), .val (.int y1), .val (.int y2), .val (.int y3), .val (.ref ra), .val (.ref rb), .val (.int i1), .val (.int i2), .val (.int bo), .val (.int ag), .val (.ref dom), .unset, .unset, .unset, .unset, .unset, .unset, .unset] [(.int i1), (.ref dom)])) _
  refine XS.iconst X0.here hx rfl (hb hby at_219) ?_
  show Steps p.tables e below (T0.setTop (mkF m 220 #[.val (.int p1), .val (.int p2), .val (.int p3), .val (.int p4), .val (.int p5), .val (.int nA), .val (.int x0), .val (.int x1), .val (.int x2), .val (.int x3), .val (.int nB), .val (.int y0), .val (.int y1), .val (.int y2), .val (.int y3), .val (.ref ra), .val (.ref rb), .val (.int i1), .val (.int i2), .val (.int bo), .val (.int ag), .val (.ref dom), .unset, .unset, .unset, .unset, .unset, .unset, .unset] [(.int (1 : Int32)), (.int i1), (.ref dom)])) _
  refine XS.ishr X0.here hx rfl (hb hby at_220) rfl ?_
  show Steps p.tables e below (T0.setTop (mkF m 221 #[.val (.int p1), .val (.int p2), .val (.int p3), .val (.int p4), .val (.int p5), .val (.int nA), .val (.int x0), .val (.int x1), .val (.int x2), .val (.int x3), .val (.int nB), .val (.int y0), .val (.int y1), .val (.int y2), .val (.int y3), .val (.ref ra), .val (.ref rb), .val (.int i1), .val (.int i2), .val (.int bo), .val (.int ag), .val (.ref dom), .unset, .unset, .unset, .unset, .unset, .unset, .unset] [(.int (i1 >>> ((1 : Int32) &&& 31))), (.ref dom)])) _
  refine XS.iload X0.here hx rfl (hb hby at_221) rfl ?_
  show Steps p.tables e below (T0.setTop (mkF m 223 #[.val (.int p1), .val (.int p2), .val (.int p3), .val (.int p4), .val (.int p5), .val (.int nA), .val (.int x0), .val (.int x1), .val (.int x2), .val (.int x3), .val (.int nB), .val (.int y0), .val (.int y1), .val (.int y2), .val (.int y3), .val (.ref ra), .val (.ref rb), .val (.int i1), .val (.int i2), .val (.int bo), .val (.int ag), .val (.ref dom), .unset, .unset, .unset, .unset, .unset, .unset, .unset] [(.int i1), (.int (i1 >>> ((1 : Int32) &&& 31))), (.ref dom)])) _
  refine XS.iconst X0.here hx rfl (hb hby at_223) ?_
  show Steps p.tables e below (T0.setTop (mkF m 224 #[.val (.int p1), .val (.int p2), .val (.int p3), .val (.int p4), .val (.int p5), .val (.int nA), .val (.int x0), .val (.int x1), .val (.int x2), .val (.int x3), .val (.int nB), .val (.int y0), .val (.int y1), .val (.int y2), .val (.int y3), .val (.ref ra), .val (.ref rb), .val (.int i1), .val (.int i2), .val (.int bo), .val (.int ag), .val (.ref dom), .unset, .unset, .unset, .unset, .unset, .unset, .unset] [(.int (1 : Int32)), (.int i1), (.int (i1 >>> ((1 : Int32) &&& 31))), (.ref dom)])) _
  refine XS.iand X0.here hx rfl (hb hby at_224) rfl ?_
  show Steps p.tables e below (T0.setTop (mkF m 225 #[.val (.int p1), .val (.int p2), .val (.int p3), .val (.int p4), .val (.int p5), .val (.int nA), .val (.int x0), .val (.int x1), .val (.int x2), .val (.int x3), .val (.int nB), .val (.int y0), .val (.int y1), .val (.int y2), .val (.int y3), .val (.ref ra), .val (.ref rb), .val (.int i1), .val (.int i2), .val (.int bo), .val (.int ag), .val (.ref dom), .unset, .unset, .unset, .unset, .unset, .unset, .unset] [(.int (i1 &&& (1 : Int32))), (.int (i1 >>> ((1 : Int32) &&& 31))), (.ref dom)])) _
  exact kt
theorem pd483 : parseMethodDescriptor "(II)V" = some ⟨[.int, .int], none⟩ := by decide +kernel
set_option maxRecDepth 65536 in
set_option maxHeartbeats 4000000 in
theorem cG1 {p : Program} {l : Launch} {e : Env} {s : State} {m : MethodId} {args : Array Value} {below : List Frame} {meth : Method} {c : Code} {T0 : State} {locs : List Loc} {cells slots : Nat} {Z : State} {a0 : Array Value} {h0 : Heap} {Ls : Array Slot} (ob : Addr) (x0 : Int32) (x1 : Int32)
    (X0 : Stand p l e room_1 s m args below meth c T0 locs cells slots) (hx : p.tables.exec = Jvm.exec) (hZ : Z.Warmed39 s.vm) (hw : ∀ d ∈ tables_1, d.before a0 Z = true) (hby : c.code = code) (hml : c.maxLocals = 29) (hown : s.vm.findClass "com/example/caprice/caprice/solver/DomainsGatherReasonsPinLaw" = some m.cls) (e0 : T0.heap = h0) (hsz : Ls.size = 29) (ER : Exa Z h0 ob "com/example/caprice/caprice/solver/Domains") {rm : Room} {Q : Option Value → Heap → List Loc → Prop}
    (M : MetFree l (⟨"com/example/caprice/caprice/solver/Domains", "gatherReasons", "(II)V"⟩ : MethodName) (head1 [Jvm.Cond.code (⟨"com/example/caprice/caprice/solver/Domains", "gatherReasons", "(II)V"⟩ : MethodName) prog_59_method_13_code 7 none] rm) (fun a U => a = #[(.ref ob), (.int x0), (.int x1)] ∧ Z.Warmed39 U.vm ∧ U.heap = h0) (fun _ _ _ _ _ => True) (fun _ U o U' => ∃ v L, o = .returned v ∧ Q v U'.heap L ∧ FrameEnd U o U' L rm.cells rm.slots)) (hfr : rm.frames + 1 ≤ room_1.frames) (hlo : 0 + (7 + 11) + rm.locals ≤ room_1.locals) (hce : cells + rm.cells ≤ room_1.cells) (hsl : slots + rm.slots ≤ room_1.slots) :
    ∃ (T' : State) (v : Option Value) (L : List Loc), Stand p l e room_1 s m args below meth c T' (locs ++ L) (cells + rm.cells) (slots + rm.slots) ∧ Q v T'.heap L ∧ ∀ t, Steps p.tables e below (T'.setTop (mkF m 228 Ls (v.toList ++ []))) t → Steps p.tables e below (T0.setTop (mkF m 225 Ls [(.int x1), (.int x0), (.ref ob)])) t := by
  obtain ⟨cq, kq, qa, qb, qc⟩ := isOf hZ e0 ER
  obtain ⟨v, _, ⟨T1, L1, k1, n1⟩, -, X1, ⟨Lc, hQ, l1, y1, z1⟩, st⟩ := X0.virtualBack hx (y := (⟨"com/example/caprice/caprice/solver/Domains", "gatherReasons", "(II)V"⟩ : MethodName)) (z := (⟨"com/example/caprice/caprice/solver/Domains", "gatherReasons", "(II)V"⟩ : MethodName)) hown (mvT hZ (hw _ (List.mem_of_getElem? (i := 45) rfl))) (mvT hZ (hw _ (List.mem_of_getElem? (i := 46) rfl))) (notFace_of_selects (args := #[]) (mvT hZ (hw _ (List.mem_of_getElem? (i := 48) rfl)))) (mvT hZ (hw _ (List.mem_of_getElem? (i := 48) rfl))) (mvT hZ (hw _ (List.mem_of_getElem? (i := 47) rfl))) (by decide) (backOf (W := 0) M hZ (hw _ (List.mem_of_getElem? (i := 49) rfl)) (hw _ (List.mem_of_getElem? (i := 7) rfl)) hfr hlo) qa qc (g := (mkF m 225 Ls [(.int x1), (.int x0), (.ref ob)])) rfl (by rw [hml]; exact hsz) (Steps.refl _) (argsL := [(.int x0), (.int x1)]) (rest := []) (lenOf pd483 rfl) rfl (by show 2 * 0 + _ ≤ _; exact Nat.le_of_eq rfl) (hb hby at_225) (fun _ _ => ⟨rfl, e0, hce, hsl⟩)
  dsimp only [Pt.U, Pt.locs, Pt.cells, Pt.slots] at X1 l1 y1 z1 st hQ
  subst l1 y1 z1
  exact ⟨T1, v, Lc, X1, hQ, fun t kt => st.trans kt⟩
set_option maxRecDepth 65536 in
set_option maxHeartbeats 40000000 in
theorem qK0 {p : Program} {l : Launch} {e : Env} {s : State} {m : MethodId} {args : Array Value} {below : List Frame} {meth : Method} {c : Code} {T0 : State} {locs : List Loc} {Z : State} {a0 : Array Value} {h0 : Heap} {n0 : Nat} (p1 : Int32) (p2 : Int32) (p3 : Int32) (p4 : Int32) (p5 : Int32) (nA : Int32) (x0 : Int32) (x1 : Int32) (x2 : Int32) (x3 : Int32) (nB : Int32) (y0 : Int32) (y1 : Int32) (y2 : Int32) (y3 : Int32) (ra : Addr) (rb : Addr) (i1 : Int32) (i2 : Int32) (bo : Int32) (ag : Int32) (dom : Addr)
    (X0 : Stand p l e room_1 s m args below meth c T0 locs 14 64) (hx : p.tables.exec = Jvm.exec) (hZ : Z.Warmed39 s.vm) (hw : ∀ d ∈ tables_1, d.before a0 Z = true) (hby : c.code = code) (hml : c.maxLocals = 29) (hown : s.vm.findClass "com/example/caprice/caprice/solver/DomainsGatherReasonsPinLaw" = some m.cls) (e0 : T0.heap = h0) (N0 : Fr n0 locs) (O0 : Old Z n0 h0) (hd0 : bo = (0 : Int32)) :
    ∃ (T' : State) (locs' : List Loc), Stand p l e room_1 s m args below meth c T' locs' 14 64 ∧ Fr n0 locs' ∧ T'.heap = h0 ∧ ∀ t, Steps p.tables e below (T'.setTop (mkF m 246 #[.val (.int p1), .val (.int p2), .val (.int p3), .val (.int p4), .val (.int p5), .val (.int nA), .val (.int x0), .val (.int x1), .val (.int x2), .val (.int x3), .val (.int nB), .val (.int y0), .val (.int y1), .val (.int y2), .val (.int y3), .val (.ref ra), .val (.ref rb), .val (.int i1), .val (.int i2), .val (.int bo), .val (.int ag), .val (.ref dom), .unset, .unset, .unset, .unset, .unset, .unset, .unset] [])) t → Steps p.tables e below (T0.setTop (mkF m 228 #[.val (.int p1), .val (.int p2), .val (.int p3), .val (.int p4), .val (.int p5), .val (.int nA), .val (.int x0), .val (.int x1), .val (.int x2), .val (.int x3), .val (.int nB), .val (.int y0), .val (.int y1), .val (.int y2), .val (.int y3), .val (.ref ra), .val (.ref rb), .val (.int i1), .val (.int i2), .val (.int bo), .val (.int ag), .val (.ref dom), .unset, .unset, .unset, .unset, .unset, .unset, .unset] [])) t := by
  refine ⟨T0, _, X0, N0, e0, fun t kt => ?_⟩
  show Steps p.tables e below (T0.setTop (mkF m 228 #[.val (.int p1), .val (.int p2), .val (.int p3), .val (.int p4), .val (.int p5), .val (.int nA), .val (.int x0), .val (.int x1), .val (.int x2), .val (.int x3), .val (.int nB), .val (.int y0), .val (.int y1), .val (.int y2), .val (.int y3), .val (.ref ra), .val (.ref rb), .val (.int i1), .val (.int i2), .val (.int bo), .val (.int ag), .val (.ref dom), .unset, .unset, .unset, .unset, .unset, .unset, .unset] [])) _
  refine XS.iload X0.here hx rfl (hb hby at_228) rfl ?_
  show Steps p.tables e below (T0.setTop (mkF m 230 #[.val (.int p1), .val (.int p2), .val (.int p3), .val (.int p4), .val (.int p5), .val (.int nA), .val (.int x0), .val (.int x1), .val (.int x2), .val (.int x3), .val (.int nB), .val (.int y0), .val (.int y1), .val (.int y2), .val (.int y3), .val (.ref ra), .val (.ref rb), .val (.int i1), .val (.int i2), .val (.int bo), .val (.int ag), .val (.ref dom), .unset, .unset, .unset, .unset, .unset, .unset, .unset] [(.int bo)])) _
  refine XS.ifYes X0.here hx rfl (pc0 := 230) (pc' := 246) rfl (hb hby at_230) rfl ((if0 _ _).trans (teq hd0).1) (by decide) (by decide) ?_
  show Steps p.tables e below (T0.setTop (mkF m 246 #[.val (.int p1), .val (.int p2), .val (.int p3), .val (.int p4), .val (.int p5), .val (.int nA), .val (.int x0), .val (.int x1), .val (.int x2), .val (.int x3), .val (.int nB), .val (.int y0), .val (.int y1), .val (.int y2), .val (.int y3), .val (.ref ra), .val (.ref rb), .val (.int i1), .val (.int i2), .val (.int bo), .val (.int ag), .val (.ref dom), .unset, .unset, .unset, .unset, .unset, .unset, .unset] [])) _
  exact kt
set_option maxRecDepth 65536 in
set_option maxHeartbeats 40000000 in
theorem qK1 {p : Program} {l : Launch} {e : Env} {s : State} {m : MethodId} {args : Array Value} {below : List Frame} {meth : Method} {c : Code} {T0 : State} {locs : List Loc} {Z : State} {a0 : Array Value} {h0 : Heap} {n0 : Nat} (p1 : Int32) (p2 : Int32) (p3 : Int32) (p4 : Int32) (p5 : Int32) (nA : Int32) (x0 : Int32) (x1 : Int32) (x2 : Int32) (x3 : Int32) (nB : Int32) (y0 : Int32) (y1 : Int32) (y2 : Int32) (y3 : Int32) (ra : Addr) (rb : Addr) (i1 : Int32) (i2 : Int32) (bo : Int32) (ag : Int32) (dom : Addr)
    (X0 : Stand p l e room_1 s m args below meth c T0 locs 14 64) (hx : p.tables.exec = Jvm.exec) (hZ : Z.Warmed39 s.vm) (hw : ∀ d ∈ tables_1, d.before a0 Z = true) (hby : c.code = code) (hml : c.maxLocals = 29) (hown : s.vm.findClass "com/example/caprice/caprice/solver/DomainsGatherReasonsPinLaw" = some m.cls) (e0 : T0.heap = h0) (N0 : Fr n0 locs) (O0 : Old Z n0 h0) (hd0 : ¬ (bo = (0 : Int32))) :
    ∃ (T' : State) (locs' : List Loc), Stand p l e room_1 s m args below meth c T' locs' 14 64 ∧ Fr n0 locs' ∧ T'.heap = h0 ∧ ∀ t, Steps p.tables e below (T'.setTop (mkF m 243 #[.val (.int p1), .val (.int p2), .val (.int p3), .val (.int p4), .val (.int p5), .val (.int nA), .val (.int x0), .val (.int x1), .val (.int x2), .val (.int x3), .val (.int nB), .val (.int y0), .val (.int y1), .val (.int y2), .val (.int y3), .val (.ref ra), .val (.ref rb), .val (.int i1), .val (.int i2), .val (.int bo), .val (.int ag), .val (.ref dom), .unset, .unset, .unset, .unset, .unset, .unset, .unset] [(.int (i2 &&& (1 : Int32))), (.int (i2 >>> ((1 : Int32) &&& 31))), (.ref dom)])) t → Steps p.tables e below (T0.setTop (mkF m 228 #[.val (.int p1), .val (.int p2), .val (.int p3), .val (.int p4), .val (.int p5), .val (.int nA), .val (.int x0), .val (.int x1), .val (.int x2), .val (.int x3), .val (.int nB), .val (.int y0), .val (.int y1), .val (.int y2), .val (.int y3), .val (.ref ra), .val (.ref rb), .val (.int i1), .val (.int i2), .val (.int bo), .val (.int ag), .val (.ref dom), .unset, .unset, .unset, .unset, .unset, .unset, .unset] [])) t := by
  refine ⟨T0, _, X0, N0, e0, fun t kt => ?_⟩
  show Steps p.tables e below (T0.setTop (mkF m 228 #[.val (.int p1), .val (.int p2), .val (.int p3), .val (.int p4), .val (.int p5), .val (.int nA), .val (.int x0), .val (.int x1), .val (.int x2), .val (.int x3), .val (.int nB), .val (.int y0), .val (.int y1), .val (.int y2), .val (.int y3), .val (.ref ra), .val (.ref rb), .val (.int i1), .val (.int i2), .val (.int bo), .val (.int ag), .val (.ref dom), .unset, .unset, .unset, .unset, .unset, .unset, .unset] [])) _
  refine XS.iload X0.here hx rfl (hb hby at_228) rfl ?_
  show Steps p.tables e below (T0.setTop (mkF m 230 #[.val (.int p1), .val (.int p2), .val (.int p3), .val (.int p4), .val (.int p5), .val (.int nA), .val (.int x0), .val (.int x1), .val (.int x2), .val (.int x3), .val (.int nB), .val (.int y0), .val (.int y1), .val (.int y2), .val (.int y3), .val (.ref ra), .val (.ref rb), .val (.int i1), .val (.int i2), .val (.int bo), .val (.int ag), .val (.ref dom), .unset, .unset, .unset, .unset, .unset, .unset, .unset] [(.int bo)])) _
  refine XS.ifNo X0.here hx rfl (hb hby at_230) rfl ((if0 _ _).trans (feq hd0).1) ?_
  show Steps p.tables e below (T0.setTop (mkF m 233 #[.val (.int p1), .val (.int p2), .val (.int p3), .val (.int p4), .val (.int p5), .val (.int nA), .val (.int x0), .val (.int x1), .val (.int x2), .val (.int x3), .val (.int nB), .val (.int y0), .val (.int y1), .val (.int y2), .val (.int y3), .val (.ref ra), .val (.ref rb), .val (.int i1), .val (.int i2), .val (.int bo), .val (.int ag), .val (.ref dom), .unset, .unset, .unset, .unset, .unset, .unset, .unset] [])) _
  refine XS.aload X0.here hx rfl (hb hby at_233) rfl rfl ?_
  show Steps p.tables e below (T0.setTop (mkF m 235 #[.val (.int p1), .val (.int p2), .val (.int p3), .val (.int p4), .val (.int p5), .val (.int nA), .val (.int x0), .val (.int x1), .val (.int x2), .val (.int x3), .val (.int nB), .val (.int y0), .val (.int y1), .val (.int y2), .val (.int y3), .val (.ref ra), .val (.ref rb), .val (.int i1), .val (.int i2), .val (.int bo), .val (.int ag), .val (.ref dom), .unset, .unset, .unset, .unset, .unset, .unset, .unset] [(.ref dom)])) _
  refine XS.iload X0.here hx rfl (hb hby at_235) rfl ?_
  show Steps p.tables e below (T0.setTop (mkF m 237 #[.val (.int p1), .val (.int p2), .val (.int p3), .val (.int p4), .val (.int p5), .val (.int nA), .val (.int x0), .val (.int x1), .val (.int x2), .val (.int x3), .val (.int nB), .val (.int y0), .val (.int y1), .val (.int y2), .val (.int y3), .val (.ref ra), .val (.ref rb), .val (.int i1), .val (.int i2), .val (.int bo), .val (.int ag), .val (.ref dom), .unset, .unset, .unset, .unset, .unset, .unset, .unset] [(.int i2), (.ref dom)])) _
  refine XS.iconst X0.here hx rfl (hb hby at_237) ?_
  show Steps p.tables e below (T0.setTop (mkF m 238 #[.val (.int p1), .val (.int p2), .val (.int p3), .val (.int p4), .val (.int p5), .val (.int nA), .val (.int x0), .val (.int x1), .val (.int x2), .val (.int x3), .val (.int nB), .val (.int y0), .val (.int y1), .val (.int y2), .val (.int y3), .val (.ref ra), .val (.ref rb), .val (.int i1), .val (.int i2), .val (.int bo), .val (.int ag), .val (.ref dom), .unset, .unset, .unset, .unset, .unset, .unset, .unset] [(.int (1 : Int32)), (.int i2), (.ref dom)])) _
  refine XS.ishr X0.here hx rfl (hb hby at_238) rfl ?_
  show Steps p.tables e below (T0.setTop (mkF m 239 #[.val (.int p1), .val (.int p2), .val (.int p3), .val (.int p4), .val (.int p5), .val (.int nA), .val (.int x0), .val (.int x1), .val (.int x2), .val (.int x3), .val (.int nB), .val (.int y0), .val (.int y1), .val (.int y2), .val (.int y3), .val (.ref ra), .val (.ref rb), .val (.int i1), .val (.int i2), .val (.int bo), .val (.int ag), .val (.ref dom), .unset, .unset, .unset, .unset, .unset, .unset, .unset] [(.int (i2 >>> ((1 : Int32) &&& 31))), (.ref dom)])) _
  refine XS.iload X0.here hx rfl (hb hby at_239) rfl ?_
  show Steps p.tables e below (T0.setTop (mkF m 241 #[.val (.int p1), .val (.int p2), .val (.int p3), .val (.int p4), .val (.int p5), .val (.int nA), .val (.int x0), .val (.int x1), .val (.int x2), .val (.int x3), .val (.int nB), .val (.int y0), .val (.int y1), .val (.int y2), .val (.int y3), .val (.ref ra), .val (.ref rb), .val (.int i1), .val (.int i2), .val (.int bo), .val (.int ag), .val (.ref dom), .unset, .unset, .unset, .unset, .unset, .unset, .unset] [(.int i2), (.int (i2 >>> ((1 : Int32) &&& 31))), (.ref dom)])) _
  refine XS.iconst X0.here hx rfl (hb hby at_241) ?_
  show Steps p.tables e below (T0.setTop (mkF m 242 #[.val (.int p1), .val (.int p2), .val (.int p3), .val (.int p4), .val (.int p5), .val (.int nA), .val (.int x0), .val (.int x1), .val (.int x2), .val (.int x3), .val (.int nB), .val (.int y0), .val (.int y1), .val (.int y2), .val (.int y3), .val (.ref ra), .val (.ref rb), .val (.int i1), .val (.int i2), .val (.int bo), .val (.int ag), .val (.ref dom), .unset, .unset, .unset, .unset, .unset, .unset, .unset] [(.int (1 : Int32)), (.int i2), (.int (i2 >>> ((1 : Int32) &&& 31))), (.ref dom)])) _
  refine XS.iand X0.here hx rfl (hb hby at_242) rfl ?_
  show Steps p.tables e below (T0.setTop (mkF m 243 #[.val (.int p1), .val (.int p2), .val (.int p3), .val (.int p4), .val (.int p5), .val (.int nA), .val (.int x0), .val (.int x1), .val (.int x2), .val (.int x3), .val (.int nB), .val (.int y0), .val (.int y1), .val (.int y2), .val (.int y3), .val (.ref ra), .val (.ref rb), .val (.int i1), .val (.int i2), .val (.int bo), .val (.int ag), .val (.ref dom), .unset, .unset, .unset, .unset, .unset, .unset, .unset] [(.int (i2 &&& (1 : Int32))), (.int (i2 >>> ((1 : Int32) &&& 31))), (.ref dom)])) _
  exact kt
set_option maxRecDepth 65536 in
set_option maxHeartbeats 4000000 in
theorem cG2 {p : Program} {l : Launch} {e : Env} {s : State} {m : MethodId} {args : Array Value} {below : List Frame} {meth : Method} {c : Code} {T0 : State} {locs : List Loc} {cells slots : Nat} {Z : State} {a0 : Array Value} {h0 : Heap} {Ls : Array Slot} (ob : Addr) (x0 : Int32) (x1 : Int32)
    (X0 : Stand p l e room_1 s m args below meth c T0 locs cells slots) (hx : p.tables.exec = Jvm.exec) (hZ : Z.Warmed39 s.vm) (hw : ∀ d ∈ tables_1, d.before a0 Z = true) (hby : c.code = code) (hml : c.maxLocals = 29) (hown : s.vm.findClass "com/example/caprice/caprice/solver/DomainsGatherReasonsPinLaw" = some m.cls) (e0 : T0.heap = h0) (hsz : Ls.size = 29) (ER : Exa Z h0 ob "com/example/caprice/caprice/solver/Domains") {rm : Room} {Q : Option Value → Heap → List Loc → Prop}
    (M : MetFree l (⟨"com/example/caprice/caprice/solver/Domains", "gatherReasons", "(II)V"⟩ : MethodName) (head1 [Jvm.Cond.code (⟨"com/example/caprice/caprice/solver/Domains", "gatherReasons", "(II)V"⟩ : MethodName) prog_59_method_13_code 7 none] rm) (fun a U => a = #[(.ref ob), (.int x0), (.int x1)] ∧ Z.Warmed39 U.vm ∧ U.heap = h0) (fun _ _ _ _ _ => True) (fun _ U o U' => ∃ v L, o = .returned v ∧ Q v U'.heap L ∧ FrameEnd U o U' L rm.cells rm.slots)) (hfr : rm.frames + 1 ≤ room_1.frames) (hlo : 0 + (7 + 11) + rm.locals ≤ room_1.locals) (hce : cells + rm.cells ≤ room_1.cells) (hsl : slots + rm.slots ≤ room_1.slots) :
    ∃ (T' : State) (v : Option Value) (L : List Loc), Stand p l e room_1 s m args below meth c T' (locs ++ L) (cells + rm.cells) (slots + rm.slots) ∧ Q v T'.heap L ∧ ∀ t, Steps p.tables e below (T'.setTop (mkF m 246 Ls (v.toList ++ []))) t → Steps p.tables e below (T0.setTop (mkF m 243 Ls [(.int x1), (.int x0), (.ref ob)])) t := by
  obtain ⟨cq, kq, qa, qb, qc⟩ := isOf hZ e0 ER
  obtain ⟨v, _, ⟨T1, L1, k1, n1⟩, -, X1, ⟨Lc, hQ, l1, y1, z1⟩, st⟩ := X0.virtualBack hx (y := (⟨"com/example/caprice/caprice/solver/Domains", "gatherReasons", "(II)V"⟩ : MethodName)) (z := (⟨"com/example/caprice/caprice/solver/Domains", "gatherReasons", "(II)V"⟩ : MethodName)) hown (mvT hZ (hw _ (List.mem_of_getElem? (i := 45) rfl))) (mvT hZ (hw _ (List.mem_of_getElem? (i := 46) rfl))) (notFace_of_selects (args := #[]) (mvT hZ (hw _ (List.mem_of_getElem? (i := 48) rfl)))) (mvT hZ (hw _ (List.mem_of_getElem? (i := 48) rfl))) (mvT hZ (hw _ (List.mem_of_getElem? (i := 47) rfl))) (by decide) (backOf (W := 0) M hZ (hw _ (List.mem_of_getElem? (i := 49) rfl)) (hw _ (List.mem_of_getElem? (i := 7) rfl)) hfr hlo) qa qc (g := (mkF m 243 Ls [(.int x1), (.int x0), (.ref ob)])) rfl (by rw [hml]; exact hsz) (Steps.refl _) (argsL := [(.int x0), (.int x1)]) (rest := []) (lenOf pd483 rfl) rfl (by show 2 * 0 + _ ≤ _; exact Nat.le_of_eq rfl) (hb hby at_243) (fun _ _ => ⟨rfl, e0, hce, hsl⟩)
  dsimp only [Pt.U, Pt.locs, Pt.cells, Pt.slots] at X1 l1 y1 z1 st hQ
  subst l1 y1 z1
  exact ⟨T1, v, Lc, X1, hQ, fun t kt => st.trans kt⟩
set_option maxRecDepth 65536 in
set_option maxHeartbeats 40000000 in
theorem qL0 {p : Program} {l : Launch} {e : Env} {s : State} {m : MethodId} {args : Array Value} {below : List Frame} {meth : Method} {c : Code} {T0 : State} {locs : List Loc} {Z : State} {a0 : Array Value} {h0 : Heap} {n0 : Nat} (p1 : Int32) (p2 : Int32) (p3 : Int32) (p4 : Int32) (p5 : Int32) (nA : Int32) (x0 : Int32) (x1 : Int32) (x2 : Int32) (x3 : Int32) (nB : Int32) (y0 : Int32) (y1 : Int32) (y2 : Int32) (y3 : Int32) (ra : Addr) (rb : Addr) (i1 : Int32) (i2 : Int32) (bo : Int32) (ag : Int32) (dom : Addr)
    (X0 : Stand p l e room_1 s m args below meth c T0 locs 14 64) (hx : p.tables.exec = Jvm.exec) (hZ : Z.Warmed39 s.vm) (hw : ∀ d ∈ tables_1, d.before a0 Z = true) (hby : c.code = code) (hml : c.maxLocals = 29) (hown : s.vm.findClass "com/example/caprice/caprice/solver/DomainsGatherReasonsPinLaw" = some m.cls) (e0 : T0.heap = h0) (N0 : Fr n0 locs) (O0 : Old Z n0 h0) (hd0 : ag = (0 : Int32)) :
    ∃ (T' : State) (locs' : List Loc), Stand p l e room_1 s m args below meth c T' locs' 14 64 ∧ Fr n0 locs' ∧ T'.heap = h0 ∧ ∀ t, Steps p.tables e below (T'.setTop (mkF m 264 #[.val (.int p1), .val (.int p2), .val (.int p3), .val (.int p4), .val (.int p5), .val (.int nA), .val (.int x0), .val (.int x1), .val (.int x2), .val (.int x3), .val (.int nB), .val (.int y0), .val (.int y1), .val (.int y2), .val (.int y3), .val (.ref ra), .val (.ref rb), .val (.int i1), .val (.int i2), .val (.int bo), .val (.int ag), .val (.ref dom), .unset, .unset, .unset, .unset, .unset, .unset, .unset] [])) t → Steps p.tables e below (T0.setTop (mkF m 246 #[.val (.int p1), .val (.int p2), .val (.int p3), .val (.int p4), .val (.int p5), .val (.int nA), .val (.int x0), .val (.int x1), .val (.int x2), .val (.int x3), .val (.int nB), .val (.int y0), .val (.int y1), .val (.int y2), .val (.int y3), .val (.ref ra), .val (.ref rb), .val (.int i1), .val (.int i2), .val (.int bo), .val (.int ag), .val (.ref dom), .unset, .unset, .unset, .unset, .unset, .unset, .unset] [])) t := by
  refine ⟨T0, _, X0, N0, e0, fun t kt => ?_⟩
  show Steps p.tables e below (T0.setTop (mkF m 246 #[.val (.int p1), .val (.int p2), .val (.int p3), .val (.int p4), .val (.int p5), .val (.int nA), .val (.int x0), .val (.int x1), .val (.int x2), .val (.int x3), .val (.int nB), .val (.int y0), .val (.int y1), .val (.int y2), .val (.int y3), .val (.ref ra), .val (.ref rb), .val (.int i1), .val (.int i2), .val (.int bo), .val (.int ag), .val (.ref dom), .unset, .unset, .unset, .unset, .unset, .unset, .unset] [])) _
  refine XS.iload X0.here hx rfl (hb hby at_246) rfl ?_
  show Steps p.tables e below (T0.setTop (mkF m 248 #[.val (.int p1), .val (.int p2), .val (.int p3), .val (.int p4), .val (.int p5), .val (.int nA), .val (.int x0), .val (.int x1), .val (.int x2), .val (.int x3), .val (.int nB), .val (.int y0), .val (.int y1), .val (.int y2), .val (.int y3), .val (.ref ra), .val (.ref rb), .val (.int i1), .val (.int i2), .val (.int bo), .val (.int ag), .val (.ref dom), .unset, .unset, .unset, .unset, .unset, .unset, .unset] [(.int ag)])) _
  refine XS.ifYes X0.here hx rfl (pc0 := 248) (pc' := 264) rfl (hb hby at_248) rfl ((if0 _ _).trans (teq hd0).1) (by decide) (by decide) ?_
  show Steps p.tables e below (T0.setTop (mkF m 264 #[.val (.int p1), .val (.int p2), .val (.int p3), .val (.int p4), .val (.int p5), .val (.int nA), .val (.int x0), .val (.int x1), .val (.int x2), .val (.int x3), .val (.int nB), .val (.int y0), .val (.int y1), .val (.int y2), .val (.int y3), .val (.ref ra), .val (.ref rb), .val (.int i1), .val (.int i2), .val (.int bo), .val (.int ag), .val (.ref dom), .unset, .unset, .unset, .unset, .unset, .unset, .unset] [])) _
  exact kt
set_option maxRecDepth 65536 in
set_option maxHeartbeats 40000000 in
theorem qL1 {p : Program} {l : Launch} {e : Env} {s : State} {m : MethodId} {args : Array Value} {below : List Frame} {meth : Method} {c : Code} {T0 : State} {locs : List Loc} {Z : State} {a0 : Array Value} {h0 : Heap} {n0 : Nat} (p1 : Int32) (p2 : Int32) (p3 : Int32) (p4 : Int32) (p5 : Int32) (nA : Int32) (x0 : Int32) (x1 : Int32) (x2 : Int32) (x3 : Int32) (nB : Int32) (y0 : Int32) (y1 : Int32) (y2 : Int32) (y3 : Int32) (ra : Addr) (rb : Addr) (i1 : Int32) (i2 : Int32) (bo : Int32) (ag : Int32) (dom : Addr)
    (X0 : Stand p l e room_1 s m args below meth c T0 locs 14 64) (hx : p.tables.exec = Jvm.exec) (hZ : Z.Warmed39 s.vm) (hw : ∀ d ∈ tables_1, d.before a0 Z = true) (hby : c.code = code) (hml : c.maxLocals = 29) (hown : s.vm.findClass "com/example/caprice/caprice/solver/DomainsGatherReasonsPinLaw" = some m.cls) (e0 : T0.heap = h0) (N0 : Fr n0 locs) (O0 : Old Z n0 h0) (hd0 : ¬ (ag = (0 : Int32))) :
    ∃ (T' : State) (locs' : List Loc), Stand p l e room_1 s m args below meth c T' locs' 14 64 ∧ Fr n0 locs' ∧ T'.heap = h0 ∧ ∀ t, Steps p.tables e below (T'.setTop (mkF m 261 #[.val (.int p1), .val (.int p2), .val (.int p3), .val (.int p4), .val (.int p5), .val (.int nA), .val (.int x0), .val (.int x1), .val (.int x2), .val (.int x3), .val (.int nB), .val (.int y0), .val (.int y1), .val (.int y2), .val (.int y3), .val (.ref ra), .val (.ref rb), .val (.int i1), .val (.int i2), .val (.int bo), .val (.int ag), .val (.ref dom), .unset, .unset, .unset, .unset, .unset, .unset, .unset] [(.int (i1 &&& (1 : Int32))), (.int (i1 >>> ((1 : Int32) &&& 31))), (.ref dom)])) t → Steps p.tables e below (T0.setTop (mkF m 246 #[.val (.int p1), .val (.int p2), .val (.int p3), .val (.int p4), .val (.int p5), .val (.int nA), .val (.int x0), .val (.int x1), .val (.int x2), .val (.int x3), .val (.int nB), .val (.int y0), .val (.int y1), .val (.int y2), .val (.int y3), .val (.ref ra), .val (.ref rb), .val (.int i1), .val (.int i2), .val (.int bo), .val (.int ag), .val (.ref dom), .unset, .unset, .unset, .unset, .unset, .unset, .unset] [])) t := by
  refine ⟨T0, _, X0, N0, e0, fun t kt => ?_⟩
  show Steps p.tables e below (T0.setTop (mkF m 246 #[.val (.int p1), .val (.int p2), .val (.int p3), .val (.int p4), .val (.int p5), .val (.int nA), .val (.int x0), .val (.int x1), .val (.int x2), .val (.int x3), .val (.int nB), .val (.int y0), .val (.int y1), .val (.int y2), .val (.int y3), .val (.ref ra), .val (.ref rb), .val (.int i1), .val (.int i2), .val (.int bo), .val (.int ag), .val (.ref dom), .unset, .unset, .unset, .unset, .unset, .unset, .unset] [])) _
  refine XS.iload X0.here hx rfl (hb hby at_246) rfl ?_
  show Steps p.tables e below (T0.setTop (mkF m 248 #[.val (.int p1), .val (.int p2), .val (.int p3), .val (.int p4), .val (.int p5), .val (.int nA), .val (.int x0), .val (.int x1), .val (.int x2), .val (.int x3), .val (.int nB), .val (.int y0), .val (.int y1), .val (.int y2), .val (.int y3), .val (.ref ra), .val (.ref rb), .val (.int i1), .val (.int i2), .val (.int bo), .val (.int ag), .val (.ref dom), .unset, .unset, .unset, .unset, .unset, .unset, .unset] [(.int ag)])) _
  refine XS.ifNo X0.here hx rfl (hb hby at_248) rfl ((if0 _ _).trans (feq hd0).1) ?_
  show Steps p.tables e below (T0.setTop (mkF m 251 #[.val (.int p1), .val (.int p2), .val (.int p3), .val (.int p4), .val (.int p5), .val (.int nA), .val (.int x0), .val (.int x1), .val (.int x2), .val (.int x3), .val (.int nB), .val (.int y0), .val (.int y1), .val (.int y2), .val (.int y3), .val (.ref ra), .val (.ref rb), .val (.int i1), .val (.int i2), .val (.int bo), .val (.int ag), .val (.ref dom), .unset, .unset, .unset, .unset, .unset, .unset, .unset] [])) _
  refine XS.aload X0.here hx rfl (hb hby at_251) rfl rfl ?_
  show Steps p.tables e below (T0.setTop (mkF m 253 #[.val (.int p1), .val (.int p2), .val (.int p3), .val (.int p4), .val (.int p5), .val (.int nA), .val (.int x0), .val (.int x1), .val (.int x2), .val (.int x3), .val (.int nB), .val (.int y0), .val (.int y1), .val (.int y2), .val (.int y3), .val (.ref ra), .val (.ref rb), .val (.int i1), .val (.int i2), .val (.int bo), .val (.int ag), .val (.ref dom), .unset, .unset, .unset, .unset, .unset, .unset, .unset] [(.ref dom)])) _
  refine XS.iload X0.here hx rfl (hb hby at_253) rfl ?_
  show Steps p.tables e below (T0.setTop (mkF m 255 #[.val (.int p1), .val (.int p2), .val (.int p3), .val (.int p4), .val (.int p5), .val (.int nA), .val (.int x0), .val (.int x1), .val (.int x2), .val (.int x3), .val (.int nB), .val (.int y0), .val (.int y1), .val (.int y2), .val (.int y3), .val (.ref ra), .val (.ref rb), .val (.int i1), .val (.int i2), .val (.int bo), .val (.int ag), .val (.ref dom), .unset, .unset, .unset, .unset, .unset, .unset, .unset] [(.int i1), (.ref dom)])) _
  refine XS.iconst X0.here hx rfl (hb hby at_255) ?_
  show Steps p.tables e below (T0.setTop (mkF m 256 #[.val (.int p1), .val (.int p2), .val (.int p3), .val (.int p4), .val (.int p5), .val (.int nA), .val (.int x0), .val (.int x1), .val (.int x2), .val (.int x3), .val (.int nB), .val (.int y0), .val (.int y1), .val (.int y2), .val (.int y3), .val (.ref ra), .val (.ref rb), .val (.int i1), .val (.int i2), .val (.int bo), .val (.int ag), .val (.ref dom), .unset, .unset, .unset, .unset, .unset, .unset, .unset] [(.int (1 : Int32)), (.int i1), (.ref dom)])) _
  refine XS.ishr X0.here hx rfl (hb hby at_256) rfl ?_
  show Steps p.tables e below (T0.setTop (mkF m 257 #[.val (.int p1), .val (.int p2), .val (.int p3), .val (.int p4), .val (.int p5), .val (.int nA), .val (.int x0), .val (.int x1), .val (.int x2), .val (.int x3), .val (.int nB), .val (.int y0), .val (.int y1), .val (.int y2), .val (.int y3), .val (.ref ra), .val (.ref rb), .val (.int i1), .val (.int i2), .val (.int bo), .val (.int ag), .val (.ref dom), .unset, .unset, .unset, .unset, .unset, .unset, .unset] [(.int (i1 >>> ((1 : Int32) &&& 31))), (.ref dom)])) _
  refine XS.iload X0.here hx rfl (hb hby at_257) rfl ?_
  show Steps p.tables e below (T0.setTop (mkF m 259 #[.val (.int p1), .val (.int p2), .val (.int p3), .val (.int p4), .val (.int p5), .val (.int nA), .val (.int x0), .val (.int x1), .val (.int x2), .val (.int x3), .val (.int nB), .val (.int y0), .val (.int y1), .val (.int y2), .val (.int y3), .val (.ref ra), .val (.ref rb), .val (.int i1), .val (.int i2), .val (.int bo), .val (.int ag), .val (.ref dom), .unset, .unset, .unset, .unset, .unset, .unset, .unset] [(.int i1), (.int (i1 >>> ((1 : Int32) &&& 31))), (.ref dom)])) _
  refine XS.iconst X0.here hx rfl (hb hby at_259) ?_
  show Steps p.tables e below (T0.setTop (mkF m 260 #[.val (.int p1), .val (.int p2), .val (.int p3), .val (.int p4), .val (.int p5), .val (.int nA), .val (.int x0), .val (.int x1), .val (.int x2), .val (.int x3), .val (.int nB), .val (.int y0), .val (.int y1), .val (.int y2), .val (.int y3), .val (.ref ra), .val (.ref rb), .val (.int i1), .val (.int i2), .val (.int bo), .val (.int ag), .val (.ref dom), .unset, .unset, .unset, .unset, .unset, .unset, .unset] [(.int (1 : Int32)), (.int i1), (.int (i1 >>> ((1 : Int32) &&& 31))), (.ref dom)])) _
  refine XS.iand X0.here hx rfl (hb hby at_260) rfl ?_
  show Steps p.tables e below (T0.setTop (mkF m 261 #[.val (.int p1), .val (.int p2), .val (.int p3), .val (.int p4), .val (.int p5), .val (.int nA), .val (.int x0), .val (.int x1), .val (.int x2), .val (.int x3), .val (.int nB), .val (.int y0), .val (.int y1), .val (.int y2), .val (.int y3), .val (.ref ra), .val (.ref rb), .val (.int i1), .val (.int i2), .val (.int bo), .val (.int ag), .val (.ref dom), .unset, .unset, .unset, .unset, .unset, .unset, .unset] [(.int (i1 &&& (1 : Int32))), (.int (i1 >>> ((1 : Int32) &&& 31))), (.ref dom)])) _
  exact kt
set_option maxRecDepth 65536 in
set_option maxHeartbeats 4000000 in
theorem cG3 {p : Program} {l : Launch} {e : Env} {s : State} {m : MethodId} {args : Array Value} {below : List Frame} {meth : Method} {c : Code} {T0 : State} {locs : List Loc} {cells slots : Nat} {Z : State} {a0 : Array Value} {h0 : Heap} {Ls : Array Slot} (ob : Addr) (x0 : Int32) (x1 : Int32)
    (X0 : Stand p l e room_1 s m args below meth c T0 locs cells slots) (hx : p.tables.exec = Jvm.exec) (hZ : Z.Warmed39 s.vm) (hw : ∀ d ∈ tables_1, d.before a0 Z = true) (hby : c.code = code) (hml : c.maxLocals = 29) (hown : s.vm.findClass "com/example/caprice/caprice/solver/DomainsGatherReasonsPinLaw" = some m.cls) (e0 : T0.heap = h0) (hsz : Ls.size = 29) (ER : Exa Z h0 ob "com/example/caprice/caprice/solver/Domains") {rm : Room} {Q : Option Value → Heap → List Loc → Prop}
    (M : MetFree l (⟨"com/example/caprice/caprice/solver/Domains", "gatherReasons", "(II)V"⟩ : MethodName) (head1 [Jvm.Cond.code (⟨"com/example/caprice/caprice/solver/Domains", "gatherReasons", "(II)V"⟩ : MethodName) prog_59_method_13_code 7 none] rm) (fun a U => a = #[(.ref ob), (.int x0), (.int x1)] ∧ Z.Warmed39 U.vm ∧ U.heap = h0) (fun _ _ _ _ _ => True) (fun _ U o U' => ∃ v L, o = .returned v ∧ Q v U'.heap L ∧ FrameEnd U o U' L rm.cells rm.slots)) (hfr : rm.frames + 1 ≤ room_1.frames) (hlo : 0 + (7 + 11) + rm.locals ≤ room_1.locals) (hce : cells + rm.cells ≤ room_1.cells) (hsl : slots + rm.slots ≤ room_1.slots) :
    ∃ (T' : State) (v : Option Value) (L : List Loc), Stand p l e room_1 s m args below meth c T' (locs ++ L) (cells + rm.cells) (slots + rm.slots) ∧ Q v T'.heap L ∧ ∀ t, Steps p.tables e below (T'.setTop (mkF m 264 Ls (v.toList ++ []))) t → Steps p.tables e below (T0.setTop (mkF m 261 Ls [(.int x1), (.int x0), (.ref ob)])) t := by
  obtain ⟨cq, kq, qa, qb, qc⟩ := isOf hZ e0 ER
  obtain ⟨v, _, ⟨T1, L1, k1, n1⟩, -, X1, ⟨Lc, hQ, l1, y1, z1⟩, st⟩ := X0.virtualBack hx (y := (⟨"com/example/caprice/caprice/solver/Domains", "gatherReasons", "(II)V"⟩ : MethodName)) (z := (⟨"com/example/caprice/caprice/solver/Domains", "gatherReasons", "(II)V"⟩ : MethodName)) hown (mvT hZ (hw _ (List.mem_of_getElem? (i := 45) rfl))) (mvT hZ (hw _ (List.mem_of_getElem? (i := 46) rfl))) (notFace_of_selects (args := #[]) (mvT hZ (hw _ (List.mem_of_getElem? (i := 48) rfl)))) (mvT hZ (hw _ (List.mem_of_getElem? (i := 48) rfl))) (mvT hZ (hw _ (List.mem_of_getElem? (i := 47) rfl))) (by decide) (backOf (W := 0) M hZ (hw _ (List.mem_of_getElem? (i := 49) rfl)) (hw _ (List.mem_of_getElem? (i := 7) rfl)) hfr hlo) qa qc (g := (mkF m 261 Ls [(.int x1), (.int x0), (.ref ob)])) rfl (by rw [hml]; exact hsz) (Steps.refl _) (argsL := [(.int x0), (.int x1)]) (rest := []) (lenOf pd483 rfl) rfl (by show 2 * 0 + _ ≤ _; exact Nat.le_of_eq rfl) (hb hby at_261) (fun _ _ => ⟨rfl, e0, hce, hsl⟩)
  dsimp only [Pt.U, Pt.locs, Pt.cells, Pt.slots] at X1 l1 y1 z1 st hQ
  subst l1 y1 z1
  exact ⟨T1, v, Lc, X1, hQ, fun t kt => st.trans kt⟩
set_option maxRecDepth 65536 in
set_option maxHeartbeats 40000000 in
theorem qM {p : Program} {l : Launch} {e : Env} {s : State} {m : MethodId} {args : Array Value} {below : List Frame} {meth : Method} {c : Code} {T0 : State} {locs : List Loc} {Z : State} {a0 : Array Value} {h0 : Heap} {n0 : Nat} (p1 : Int32) (p2 : Int32) (p3 : Int32) (p4 : Int32) (p5 : Int32) (nA : Int32) (x0 : Int32) (x1 : Int32) (x2 : Int32) (x3 : Int32) (nB : Int32) (y0 : Int32) (y1 : Int32) (y2 : Int32) (y3 : Int32) (ra : Addr) (rb : Addr) (i1 : Int32) (i2 : Int32) (bo : Int32) (ag : Int32) (dom : Addr)
    (X0 : Stand p l e room_1 s m args below meth c T0 locs 14 64) (hx : p.tables.exec = Jvm.exec) (hZ : Z.Warmed39 s.vm) (hw : ∀ d ∈ tables_1, d.before a0 Z = true) (hby : c.code = code) (hml : c.maxLocals = 29) (hown : s.vm.findClass "com/example/caprice/caprice/solver/DomainsGatherReasonsPinLaw" = some m.cls) (e0 : T0.heap = h0) (N0 : Fr n0 locs) (O0 : Old Z n0 h0) :
    ∃ (T' : State) (locs' : List Loc), Stand p l e room_1 s m args below meth c T' locs' 14 64 ∧ Fr n0 locs' ∧ T'.heap = h0 ∧ ∀ t, Steps p.tables e below (T'.setTop (mkF m 266 #[.val (.int p1), .val (.int p2), .val (.int p3), .val (.int p4), .val (.int p5), .val (.int nA), .val (.int x0), .val (.int x1), .val (.int x2), .val (.int x3), .val (.int nB), .val (.int y0), .val (.int y1), .val (.int y2), .val (.int y3), .val (.ref ra), .val (.ref rb), .val (.int i1), .val (.int i2), .val (.int bo), .val (.int ag), .val (.ref dom), .unset, .unset, .unset, .unset, .unset, .unset, .unset] [(.ref dom)])) t → Steps p.tables e below (T0.setTop (mkF m 264 #[.val (.int p1), .val (.int p2), .val (.int p3), .val (.int p4), .val (.int p5), .val (.int nA), .val (.int x0), .val (.int x1), .val (.int x2), .val (.int x3), .val (.int nB), .val (.int y0), .val (.int y1), .val (.int y2), .val (.int y3), .val (.ref ra), .val (.ref rb), .val (.int i1), .val (.int i2), .val (.int bo), .val (.int ag), .val (.ref dom), .unset, .unset, .unset, .unset, .unset, .unset, .unset] [])) t := by
  refine ⟨T0, _, X0, N0, e0, fun t kt => ?_⟩
  show Steps p.tables e below (T0.setTop (mkF m 264 #[.val (.int p1), .val (.int p2), .val (.int p3), .val (.int p4), .val (.int p5), .val (.int nA), .val (.int x0), .val (.int x1), .val (.int x2), .val (.int x3), .val (.int nB), .val (.int y0), .val (.int y1), .val (.int y2), .val (.int y3), .val (.ref ra), .val (.ref rb), .val (.int i1), .val (.int i2), .val (.int bo), .val (.int ag), .val (.ref dom), .unset, .unset, .unset, .unset, .unset, .unset, .unset] [])) _
  refine XS.aload X0.here hx rfl (hb hby at_264) rfl rfl ?_
  show Steps p.tables e below (T0.setTop (mkF m 266 #[.val (.int p1), .val (.int p2), .val (.int p3), .val (.int p4), .val (.int p5), .val (.int nA), .val (.int x0), .val (.int x1), .val (.int x2), .val (.int x3), .val (.int nB), .val (.int y0), .val (.int y1), .val (.int y2), .val (.int y3), .val (.ref ra), .val (.ref rb), .val (.int i1), .val (.int i2), .val (.int bo), .val (.int ag), .val (.ref dom), .unset, .unset, .unset, .unset, .unset, .unset, .unset] [(.ref dom)])) _
  exact kt
theorem pd489 : parseMethodDescriptor "()[I" = some ⟨[], some (.array .int)⟩ := by decide +kernel
set_option maxRecDepth 65536 in
set_option maxHeartbeats 4000000 in
theorem cT1 {p : Program} {l : Launch} {e : Env} {s : State} {m : MethodId} {args : Array Value} {below : List Frame} {meth : Method} {c : Code} {T0 : State} {locs : List Loc} {cells slots : Nat} {Z : State} {a0 : Array Value} {h0 : Heap} {Ls : Array Slot} (ob : Addr)
    (X0 : Stand p l e room_1 s m args below meth c T0 locs cells slots) (hx : p.tables.exec = Jvm.exec) (hZ : Z.Warmed39 s.vm) (hw : ∀ d ∈ tables_1, d.before a0 Z = true) (hby : c.code = code) (hml : c.maxLocals = 29) (hown : s.vm.findClass "com/example/caprice/caprice/solver/DomainsGatherReasonsPinLaw" = some m.cls) (e0 : T0.heap = h0) (hsz : Ls.size = 29) (ER : Exa Z h0 ob "com/example/caprice/caprice/solver/Domains") {rm : Room} {Q : Option Value → Heap → List Loc → Prop}
    (M : MetFree l (⟨"com/example/caprice/caprice/solver/Domains", "takeGathered", "()[I"⟩ : MethodName) (head1 [Jvm.Cond.code (⟨"com/example/caprice/caprice/solver/Domains", "takeGathered", "()[I"⟩ : MethodName) prog_59_method_14_code 6 (some (.array .int))] rm) (fun a U => a = #[(.ref ob)] ∧ Z.Warmed39 U.vm ∧ U.heap = h0) (fun _ _ _ _ _ => True) (fun _ U o U' => ∃ v L, o = .returned v ∧ Q v U'.heap L ∧ FrameEnd U o U' L rm.cells rm.slots)) (hfr : rm.frames + 1 ≤ room_1.frames) (hlo : 0 + (6 + 11) + rm.locals ≤ room_1.locals) (hce : cells + rm.cells ≤ room_1.cells) (hsl : slots + rm.slots ≤ room_1.slots) :
    ∃ (T' : State) (v : Option Value) (L : List Loc), Stand p l e room_1 s m args below meth c T' (locs ++ L) (cells + rm.cells) (slots + rm.slots) ∧ Q v T'.heap L ∧ ∀ t, Steps p.tables e below (T'.setTop (mkF m 269 Ls (v.toList ++ []))) t → Steps p.tables e below (T0.setTop (mkF m 266 Ls [(.ref ob)])) t := by
  obtain ⟨cq, kq, qa, qb, qc⟩ := isOf hZ e0 ER
  obtain ⟨v, _, ⟨T1, L1, k1, n1⟩, -, X1, ⟨Lc, hQ, l1, y1, z1⟩, st⟩ := X0.virtualBack hx (y := (⟨"com/example/caprice/caprice/solver/Domains", "takeGathered", "()[I"⟩ : MethodName)) (z := (⟨"com/example/caprice/caprice/solver/Domains", "takeGathered", "()[I"⟩ : MethodName)) hown (mvT hZ (hw _ (List.mem_of_getElem? (i := 50) rfl))) (mvT hZ (hw _ (List.mem_of_getElem? (i := 51) rfl))) (notFace_of_selects (args := #[]) (mvT hZ (hw _ (List.mem_of_getElem? (i := 53) rfl)))) (mvT hZ (hw _ (List.mem_of_getElem? (i := 53) rfl))) (mvT hZ (hw _ (List.mem_of_getElem? (i := 52) rfl))) (by decide) (backOf (W := 0) M hZ (hw _ (List.mem_of_getElem? (i := 54) rfl)) (hw _ (List.mem_of_getElem? (i := 7) rfl)) hfr hlo) qa qc (g := (mkF m 266 Ls [(.ref ob)])) rfl (by rw [hml]; exact hsz) (Steps.refl _) (argsL := []) (rest := []) (lenOf pd489 rfl) rfl (by show 2 * 0 + _ ≤ _; exact Nat.le_of_eq rfl) (hb hby at_266) (fun _ _ => ⟨rfl, e0, hce, hsl⟩)
  dsimp only [Pt.U, Pt.locs, Pt.cells, Pt.slots] at X1 l1 y1 z1 st hQ
  subst l1 y1 z1
  exact ⟨T1, v, Lc, X1, hQ, fun t kt => st.trans kt⟩
set_option maxRecDepth 65536 in
set_option maxHeartbeats 40000000 in
theorem qN {p : Program} {l : Launch} {e : Env} {s : State} {m : MethodId} {args : Array Value} {below : List Frame} {meth : Method} {c : Code} {T0 : State} {locs : List Loc} {Z : State} {a0 : Array Value} {h0 : Heap} {n0 : Nat} (p1 : Int32) (p2 : Int32) (p3 : Int32) (p4 : Int32) (p5 : Int32) (nA : Int32) (x0 : Int32) (x1 : Int32) (x2 : Int32) (x3 : Int32) (nB : Int32) (y0 : Int32) (y1 : Int32) (y2 : Int32) (y3 : Int32) (ra : Addr) (rb : Addr) (i1 : Int32) (i2 : Int32) (bo : Int32) (ag : Int32) (dom : Addr) (u1 : Addr)
    (X0 : Stand p l e room_1 s m args below meth c T0 locs 15 68) (hx : p.tables.exec = Jvm.exec) (hZ : Z.Warmed39 s.vm) (hw : ∀ d ∈ tables_1, d.before a0 Z = true) (hby : c.code = code) (hml : c.maxLocals = 29) (hown : s.vm.findClass "com/example/caprice/caprice/solver/DomainsGatherReasonsPinLaw" = some m.cls) (e0 : T0.heap = h0) (N0 : Fr n0 locs) (O0 : Old Z n0 h0) :
    ∃ (T' : State) (locs' : List Loc), Stand p l e room_1 s m args below meth c T' locs' 15 68 ∧ Fr n0 locs' ∧ T'.heap = h0 ∧ ∀ t, Steps p.tables e below (T'.setTop (mkF m 273 #[.val (.int p1), .val (.int p2), .val (.int p3), .val (.int p4), .val (.int p5), .val (.int nA), .val (.int x0), .val (.int x1), .val (.int x2), .val (.int x3), .val (.int nB), .val (.int y0), .val (.int y1), .val (.int y2), .val (.int y3), .val (.ref ra), .val (.ref rb), .val (.int i1), .val (.int i2), .val (.int bo), .val (.int ag), .val (.ref dom), .val (.ref u1), .unset, .unset, .unset, .unset, .unset, .unset] [(.ref u1)])) t → Steps p.tables e below (T0.setTop (mkF m 269 #[.val (.int p1), .val (.int p2), .val (.int p3), .val (.int p4), .val (.int p5), .val (.int nA), .val (.int x0), .val (.int x1), .val (.int x2), .val (.int x3), .val (.int nB), .val (.int y0), .val (.int y1), .val (.int y2), .val (.int y3), .val (.ref ra), .val (.ref rb), .val (.int i1), .val (.int i2), .val (.int bo), .val (.int ag), .val (.ref dom), .unset, .unset, .unset, .unset, .unset, .unset, .unset] [(.ref u1)])) t := by
  refine ⟨T0, _, X0, N0, e0, fun t kt => ?_⟩
  show Steps p.tables e below (T0.setTop (mkF m 269 #[.val (.int p1), .val (.int p2), .val (.int p3), .val (.int p4), .val (.int p5), .val (.int nA), .val (.int x0), .val (.int x1), .val (.int x2), .val (.int x3), .val (.int nB), .val (.int y0), .val (.int y1), .val (.int y2), .val (.int y3), .val (.ref ra), .val (.ref rb), .val (.int i1), .val (.int i2), .val (.int bo), .val (.int ag), .val (.ref dom), .unset, .unset, .unset, .unset, .unset, .unset, .unset] [(.ref u1)])) _
  refine XS.astore X0.here hx rfl (hb hby at_269) rfl rfl (l' := #[.val (.int p1), .val (.int p2), .val (.int p3), .val (.int p4), .val (.int p5), .val (.int nA), .val (.int x0), .val (.int x1), .val (.int x2), .val (.int x3), .val (.int nB), .val (.int y0), .val (.int y1), .val (.int y2), .val (.int y3), .val (.ref ra), .val (.ref rb), .val (.int i1), .val (.int i2), .val (.int bo), .val (.int ag), .val (.ref dom), .val (.ref u1), .unset, .unset, .unset, .unset, .unset, .unset]) rfl ?_
  show Steps p.tables e below (T0.setTop (mkF m 271 #[.val (.int p1), .val (.int p2), .val (.int p3), .val (.int p4), .val (.int p5), .val (.int nA), .val (.int x0), .val (.int x1), .val (.int x2), .val (.int x3), .val (.int nB), .val (.int y0), .val (.int y1), .val (.int y2), .val (.int y3), .val (.ref ra), .val (.ref rb), .val (.int i1), .val (.int i2), .val (.int bo), .val (.int ag), .val (.ref dom), .val (.ref u1), .unset, .unset, .unset, .unset, .unset, .unset] [])) _
  refine XS.aload X0.here hx rfl (hb hby at_271) rfl rfl ?_
  show Steps p.tables e below (T0.setTop (mkF m 273 #[.val (.int p1), .val (.int p2), .val (.int p3), .val (.int p4), .val (.int p5), .val (.int nA), .val (.int x0), .val (.int x1), .val (.int x2), .val (.int x3), .val (.int nB), .val (.int y0), .val (.int y1), .val (.int y2), .val (.int y3), .val (.ref ra), .val (.ref rb), .val (.int i1), .val (.int i2), .val (.int bo), .val (.int ag), .val (.ref dom), .val (.ref u1), .unset, .unset, .unset, .unset, .unset, .unset] [(.ref u1)])) _
  exact kt
theorem pd491 : parseMethodDescriptor "([I)I" = some ⟨[(.array .int)], some .int⟩ := by decide +kernel
set_option maxRecDepth 65536 in
set_option maxHeartbeats 4000000 in
theorem cO1 {p : Program} {l : Launch} {e : Env} {s : State} {m : MethodId} {args : Array Value} {below : List Frame} {meth : Method} {c : Code} {T0 : State} {locs : List Loc} {cells slots : Nat} {Z : State} {a0 : Array Value} {h0 : Heap} {Ls : Array Slot} (x0 : Addr)
    (X0 : Stand p l e room_1 s m args below meth c T0 locs cells slots) (hx : p.tables.exec = Jvm.exec) (hZ : Z.Warmed39 s.vm) (hw : ∀ d ∈ tables_1, d.before a0 Z = true) (hby : c.code = code) (hml : c.maxLocals = 29) (hown : s.vm.findClass "com/example/caprice/caprice/solver/DomainsGatherReasonsPinLaw" = some m.cls) (e0 : T0.heap = h0) (hsz : Ls.size = 29) {rm : Room} {Q : Option Value → Heap → List Loc → Prop}
    (M : MetFree l (⟨"com/example/caprice/caprice/solver/DomainsGatherReasonsPinLaw", "maskOf", "([I)I"⟩ : MethodName) (head1 [Jvm.Cond.code (⟨"com/example/caprice/caprice/solver/DomainsGatherReasonsPinLaw", "maskOf", "([I)I"⟩ : MethodName) method_6_code 3 (some .int)] rm) (fun a U => a = #[(.ref x0)] ∧ Z.Warmed39 U.vm ∧ U.heap = h0) (fun _ _ _ _ _ => True) (fun _ U o U' => ∃ v L, o = .returned v ∧ Q v U'.heap L ∧ FrameEnd U o U' L rm.cells rm.slots)) (hfr : rm.frames + 1 ≤ room_1.frames) (hlo : 0 + (3 + 11) + rm.locals ≤ room_1.locals) (hce : cells + rm.cells ≤ room_1.cells) (hsl : slots + rm.slots ≤ room_1.slots) :
    ∃ (T' : State) (v : Option Value) (L : List Loc), Stand p l e room_1 s m args below meth c T' (locs ++ L) (cells + rm.cells) (slots + rm.slots) ∧ Q v T'.heap L ∧ ∀ t, Steps p.tables e below (T'.setTop (mkF m 276 Ls (v.toList ++ []))) t → Steps p.tables e below (T0.setTop (mkF m 273 Ls [(.ref x0)])) t := by
  obtain ⟨v, _, ⟨T1, L1, k1, n1⟩, -, X1, ⟨Lc, hQ, l1, y1, z1⟩, st⟩ := Jvm.LawKit.callS X0 hx (y := (⟨"com/example/caprice/caprice/solver/DomainsGatherReasonsPinLaw", "maskOf", "([I)I"⟩ : MethodName)) hown (mvT hZ (hw _ (List.mem_of_getElem? (i := 59) rfl))) (mvT hZ (hw _ (List.mem_of_getElem? (i := 60) rfl))) (mvT hZ (hw _ (List.mem_of_getElem? (i := 2) rfl))) (mvT hZ (hw _ (List.mem_of_getElem? (i := 61) rfl))) (by decide) (backOf (W := 0) M hZ (hw _ (List.mem_of_getElem? (i := 61) rfl)) (hw _ (List.mem_of_getElem? (i := 2) rfl)) hfr hlo) (g := (mkF m 273 Ls [(.ref x0)])) rfl (by rw [hml]; exact hsz) (argsL := [(.ref x0)]) (rest := []) (lenOf pd491 rfl) rfl (by show 2 * 0 + _ ≤ _; exact Nat.le_of_eq rfl) (hb hby at_273) (fun _ _ => ⟨rfl, e0, hce, hsl⟩)
  dsimp only [Pt.U, Pt.locs, Pt.cells, Pt.slots] at X1 l1 y1 z1 st hQ
  subst l1 y1 z1
  exact ⟨T1, v, Lc, X1, hQ, fun t kt => st t kt⟩
set_option maxRecDepth 65536 in
set_option maxHeartbeats 40000000 in
theorem qO {p : Program} {l : Launch} {e : Env} {s : State} {m : MethodId} {args : Array Value} {below : List Frame} {meth : Method} {c : Code} {T0 : State} {locs : List Loc} {Z : State} {a0 : Array Value} {h0 : Heap} {n0 : Nat} (p1 : Int32) (p2 : Int32) (p3 : Int32) (p4 : Int32) (p5 : Int32) (nA : Int32) (x0 : Int32) (x1 : Int32) (x2 : Int32) (x3 : Int32) (nB : Int32) (y0 : Int32) (y1 : Int32) (y2 : Int32) (y3 : Int32) (ra : Addr) (rb : Addr) (i1 : Int32) (i2 : Int32) (bo : Int32) (ag : Int32) (dom : Addr) (u1 : Addr) (g1 : Int32)
    (X0 : Stand p l e room_1 s m args below meth c T0 locs 15 68) (hx : p.tables.exec = Jvm.exec) (hZ : Z.Warmed39 s.vm) (hw : ∀ d ∈ tables_1, d.before a0 Z = true) (hby : c.code = code) (hml : c.maxLocals = 29) (hown : s.vm.findClass "com/example/caprice/caprice/solver/DomainsGatherReasonsPinLaw" = some m.cls) (e0 : T0.heap = h0) (N0 : Fr n0 locs) (O0 : Old Z n0 h0) :
    ∃ (T' : State) (locs' : List Loc), Stand p l e room_1 s m args below meth c T' locs' 15 68 ∧ Fr n0 locs' ∧ T'.heap = h0 ∧ ∀ t, Steps p.tables e below (T'.setTop (mkF m 288 #[.val (.int p1), .val (.int p2), .val (.int p3), .val (.int p4), .val (.int p5), .val (.int nA), .val (.int x0), .val (.int x1), .val (.int x2), .val (.int x3), .val (.int nB), .val (.int y0), .val (.int y1), .val (.int y2), .val (.int y3), .val (.ref ra), .val (.ref rb), .val (.int i1), .val (.int i2), .val (.int bo), .val (.int ag), .val (.ref dom), .val (.ref u1), .val (.int g1), .unset, .unset, .unset, .unset, .unset] [(.int x3), (.int x2), (.int x1), (.int x0), (.int nA)])) t → Steps p.tables e below (T0.setTop (mkF m 276 #[.val (.int p1), .val (.int p2), .val (.int p3), .val (.int p4), .val (.int p5), .val (.int nA), .val (.int x0), .val (.int x1), .val (.int x2), .val (.int x3), .val (.int nB), .val (.int y0), .val (.int y1), .val (.int y2), .val (.int y3), .val (.ref ra), .val (.ref rb), .val (.int i1), .val (.int i2), .val (.int bo), .val (.int ag), .val (.ref dom), .val (.ref u1), .unset, .unset, .unset, .unset, .unset, .unset] [(.int g1)])) t := by
  refine ⟨T0, _, X0, N0, e0, fun t kt => ?_⟩
  show Steps p.tables e below (T0.setTop (mkF m 276 #[.val (.int p1), .val (.int p2), .val (.int p3), .val (.int p4), .val (.int p5), .val (.int nA), .val (.int x0), .val (.int x1), .val (.int x2), .val (.int x3), .val (.int nB), .val (.int y0), .val (.int y1), .val (.int y2), .val (.int y3), .val (.ref ra), .val (.ref rb), .val (.int i1), .val (.int i2), .val (.int bo), .val (.int ag), .val (.ref dom), .val (.ref u1), .unset, .unset, .unset, .unset, .unset, .unset] [(.int g1)])) _
  refine XS.istore X0.here hx rfl (hb hby at_276) rfl (l' := #[.val (.int p1), .val (.int p2), .val (.int p3), .val (.int p4), .val (.int p5), .val (.int nA), .val (.int x0), .val (.int x1), .val (.int x2), .val (.int x3), .val (.int nB), .val (.int y0), .val (.int y1), .val (.int y2), .val (.int y3), .val (.ref ra), .val (.ref rb), .val (.int i1), .val (.int i2), .val (.int bo), .val (.int ag), .val (.ref dom), .val (.ref u1), .val (.int g1), .unset, .unset, .unset, .unset, .unset]) rfl ?_
  show Steps p.tables e below (T0.setTop (mkF m 278 #[.val (.int p1), .val (.int p2), .val (.int p3), .val (.int p4), .val (.int p5), .val (.int nA), .val (.int x0), .val (.int x1), .val (.int x2), .val (.int x3), .val (.int nB), .val (.int y0), .val (.int y1), .val (.int y2), .val (.int y3), .val (.ref ra), .val (.ref rb), .val (.int i1), .val (.int i2), .val (.int bo), .val (.int ag), .val (.ref dom), .val (.ref u1), .val (.int g1), .unset, .unset, .unset, .unset, .unset] [])) _
  refine XS.iload X0.here hx rfl (hb hby at_278) rfl ?_
  show Steps p.tables e below (T0.setTop (mkF m 280 #[.val (.int p1), .val (.int p2), .val (.int p3), .val (.int p4), .val (.int p5), .val (.int nA), .val (.int x0), .val (.int x1), .val (.int x2), .val (.int x3), .val (.int nB), .val (.int y0), .val (.int y1), .val (.int y2), .val (.int y3), .val (.ref ra), .val (.ref rb), .val (.int i1), .val (.int i2), .val (.int bo), .val (.int ag), .val (.ref dom), .val (.ref u1), .val (.int g1), .unset, .unset, .unset, .unset, .unset] [(.int nA)])) _
  refine XS.iload X0.here hx rfl (hb hby at_280) rfl ?_
  show Steps p.tables e below (T0.setTop (mkF m 282 #[.val (.int p1), .val (.int p2), .val (.int p3), .val (.int p4), .val (.int p5), .val (.int nA), .val (.int x0), .val (.int x1), .val (.int x2), .val (.int x3), .val (.int nB), .val (.int y0), .val (.int y1), .val (.int y2), .val (.int y3), .val (.ref ra), .val (.ref rb), .val (.int i1), .val (.int i2), .val (.int bo), .val (.int ag), .val (.ref dom), .val (.ref u1), .val (.int g1), .unset, .unset, .unset, .unset, .unset] [(.int x0), (.int nA)])) _
  refine XS.iload X0.here hx rfl (hb hby at_282) rfl ?_
  show Steps p.tables e below (T0.setTop (mkF m 284 #[.val (.int p1), .val (.int p2), .val (.int p3), .val (.int p4), .val (.int p5), .val (.int nA), .val (.int x0), .val (.int x1), .val (.int x2), .val (.int x3), .val (.int nB), .val (.int y0), .val (.int y1), .val (.int y2), .val (.int y3), .val (.ref ra), .val (.ref rb), .val (.int i1), .val (.int i2), .val (.int bo), .val (.int ag), .val (.ref dom), .val (.ref u1), .val (.int g1), .unset, .unset, .unset, .unset, .unset] [(.int x1), (.int x0), (.int nA)])) _
  refine XS.iload X0.here hx rfl (hb hby at_284) rfl ?_
  show Steps p.tables e below (T0.setTop (mkF m 286 #[.val (.int p1), .val (.int p2), .val (.int p3), .val (.int p4), .val (.int p5), .val (.int nA), .val (.int x0), .val (.int x1), .val (.int x2), .val (.int x3), .val (.int nB), .val (.int y0), .val (.int y1), .val (.int y2), .val (.int y3), .val (.ref ra), .val (.ref rb), .val (.int i1), .val (.int i2), .val (.int bo), .val (.int ag), .val (.ref dom), .val (.ref u1), .val (.int g1), .unset, .unset, .unset, .unset, .unset] [(.int x2), (.int x1), (.int x0), (.int nA)])) _
  refine XS.iload X0.here hx rfl (hb hby at_286) rfl ?_
  show Steps p.tables e below (T0.setTop (mkF m 288 #[.val (.int p1), .val (.int p2), .val (.int p3), .val (.int p4), .val (.int p5), .val (.int nA), .val (.int x0), .val (.int x1), .val (.int x2), .val (.int x3), .val (.int nB), .val (.int y0), .val (.int y1), .val (.int y2), .val (.int y3), .val (.ref ra), .val (.ref rb), .val (.int i1), .val (.int i2), .val (.int bo), .val (.int ag), .val (.ref dom), .val (.ref u1), .val (.int g1), .unset, .unset, .unset, .unset, .unset] [(.int x3), (.int x2), (.int x1), (.int x0), (.int nA)])) _
  exact kt
theorem pd493 : parseMethodDescriptor "(IIIII)I" = some ⟨[.int, .int, .int, .int, .int], some .int⟩ := by decide +kernel
set_option maxRecDepth 65536 in
set_option maxHeartbeats 4000000 in
theorem cB1 {p : Program} {l : Launch} {e : Env} {s : State} {m : MethodId} {args : Array Value} {below : List Frame} {meth : Method} {c : Code} {T0 : State} {locs : List Loc} {cells slots : Nat} {Z : State} {a0 : Array Value} {h0 : Heap} {Ls : Array Slot} (x0 : Int32) (x1 : Int32) (x2 : Int32) (x3 : Int32) (x4 : Int32)
    (X0 : Stand p l e room_1 s m args below meth c T0 locs cells slots) (hx : p.tables.exec = Jvm.exec) (hZ : Z.Warmed39 s.vm) (hw : ∀ d ∈ tables_1, d.before a0 Z = true) (hby : c.code = code) (hml : c.maxLocals = 29) (hown : s.vm.findClass "com/example/caprice/caprice/solver/DomainsGatherReasonsPinLaw" = some m.cls) (e0 : T0.heap = h0) (hsz : Ls.size = 29) {rm : Room} {Q : Option Value → Heap → List Loc → Prop}
    (M : MetFree l (⟨"com/example/caprice/caprice/solver/DomainsGatherReasonsPinLaw", "bits", "(IIIII)I"⟩ : MethodName) (head1 [Jvm.Cond.code (⟨"com/example/caprice/caprice/solver/DomainsGatherReasonsPinLaw", "bits", "(IIIII)I"⟩ : MethodName) method_4_code 6 (some .int)] rm) (fun a U => a = #[(.int x0), (.int x1), (.int x2), (.int x3), (.int x4)] ∧ Z.Warmed39 U.vm ∧ U.heap = h0) (fun _ _ _ _ _ => True) (fun _ U o U' => ∃ v L, o = .returned v ∧ Q v U'.heap L ∧ FrameEnd U o U' L rm.cells rm.slots)) (hfr : rm.frames + 1 ≤ room_1.frames) (hlo : 0 + (6 + 11) + rm.locals ≤ room_1.locals) (hce : cells + rm.cells ≤ room_1.cells) (hsl : slots + rm.slots ≤ room_1.slots) :
    ∃ (T' : State) (v : Option Value) (L : List Loc), Stand p l e room_1 s m args below meth c T' (locs ++ L) (cells + rm.cells) (slots + rm.slots) ∧ Q v T'.heap L ∧ ∀ t, Steps p.tables e below (T'.setTop (mkF m 291 Ls (v.toList ++ []))) t → Steps p.tables e below (T0.setTop (mkF m 288 Ls [(.int x4), (.int x3), (.int x2), (.int x1), (.int x0)])) t := by
  obtain ⟨v, _, ⟨T1, L1, k1, n1⟩, -, X1, ⟨Lc, hQ, l1, y1, z1⟩, st⟩ := Jvm.LawKit.callS X0 hx (y := (⟨"com/example/caprice/caprice/solver/DomainsGatherReasonsPinLaw", "bits", "(IIIII)I"⟩ : MethodName)) hown (mvT hZ (hw _ (List.mem_of_getElem? (i := 62) rfl))) (mvT hZ (hw _ (List.mem_of_getElem? (i := 63) rfl))) (mvT hZ (hw _ (List.mem_of_getElem? (i := 2) rfl))) (mvT hZ (hw _ (List.mem_of_getElem? (i := 64) rfl))) (by decide) (backOf (W := 0) M hZ (hw _ (List.mem_of_getElem? (i := 64) rfl)) (hw _ (List.mem_of_getElem? (i := 2) rfl)) hfr hlo) (g := (mkF m 288 Ls [(.int x4), (.int x3), (.int x2), (.int x1), (.int x0)])) rfl (by rw [hml]; exact hsz) (argsL := [(.int x0), (.int x1), (.int x2), (.int x3), (.int x4)]) (rest := []) (lenOf pd493 rfl) rfl (by show 2 * 0 + _ ≤ _; exact Nat.le_of_eq rfl) (hb hby at_288) (fun _ _ => ⟨rfl, e0, hce, hsl⟩)
  dsimp only [Pt.U, Pt.locs, Pt.cells, Pt.slots] at X1 l1 y1 z1 st hQ
  subst l1 y1 z1
  exact ⟨T1, v, Lc, X1, hQ, fun t kt => st t kt⟩
set_option maxRecDepth 65536 in
set_option maxHeartbeats 40000000 in
theorem qP {p : Program} {l : Launch} {e : Env} {s : State} {m : MethodId} {args : Array Value} {below : List Frame} {meth : Method} {c : Code} {T0 : State} {locs : List Loc} {Z : State} {a0 : Array Value} {h0 : Heap} {n0 : Nat} (p1 : Int32) (p2 : Int32) (p3 : Int32) (p4 : Int32) (p5 : Int32) (nA : Int32) (x0 : Int32) (x1 : Int32) (x2 : Int32) (x3 : Int32) (nB : Int32) (y0 : Int32) (y1 : Int32) (y2 : Int32) (y3 : Int32) (ra : Addr) (rb : Addr) (i1 : Int32) (i2 : Int32) (bo : Int32) (ag : Int32) (dom : Addr) (u1 : Addr) (g1 : Int32) (eA : Int32)
    (X0 : Stand p l e room_1 s m args below meth c T0 locs 15 68) (hx : p.tables.exec = Jvm.exec) (hZ : Z.Warmed39 s.vm) (hw : ∀ d ∈ tables_1, d.before a0 Z = true) (hby : c.code = code) (hml : c.maxLocals = 29) (hown : s.vm.findClass "com/example/caprice/caprice/solver/DomainsGatherReasonsPinLaw" = some m.cls) (e0 : T0.heap = h0) (N0 : Fr n0 locs) (O0 : Old Z n0 h0) :
    ∃ (T' : State) (locs' : List Loc), Stand p l e room_1 s m args below meth c T' locs' 15 68 ∧ Fr n0 locs' ∧ T'.heap = h0 ∧ ∀ t, Steps p.tables e below (T'.setTop (mkF m 303 #[.val (.int p1), .val (.int p2), .val (.int p3), .val (.int p4), .val (.int p5), .val (.int nA), .val (.int x0), .val (.int x1), .val (.int x2), .val (.int x3), .val (.int nB), .val (.int y0), .val (.int y1), .val (.int y2), .val (.int y3), .val (.ref ra), .val (.ref rb), .val (.int i1), .val (.int i2), .val (.int bo), .val (.int ag), .val (.ref dom), .val (.ref u1), .val (.int g1), .val (.int eA), .unset, .unset, .unset, .unset] [(.int y3), (.int y2), (.int y1), (.int y0), (.int nB)])) t → Steps p.tables e below (T0.setTop (mkF m 291 #[.val (.int p1), .val (.int p2), .val (.int p3), .val (.int p4), .val (.int p5), .val (.int nA), .val (.int x0), .val (.int x1), .val (.int x2), .val (.int x3), .val (.int nB), .val (.int y0), .val (.int y1), .val (.int y2), .val (.int y3), .val (.ref ra), .val (.ref rb), .val (.int i1), .val (.int i2), .val (.int bo), .val (.int ag), .val (.ref dom), .val (.ref u1), .val (.int g1), .unset, .unset, .unset, .unset, .unset] [(.int eA)])) t := by
  refine ⟨T0, _, X0, N0, e0, fun t kt => ?_⟩
  show Steps p.tables e below (T0.setTop (mkF m 291 #[.val (.int p1), .val (.int p2), .val (.int p3), .val (.int p4), .val (.int p5), .val (.int nA), .val (.int x0), .val (.int x1), .val (.int x2), .val (.int x3), .val (.int nB), .val (.int y0), .val (.int y1), .val (.int y2), .val (.int y3), .val (.ref ra), .val (.ref rb), .val (.int i1), .val (.int i2), .val (.int bo), .val (.int ag), .val (.ref dom), .val (.ref u1), .val (.int g1), .unset, .unset, .unset, .unset, .unset] [(.int eA)])) _
  refine XS.istore X0.here hx rfl (hb hby at_291) rfl (l' := #[.val (.int p1), .val (.int p2), .val (.int p3), .val (.int p4), .val (.int p5), .val (.int nA), .val (.int x0), .val (.int x1), .val (.int x2), .val (.int x3), .val (.int nB), .val (.int y0), .val (.int y1), .val (.int y2), .val (.int y3), .val (.ref ra), .val (.ref rb), .val (.int i1), .val (.int i2), .val (.int bo), .val (.int ag), .val (.ref dom), .val (.ref u1), .val (.int g1), .val (.int eA), .unset, .unset, .unset, .unset]) rfl ?_
  show Steps p.tables e below (T0.setTop (mkF m 293 #[.val (.int p1), .val (.int p2), .val (.int p3), .val (.int p4), .val (.int p5), .val (.int nA), .val (.int x0), .val (.int x1), .val (.int x2), .val (.int x3), .val (.int nB), .val (.int y0), .val (.int y1), .val (.int y2), .val (.int y3), .val (.ref ra), .val (.ref rb), .val (.int i1), .val (.int i2), .val (.int bo), .val (.int ag), .val (.ref dom), .val (.ref u1), .val (.int g1), .val (.int eA), .unset, .unset, .unset, .unset] [])) _
  refine XS.iload X0.here hx rfl (hb hby at_293) rfl ?_
  show Steps p.tables e below (T0.setTop (mkF m 295 #[.val (.int p1), .val (.int p2), .val (.int p3), .val (.int p4), .val (.int p5), .val (.int nA), .val (.int x0), .val (.int x1), .val (.int x2), .val (.int x3), .val (.int nB), .val (.int y0), .val (.int y1), .val (.int y2), .val (.int y3), .val (.ref ra), .val (.ref rb), .val (.int i1), .val (.int i2), .val (.int bo), .val (.int ag), .val (.ref dom), .val (.ref u1), .val (.int g1), .val (.int eA), .unset, .unset, .unset, .unset] [(.int nB)])) _
  refine XS.iload X0.here hx rfl (hb hby at_295) rfl ?_
  show Steps p.tables e below (T0.setTop (mkF m 297 #[.val (.int p1), .val (.int p2), .val (.int p3), .val (.int p4), .val (.int p5), .val (.int nA), .val (.int x0), .val (.int x1), .val (.int x2), .val (.int x3), .val (.int nB), .val (.int y0), .val (.int y1), .val (.int y2), .val (.int y3), .val (.ref ra), .val (.ref rb), .val (.int i1), .val (.int i2), .val (.int bo), .val (.int ag), .val (.ref dom), .val (.ref u1), .val (.int g1), .val (.int eA), .unset, .unset, .unset, .unset] [(.int y0), (.int nB)])) _
  refine XS.iload X0.here hx rfl (hb hby at_297) rfl ?_
  show Steps p.tables e below (T0.setTop (mkF m 299 #[.val (.int p1), .val (.int p2), .val (.int p3), .val (.int p4), .val (.int p5), .val (.int nA), .val (.int x0), .val (.int x1), .val (.int x2), .val (.int x3), .val (.int nB), .val (.int y0), .val (.int y1), .val (.int y2), .val (.int y3), .val (.ref ra), .val (.ref rb), .val (.int i1), .val (.int i2), .val (.int bo), .val (.int ag), .val (.ref dom), .val (.ref u1), .val (.int g1), .val (.int eA), .unset, .unset, .unset, .unset] [(.int y1), (.int y0), (.int nB)])) _
  refine XS.iload X0.here hx rfl (hb hby at_299) rfl ?_
  show Steps p.tables e below (T0.setTop (mkF m 301 #[.val (.int p1), .val (.int p2), .val (.int p3), .val (.int p4), .val (.int p5), .val (.int nA), .val (.int x0), .val (.int x1), .val (.int x2), .val (.int x3), .val (.int nB), .val (.int y0), .val (.int y1), .val (.int y2), .val (.int y3), .val (.ref ra), .val (.ref rb), .val (.int i1), .val (.int i2), .val (.int bo), .val (.int ag), .val (.ref dom), .val (.ref u1), .val (.int g1), .val (.int eA), .unset, .unset, .unset, .unset] [(.int y2), (.int y1), (.int y0), (.int nB)])) _
  refine XS.iload X0.here hx rfl (hb hby at_301) rfl ?_
  show Steps p.tables e below (T0.setTop (mkF m 303 #[.val (.int p1), .val (.int p2), .val (.int p3), .val (.int p4), .val (.int p5), .val (.int nA), .val (.int x0), .val (.int x1), .val (.int x2), .val (.int x3), .val (.int nB), .val (.int y0), .val (.int y1), .val (.int y2), .val (.int y3), .val (.ref ra), .val (.ref rb), .val (.int i1), .val (.int i2), .val (.int bo), .val (.int ag), .val (.ref dom), .val (.ref u1), .val (.int g1), .val (.int eA), .unset, .unset, .unset, .unset] [(.int y3), (.int y2), (.int y1), (.int y0), (.int nB)])) _
  exact kt
set_option maxRecDepth 65536 in
set_option maxHeartbeats 4000000 in
theorem cB2 {p : Program} {l : Launch} {e : Env} {s : State} {m : MethodId} {args : Array Value} {below : List Frame} {meth : Method} {c : Code} {T0 : State} {locs : List Loc} {cells slots : Nat} {Z : State} {a0 : Array Value} {h0 : Heap} {Ls : Array Slot} (x0 : Int32) (x1 : Int32) (x2 : Int32) (x3 : Int32) (x4 : Int32)
    (X0 : Stand p l e room_1 s m args below meth c T0 locs cells slots) (hx : p.tables.exec = Jvm.exec) (hZ : Z.Warmed39 s.vm) (hw : ∀ d ∈ tables_1, d.before a0 Z = true) (hby : c.code = code) (hml : c.maxLocals = 29) (hown : s.vm.findClass "com/example/caprice/caprice/solver/DomainsGatherReasonsPinLaw" = some m.cls) (e0 : T0.heap = h0) (hsz : Ls.size = 29) {rm : Room} {Q : Option Value → Heap → List Loc → Prop}
    (M : MetFree l (⟨"com/example/caprice/caprice/solver/DomainsGatherReasonsPinLaw", "bits", "(IIIII)I"⟩ : MethodName) (head1 [Jvm.Cond.code (⟨"com/example/caprice/caprice/solver/DomainsGatherReasonsPinLaw", "bits", "(IIIII)I"⟩ : MethodName) method_4_code 6 (some .int)] rm) (fun a U => a = #[(.int x0), (.int x1), (.int x2), (.int x3), (.int x4)] ∧ Z.Warmed39 U.vm ∧ U.heap = h0) (fun _ _ _ _ _ => True) (fun _ U o U' => ∃ v L, o = .returned v ∧ Q v U'.heap L ∧ FrameEnd U o U' L rm.cells rm.slots)) (hfr : rm.frames + 1 ≤ room_1.frames) (hlo : 0 + (6 + 11) + rm.locals ≤ room_1.locals) (hce : cells + rm.cells ≤ room_1.cells) (hsl : slots + rm.slots ≤ room_1.slots) :
    ∃ (T' : State) (v : Option Value) (L : List Loc), Stand p l e room_1 s m args below meth c T' (locs ++ L) (cells + rm.cells) (slots + rm.slots) ∧ Q v T'.heap L ∧ ∀ t, Steps p.tables e below (T'.setTop (mkF m 306 Ls (v.toList ++ []))) t → Steps p.tables e below (T0.setTop (mkF m 303 Ls [(.int x4), (.int x3), (.int x2), (.int x1), (.int x0)])) t := by
  obtain ⟨v, _, ⟨T1, L1, k1, n1⟩, -, X1, ⟨Lc, hQ, l1, y1, z1⟩, st⟩ := Jvm.LawKit.callS X0 hx (y := (⟨"com/example/caprice/caprice/solver/DomainsGatherReasonsPinLaw", "bits", "(IIIII)I"⟩ : MethodName)) hown (mvT hZ (hw _ (List.mem_of_getElem? (i := 62) rfl))) (mvT hZ (hw _ (List.mem_of_getElem? (i := 63) rfl))) (mvT hZ (hw _ (List.mem_of_getElem? (i := 2) rfl))) (mvT hZ (hw _ (List.mem_of_getElem? (i := 64) rfl))) (by decide) (backOf (W := 0) M hZ (hw _ (List.mem_of_getElem? (i := 64) rfl)) (hw _ (List.mem_of_getElem? (i := 2) rfl)) hfr hlo) (g := (mkF m 303 Ls [(.int x4), (.int x3), (.int x2), (.int x1), (.int x0)])) rfl (by rw [hml]; exact hsz) (argsL := [(.int x0), (.int x1), (.int x2), (.int x3), (.int x4)]) (rest := []) (lenOf pd493 rfl) rfl (by show 2 * 0 + _ ≤ _; exact Nat.le_of_eq rfl) (hb hby at_303) (fun _ _ => ⟨rfl, e0, hce, hsl⟩)
  dsimp only [Pt.U, Pt.locs, Pt.cells, Pt.slots] at X1 l1 y1 z1 st hQ
  subst l1 y1 z1
  exact ⟨T1, v, Lc, X1, hQ, fun t kt => st t kt⟩
set_option maxRecDepth 65536 in
set_option maxHeartbeats 40000000 in
theorem qQ0 {p : Program} {l : Launch} {e : Env} {s : State} {m : MethodId} {args : Array Value} {below : List Frame} {meth : Method} {c : Code} {T0 : State} {locs : List Loc} {Z : State} {a0 : Array Value} {h0 : Heap} {n0 : Nat} (p1 : Int32) (p2 : Int32) (p3 : Int32) (p4 : Int32) (p5 : Int32) (nA : Int32) (x0 : Int32) (x1 : Int32) (x2 : Int32) (x3 : Int32) (nB : Int32) (y0 : Int32) (y1 : Int32) (y2 : Int32) (y3 : Int32) (ra : Addr) (rb : Addr) (i1 : Int32) (i2 : Int32) (bo : Int32) (ag : Int32) (dom : Addr) (u1 : Addr) (g1 : Int32) (eA : Int32) (eB : Int32)
    (X0 : Stand p l e room_1 s m args below meth c T0 locs 15 68) (hx : p.tables.exec = Jvm.exec) (hZ : Z.Warmed39 s.vm) (hw : ∀ d ∈ tables_1, d.before a0 Z = true) (hby : c.code = code) (hml : c.maxLocals = 29) (hown : s.vm.findClass "com/example/caprice/caprice/solver/DomainsGatherReasonsPinLaw" = some m.cls) (e0 : T0.heap = h0) (N0 : Fr n0 locs) (O0 : Old Z n0 h0) (hd0 : bo = (0 : Int32)) :
    ∃ (T' : State) (locs' : List Loc), Stand p l e room_1 s m args below meth c T' locs' 15 68 ∧ Fr n0 locs' ∧ T'.heap = h0 ∧ ∀ t, Steps p.tables e below (T'.setTop (mkF m 324 #[.val (.int p1), .val (.int p2), .val (.int p3), .val (.int p4), .val (.int p5), .val (.int nA), .val (.int x0), .val (.int x1), .val (.int x2), .val (.int x3), .val (.int nB), .val (.int y0), .val (.int y1), .val (.int y2), .val (.int y3), .val (.ref ra), .val (.ref rb), .val (.int i1), .val (.int i2), .val (.int bo), .val (.int ag), .val (.ref dom), .val (.ref u1), .val (.int g1), .val (.int eA), .val (.int eB), .val (.int (eA ||| (0 : Int32))), .unset, .unset] [])) t → Steps p.tables e below (T0.setTop (mkF m 306 #[.val (.int p1), .val (.int p2), .val (.int p3), .val (.int p4), .val (.int p5), .val (.int nA), .val (.int x0), .val (.int x1), .val (.int x2), .val (.int x3), .val (.int nB), .val (.int y0), .val (.int y1), .val (.int y2), .val (.int y3), .val (.ref ra), .val (.ref rb), .val (.int i1), .val (.int i2), .val (.int bo), .val (.int ag), .val (.ref dom), .val (.ref u1), .val (.int g1), .val (.int eA), .unset, .unset, .unset, .unset] [(.int eB)])) t := by
  refine ⟨T0, _, X0, N0, e0, fun t kt => ?_⟩
  show Steps p.tables e below (T0.setTop (mkF m 306 #[.val (.int p1), .val (.int p2), .val (.int p3), .val (.int p4), .val (.int p5), .val (.int nA), .val (.int x0), .val (.int x1), .val (.int x2), .val (.int x3), .val (.int nB), .val (.int y0), .val (.int y1), .val (.int y2), .val (.int y3), .val (.ref ra), .val (.ref rb), .val (.int i1), .val (.int i2), .val (.int bo), .val (.int ag), .val (.ref dom), .val (.ref u1), .val (.int g1), .val (.int eA), .unset, .unset, .unset, .unset] [(.int eB)])) _
  refine XS.istore X0.here hx rfl (hb hby at_306) rfl (l' := #[.val (.int p1), .val (.int p2), .val (.int p3), .val (.int p4), .val (.int p5), .val (.int nA), .val (.int x0), .val (.int x1), .val (.int x2), .val (.int x3), .val (.int nB), .val (.int y0), .val (.int y1), .val (.int y2), .val (.int y3), .val (.ref ra), .val (.ref rb), .val (.int i1), .val (.int i2), .val (.int bo), .val (.int ag), .val (.ref dom), .val (.ref u1), .val (.int g1), .val (.int eA), .val (.int eB), .unset, .unset, .unset]) rfl ?_
  show Steps p.tables e below (T0.setTop (mkF m 308 #[.val (.int p1), .val (.int p2), .val (.int p3), .val (.int p4), .val (.int p5), .val (.int nA), .val (.int x0), .val (.int x1), .val (.int x2), .val (.int x3), .val (.int nB), .val (.int y0), .val (.int y1), .val (.int y2), .val (.int y3), .val (.ref ra), .val (.ref rb), .val (.int i1), .val (.int i2), .val (.int bo), .val (.int ag), .val (.ref dom), .val (.ref u1), .val (.int g1), .val (.int eA), .val (.int eB), .unset, .unset, .unset] [])) _
  refine XS.iload X0.here hx rfl (hb hby at_308) rfl ?_
  show Steps p.tables e below (T0.setTop (mkF m 310 #[.val (.int p1), .val (.int p2), .val (.int p3), .val (.int p4), .val (.int p5), .val (.int nA), .val (.int x0), .val (.int x1), .val (.int x2), .val (.int x3), .val (.int nB), .val (.int y0), .val (.int y1), .val (.int y2), .val (.int y3), .val (.ref ra), .val (.ref rb), .val (.int i1), .val (.int i2), .val (.int bo), .val (.int ag), .val (.ref dom), .val (.ref u1), .val (.int g1), .val (.int eA), .val (.int eB), .unset, .unset, .unset] [(.int eA)])) _
  refine XS.iload X0.here hx rfl (hb hby at_310) rfl ?_
  show Steps p.tables e below (T0.setTop (mkF m 312 #[.val (.int p1), .val (.int p2), .val (.int p3), .val (.int p4), .val (.int p5), .val (.int nA), .val (.int x0), .val (.int x1), .val (.int x2), .val (.int x3), .val (.int nB), .val (.int y0), .val (.int y1), .val (.int y2), .val (.int y3), .val (.ref ra), .val (.ref rb), .val (.int i1), .val (.int i2), .val (.int bo), .val (.int ag), .val (.ref dom), .val (.ref u1), .val (.int g1), .val (.int eA), .val (.int eB), .unset, .unset, .unset] [(.int bo), (.int eA)])) _
  refine XS.ifYes X0.here hx rfl (pc0 := 312) (pc' := 320) rfl (hb hby at_312) rfl ((if0 _ _).trans (teq hd0).1) (by decide) (by decide) ?_
  show Steps p.tables e below (T0.setTop (mkF m 320 #[.val (.int p1), .val (.int p2), .val (.int p3), .val (.int p4), .val (.int p5), .val (.int nA), .val (.int x0), .val (.int x1), .val (.int x2), .val (.int x3), .val (.int nB), .val (.int y0), .val (.int y1), .val (.int y2), .val (.int y3), .val (.ref ra), .val (.ref rb), .val (.int i1), .val (.int i2), .val (.int bo), .val (.int ag), .val (.ref dom), .val (.ref u1), .val (.int g1), .val (.int eA), .val (.int eB), .unset, .unset, .unset] [(.int eA)])) _
  refine XS.iconst X0.here hx rfl (hb hby at_320) ?_
  show Steps p.tables e below (T0.setTop (mkF m 321 #[.val (.int p1), .val (.int p2), .val (.int p3), .val (.int p4), .val (.int p5), .val (.int nA), .val (.int x0), .val (.int x1), .val (.int x2), .val (.int x3), .val (.int nB), .val (.int y0), .val (.int y1), .val (.int y2), .val (.int y3), .val (.ref ra), .val (.ref rb), .val (.int i1), .val (.int i2), .val (.int bo), .val (.int ag), .val (.ref dom), .val (.ref u1), .val (.int g1), .val (.int eA), .val (.int eB), .unset, .unset, .unset] [(.int (0 : Int32)), (.int eA)])) _
  refine XS.ior X0.here hx rfl (hb hby at_321) rfl ?_
  show Steps p.tables e below (T0.setTop (mkF m 322 #[.val (.int p1), .val (.int p2), .val (.int p3), .val (.int p4), .val (.int p5), .val (.int nA), .val (.int x0), .val (.int x1), .val (.int x2), .val (.int x3), .val (.int nB), .val (.int y0), .val (.int y1), .val (.int y2), .val (.int y3), .val (.ref ra), .val (.ref rb), .val (.int i1), .val (.int i2), .val (.int bo), .val (.int ag), .val (.ref dom), .val (.ref u1), .val (.int g1), .val (.int eA), .val (.int eB), .unset, .unset, .unset] [(.int (eA ||| (0 : Int32)))])) _
  refine XS.istore X0.here hx rfl (hb hby at_322) rfl (l' := #[.val (.int p1), .val (.int p2), .val (.int p3), .val (.int p4), .val (.int p5), .val (.int nA), .val (.int x0), .val (.int x1), .val (.int x2), .val (.int x3), .val (.int nB), .val (.int y0), .val (.int y1), .val (.int y2), .val (.int y3), .val (.ref ra), .val (.ref rb), .val (.int i1), .val (.int i2), .val (.int bo), .val (.int ag), .val (.ref dom), .val (.ref u1), .val (.int g1), .val (.int eA), .val (.int eB), .val (.int (eA ||| (0 : Int32))), .unset, .unset]) rfl ?_
  show Steps p.tables e below (T0.setTop (mkF m 324 #[.val (.int p1), .val (.int p2), .val (.int p3), .val (.int p4), .val (.int p5), .val (.int nA), .val (.int x0), .val (.int x1), .val (.int x2), .val (.int x3), .val (.int nB), .val (.int y0), .val (.int y1), .val (.int y2), .val (.int y3), .val (.ref ra), .val (.ref rb), .val (.int i1), .val (.int i2), .val (.int bo), .val (.int ag), .val (.ref dom), .val (.ref u1), .val (.int g1), .val (.int eA), .val (.int eB), .val (.int (eA ||| (0 : Int32))), .unset, .unset] [])) _
  exact kt
set_option maxRecDepth 65536 in
set_option maxHeartbeats 40000000 in
theorem qQ1 {p : Program} {l : Launch} {e : Env} {s : State} {m : MethodId} {args : Array Value} {below : List Frame} {meth : Method} {c : Code} {T0 : State} {locs : List Loc} {Z : State} {a0 : Array Value} {h0 : Heap} {n0 : Nat} (p1 : Int32) (p2 : Int32) (p3 : Int32) (p4 : Int32) (p5 : Int32) (nA : Int32) (x0 : Int32) (x1 : Int32) (x2 : Int32) (x3 : Int32) (nB : Int32) (y0 : Int32) (y1 : Int32) (y2 : Int32) (y3 : Int32) (ra : Addr) (rb : Addr) (i1 : Int32) (i2 : Int32) (bo : Int32) (ag : Int32) (dom : Addr) (u1 : Addr) (g1 : Int32) (eA : Int32) (eB : Int32)
    (X0 : Stand p l e room_1 s m args below meth c T0 locs 15 68) (hx : p.tables.exec = Jvm.exec) (hZ : Z.Warmed39 s.vm) (hw : ∀ d ∈ tables_1, d.before a0 Z = true) (hby : c.code = code) (hml : c.maxLocals = 29) (hown : s.vm.findClass "com/example/caprice/caprice/solver/DomainsGatherReasonsPinLaw" = some m.cls) (e0 : T0.heap = h0) (N0 : Fr n0 locs) (O0 : Old Z n0 h0) (hd0 : ¬ (bo = (0 : Int32))) :
    ∃ (T' : State) (locs' : List Loc), Stand p l e room_1 s m args below meth c T' locs' 15 68 ∧ Fr n0 locs' ∧ T'.heap = h0 ∧ ∀ t, Steps p.tables e below (T'.setTop (mkF m 324 #[.val (.int p1), .val (.int p2), .val (.int p3), .val (.int p4), .val (.int p5), .val (.int nA), .val (.int x0), .val (.int x1), .val (.int x2), .val (.int x3), .val (.int nB), .val (.int y0), .val (.int y1), .val (.int y2), .val (.int y3), .val (.ref ra), .val (.ref rb), .val (.int i1), .val (.int i2), .val (.int bo), .val (.int ag), .val (.ref dom), .val (.ref u1), .val (.int g1), .val (.int eA), .val (.int eB), .val (.int (eA ||| eB)), .unset, .unset] [])) t → Steps p.tables e below (T0.setTop (mkF m 306 #[.val (.int p1), .val (.int p2), .val (.int p3), .val (.int p4), .val (.int p5), .val (.int nA), .val (.int x0), .val (.int x1), .val (.int x2), .val (.int x3), .val (.int nB), .val (.int y0), .val (.int y1), .val (.int y2), .val (.int y3), .val (.ref ra), .val (.ref rb), .val (.int i1), .val (.int i2), .val (.int bo), .val (.int ag), .val (.ref dom), .val (.ref u1), .val (.int g1), .val (.int eA), .unset, .unset, .unset, .unset] [(.int eB)])) t := by
  refine ⟨T0, _, X0, N0, e0, fun t kt => ?_⟩
  show Steps p.tables e below (T0.setTop (mkF m 306 #[.val (.int p1), .val (.int p2), .val (.int p3), .val (.int p4), .val (.int p5), .val (.int nA), .val (.int x0), .val (.int x1), .val (.int x2), .val (.int x3), .val (.int nB), .val (.int y0), .val (.int y1), .val (.int y2), .val (.int y3), .val (.ref ra), .val (.ref rb), .val (.int i1), .val (.int i2), .val (.int bo), .val (.int ag), .val (.ref dom), .val (.ref u1), .val (.int g1), .val (.int eA), .unset, .unset, .unset, .unset] [(.int eB)])) _
  refine XS.istore X0.here hx rfl (hb hby at_306) rfl (l' := #[.val (.int p1), .val (.int p2), .val (.int p3), .val (.int p4), .val (.int p5), .val (.int nA), .val (.int x0), .val (.int x1), .val (.int x2), .val (.int x3), .val (.int nB), .val (.int y0), .val (.int y1), .val (.int y2), .val (.int y3), .val (.ref ra), .val (.ref rb), .val (.int i1), .val (.int i2), .val (.int bo), .val (.int ag), .val (.ref dom), .val (.ref u1), .val (.int g1), .val (.int eA), .val (.int eB), .unset, .unset, .unset]) rfl ?_
  show Steps p.tables e below (T0.setTop (mkF m 308 #[.val (.int p1), .val (.int p2), .val (.int p3), .val (.int p4), .val (.int p5), .val (.int nA), .val (.int x0), .val (.int x1), .val (.int x2), .val (.int x3), .val (.int nB), .val (.int y0), .val (.int y1), .val (.int y2), .val (.int y3), .val (.ref ra), .val (.ref rb), .val (.int i1), .val (.int i2), .val (.int bo), .val (.int ag), .val (.ref dom), .val (.ref u1), .val (.int g1), .val (.int eA), .val (.int eB), .unset, .unset, .unset] [])) _
  refine XS.iload X0.here hx rfl (hb hby at_308) rfl ?_
  show Steps p.tables e below (T0.setTop (mkF m 310 #[.val (.int p1), .val (.int p2), .val (.int p3), .val (.int p4), .val (.int p5), .val (.int nA), .val (.int x0), .val (.int x1), .val (.int x2), .val (.int x3), .val (.int nB), .val (.int y0), .val (.int y1), .val (.int y2), .val (.int y3), .val (.ref ra), .val (.ref rb), .val (.int i1), .val (.int i2), .val (.int bo), .val (.int ag), .val (.ref dom), .val (.ref u1), .val (.int g1), .val (.int eA), .val (.int eB), .unset, .unset, .unset] [(.int eA)])) _
  refine XS.iload X0.here hx rfl (hb hby at_310) rfl ?_
  show Steps p.tables e below (T0.setTop (mkF m 312 #[.val (.int p1), .val (.int p2), .val (.int p3), .val (.int p4), .val (.int p5), .val (.int nA), .val (.int x0), .val (.int x1), .val (.int x2), .val (.int x3), .val (.int nB), .val (.int y0), .val (.int y1), .val (.int y2), .val (.int y3), .val (.ref ra), .val (.ref rb), .val (.int i1), .val (.int i2), .val (.int bo), .val (.int ag), .val (.ref dom), .val (.ref u1), .val (.int g1), .val (.int eA), .val (.int eB), .unset, .unset, .unset] [(.int bo), (.int eA)])) _
  refine XS.ifNo X0.here hx rfl (hb hby at_312) rfl ((if0 _ _).trans (feq hd0).1) ?_
  show Steps p.tables e below (T0.setTop (mkF m 315 #[.val (.int p1), .val (.int p2), .val (.int p3), .val (.int p4), .val (.int p5), .val (.int nA), .val (.int x0), .val (.int x1), .val (.int x2), .val (.int x3), .val (.int nB), .val (.int y0), .val (.int y1), .val (.int y2), .val (.int y3), .val (.ref ra), .val (.ref rb), .val (.int i1), .val (.int i2), .val (.int bo), .val (.int ag), .val (.ref dom), .val (.ref u1), .val (.int g1), .val (.int eA), .val (.int eB), .unset, .unset, .unset] [(.int eA)])) _
  refine XS.iload X0.here hx rfl (hb hby at_315) rfl ?_
  show Steps p.tables e below (T0.setTop (mkF m 317 #[.val (.int p1), .val (.int p2), .val (.int p3), .val (.int p4), .val (.int p5), .val (.int nA), .val (.int x0), .val (.int x1), .val (.int x2), .val (.int x3), .val (.int nB), .val (.int y0), .val (.int y1), .val (.int y2), .val (.int y3), .val (.ref ra), .val (.ref rb), .val (.int i1), .val (.int i2), .val (.int bo), .val (.int ag), .val (.ref dom), .val (.ref u1), .val (.int g1), .val (.int eA), .val (.int eB), .unset, .unset, .unset] [(.int eB), (.int eA)])) _
  refine XS.goto X0.here hx rfl (pc0 := 317) (pc' := 321) rfl (hb hby at_317) (by decide) (by decide) ?_
  show Steps p.tables e below (T0.setTop (mkF m 321 #[.val (.int p1), .val (.int p2), .val (.int p3), .val (.int p4), .val (.int p5), .val (.int nA), .val (.int x0), .val (.int x1), .val (.int x2), .val (.int x3), .val (.int nB), .val (.int y0), .val (.int y1), .val (.int y2), .val (.int y3), .val (.ref ra), .val (.ref rb), .val (.int i1), .val (.int i2), .val (.int bo), .val (.int ag), .val (.ref dom), .val (.ref u1), .val (.int g1), .val (.int eA), .val (.int eB), .unset, .unset, .unset] [(.int eB), (.int eA)])) _
  refine XS.ior X0.here hx rfl (hb hby at_321) rfl ?_
  show Steps p.tables e below (T0.setTop (mkF m 322 #[.val (.int p1), .val (.int p2), .val (.int p3), .val (.int p4), .val (.int p5), .val (.int nA), .val (.int x0), .val (.int x1), .val (.int x2), .val (.int x3), .val (.int nB), .val (.int y0), .val (.int y1), .val (.int y2), .val (.int y3), .val (.ref ra), .val (.ref rb), .val (.int i1), .val (.int i2), .val (.int bo), .val (.int ag), .val (.ref dom), .val (.ref u1), .val (.int g1), .val (.int eA), .val (.int eB), .unset, .unset, .unset] [(.int (eA ||| eB))])) _
  refine XS.istore X0.here hx rfl (hb hby at_322) rfl (l' := #[.val (.int p1), .val (.int p2), .val (.int p3), .val (.int p4), .val (.int p5), .val (.int nA), .val (.int x0), .val (.int x1), .val (.int x2), .val (.int x3), .val (.int nB), .val (.int y0), .val (.int y1), .val (.int y2), .val (.int y3), .val (.ref ra), .val (.ref rb), .val (.int i1), .val (.int i2), .val (.int bo), .val (.int ag), .val (.ref dom), .val (.ref u1), .val (.int g1), .val (.int eA), .val (.int eB), .val (.int (eA ||| eB)), .unset, .unset]) rfl ?_
  show Steps p.tables e below (T0.setTop (mkF m 324 #[.val (.int p1), .val (.int p2), .val (.int p3), .val (.int p4), .val (.int p5), .val (.int nA), .val (.int x0), .val (.int x1), .val (.int x2), .val (.int x3), .val (.int nB), .val (.int y0), .val (.int y1), .val (.int y2), .val (.int y3), .val (.ref ra), .val (.ref rb), .val (.int i1), .val (.int i2), .val (.int bo), .val (.int ag), .val (.ref dom), .val (.ref u1), .val (.int g1), .val (.int eA), .val (.int eB), .val (.int (eA ||| eB)), .unset, .unset] [])) _
  exact kt
set_option maxRecDepth 65536 in
set_option maxHeartbeats 40000000 in
theorem qR {p : Program} {l : Launch} {e : Env} {s : State} {m : MethodId} {args : Array Value} {below : List Frame} {meth : Method} {c : Code} {T0 : State} {locs : List Loc} {Z : State} {a0 : Array Value} {h0 : Heap} {n0 : Nat} (p1 : Int32) (p2 : Int32) (p3 : Int32) (p4 : Int32) (p5 : Int32) (nA : Int32) (x0 : Int32) (x1 : Int32) (x2 : Int32) (x3 : Int32) (nB : Int32) (y0 : Int32) (y1 : Int32) (y2 : Int32) (y3 : Int32) (ra : Addr) (rb : Addr) (i1 : Int32) (i2 : Int32) (bo : Int32) (ag : Int32) (dom : Addr) (u1 : Addr) (g1 : Int32) (eA : Int32) (eB : Int32) (eF : Int32)
    (X0 : Stand p l e room_1 s m args below meth c T0 locs 15 68) (hx : p.tables.exec = Jvm.exec) (hZ : Z.Warmed39 s.vm) (hw : ∀ d ∈ tables_1, d.before a0 Z = true) (hby : c.code = code) (hml : c.maxLocals = 29) (hown : s.vm.findClass "com/example/caprice/caprice/solver/DomainsGatherReasonsPinLaw" = some m.cls) (e0 : T0.heap = h0) (N0 : Fr n0 locs) (O0 : Old Z n0 h0) :
    ∃ (T' : State) (locs' : List Loc), Stand p l e room_1 s m args below meth c T' locs' 15 68 ∧ Fr n0 locs' ∧ T'.heap = h0 ∧ ∀ t, Steps p.tables e below (T'.setTop (mkF m 334 #[.val (.int p1), .val (.int p2), .val (.int p3), .val (.int p4), .val (.int p5), .val (.int nA), .val (.int x0), .val (.int x1), .val (.int x2), .val (.int x3), .val (.int nB), .val (.int y0), .val (.int y1), .val (.int y2), .val (.int y3), .val (.ref ra), .val (.ref rb), .val (.int i1), .val (.int i2), .val (.int bo), .val (.int ag), .val (.ref dom), .val (.ref u1), .val (.int g1), .val (.int eA), .val (.int eB), .val (.int eF), .unset, .unset] [(.int (i2 &&& (1 : Int32))), (.int (i2 >>> ((1 : Int32) &&& 31))), (.ref dom)])) t → Steps p.tables e below (T0.setTop (mkF m 324 #[.val (.int p1), .val (.int p2), .val (.int p3), .val (.int p4), .val (.int p5), .val (.int nA), .val (.int x0), .val (.int x1), .val (.int x2), .val (.int x3), .val (.int nB), .val (.int y0), .val (.int y1), .val (.int y2), .val (.int y3), .val (.ref ra), .val (.ref rb), .val (.int i1), .val (.int i2), .val (.int bo), .val (.int ag), .val (.ref dom), .val (.ref u1), .val (.int g1), .val (.int eA), .val (.int eB), .val (.int eF), .unset, .unset] [])) t := by
  refine ⟨T0, _, X0, N0, e0, fun t kt => ?_⟩
  show Steps p.tables e below (T0.setTop (mkF m 324 #[.val (.int p1), .val (.int p2), .val (.int p3), .val (.int p4), .val (.int p5), .val (.int nA), .val (.int x0), .val (.int x1), .val (.int x2), .val (.int x3), .val (.int nB), .val (.int y0), .val (.int y1), .val (.int y2), .val (.int y3), .val (.ref ra), .val (.ref rb), .val (.int i1), .val (.int i2), .val (.int bo), .val (.int ag), .val (.ref dom), .val (.ref u1), .val (.int g1), .val (.int eA), .val (.int eB), .val (.int eF), .unset, .unset] [])) _
  refine XS.aload X0.here hx rfl (hb hby at_324) rfl rfl ?_
  show Steps p.tables e below (T0.setTop (mkF m 326 #[.val (.int p1), .val (.int p2), .val (.int p3), .val (.int p4), .val (.int p5), .val (.int nA), .val (.int x0), .val (.int x1), .val (.int x2), .val (.int x3), .val (.int nB), .val (.int y0), .val (.int y1), .val (.int y2), .val (.int y3), .val (.ref ra), .val (.ref rb), .val (.int i1), .val (.int i2), .val (.int bo), .val (.int ag), .val (.ref dom), .val (.ref u1), .val (.int g1), .val (.int eA), .val (.int eB), .val (.int eF), .unset, .unset] [(.ref dom)])) _
  refine XS.iload X0.here hx rfl (hb hby at_326) rfl ?_
  show Steps p.tables e below (T0.setTop (mkF m 328 #[.val (.int p1), .val (.int p2), .val (.int p3), .val (.int p4), .val (.int p5), .val (.int nA), .val (.int x0), .val (.int x1), .val (.int x2), .val (.int x3), .val (.int nB), .val (.int y0), .val (.int y1), .val (.int y2), .val (.int y3), .val (.ref ra), .val (.ref rb), .val (.int i1), .val (.int i2), .val (.int bo), .val (.int ag), .val (.ref dom), .val (.ref u1), .val (.int g1), .val (.int eA), .val (.int eB), .val (.int eF), .unset, .unset] [(.int i2), (.ref dom)])) _
  refine XS.iconst X0.here hx rfl (hb hby at_328) ?_
  show Steps p.tables e below (T0.setTop (mkF m 329 #[.val (.int p1), .val (.int p2), .val (.int p3), .val (.int p4), .val (.int p5), .val (.int nA), .val (.int x0), .val (.int x1), .val (.int x2), .val (.int x3), .val (.int nB), .val (.int y0), .val (.int y1), .val (.int y2), .val (.int y3), .val (.ref ra), .val (.ref rb), .val (.int i1), .val (.int i2), .val (.int bo), .val (.int ag), .val (.ref dom), .val (.ref u1), .val (.int g1), .val (.int eA), .val (.int eB), .val (.int eF), .unset, .unset] [(.int (1 : Int32)), (.int i2), (.ref dom)])) _
  refine XS.ishr X0.here hx rfl (hb hby at_329) rfl ?_
  show Steps p.tables e below (T0.setTop (mkF m 330 #[.val (.int p1), .val (.int p2), .val (.int p3), .val (.int p4), .val (.int p5), .val (.int nA), .val (.int x0), .val (.int x1), .val (.int x2), .val (.int x3), .val (.int nB), .val (.int y0), .val (.int y1), .val (.int y2), .val (.int y3), .val (.ref ra), .val (.ref rb), .val (.int i1), .val (.int i2), .val (.int bo), .val (.int ag), .val (.ref dom), .val (.ref u1), .val (.int g1), .val (.int eA), .val (.int eB), .val (.int eF), .unset, .unset] [(.int (i2 >>> ((1 : Int32) &&& 31))), (.ref dom)])) _
  refine XS.iload X0.here hx rfl (hb hby at_330) rfl ?_
  show Steps p.tables e below (T0.setTop (mkF m 332 #[.val (.int p1), .val (.int p2), .val (.int p3), .val (.int p4), .val (.int p5), .val (.int nA), .val (.int x0), .val (.int x1), .val (.int x2), .val (.int x3), .val (.int nB), .val (.int y0), .val (.int y1), .val (.int y2), .val (.int y3), .val (.ref ra), .val (.ref rb), .val (.int i1), .val (.int i2), .val (.int bo), .val (.int ag), .val (.ref dom), .val (.ref u1), .val (.int g1), .val (.int eA), .val (.int eB), .val (.int eF), .unset, .unset] [(.int i2), (.int (i2 >>> ((1 : Int32) &&& 31))), (.ref dom)])) _
  refine XS.iconst X0.here hx rfl (hb hby at_332) ?_
  show Steps p.tables e below (T0.setTop (mkF m 333 #[.val (.int p1), .val (.int p2), .val (.int p3), .val (.int p4), .val (.int p5), .val (.int nA), .val (.int x0), .val (.int x1), .val (.int x2), .val (.int x3), .val (.int nB), .val (.int y0), .val (.int y1), .val (.int y2), .val (.int y3), .val (.ref ra), .val (.ref rb), .val (.int i1), .val (.int i2), .val (.int bo), .val (.int ag), .val (.ref dom), .val (.ref u1), .val (.int g1), .val (.int eA), .val (.int eB), .val (.int eF), .unset, .unset] [(.int (1 : Int32)), (.int i2), (.int (i2 >>> ((1 : Int32) &&& 31))), (.ref dom)])) _
  refine XS.iand X0.here hx rfl (hb hby at_333) rfl ?_
  show Steps p.tables e below (T0.setTop (mkF m 334 #[.val (.int p1), .val (.int p2), .val (.int p3), .val (.int p4), .val (.int p5), .val (.int nA), .val (.int x0), .val (.int x1), .val (.int x2), .val (.int x3), .val (.int nB), .val (.int y0), .val (.int y1), .val (.int y2), .val (.int y3), .val (.ref ra), .val (.ref rb), .val (.int i1), .val (.int i2), .val (.int bo), .val (.int ag), .val (.ref dom), .val (.ref u1), .val (.int g1), .val (.int eA), .val (.int eB), .val (.int eF), .unset, .unset] [(.int (i2 &&& (1 : Int32))), (.int (i2 >>> ((1 : Int32) &&& 31))), (.ref dom)])) _
  exact kt
set_option maxRecDepth 65536 in
set_option maxHeartbeats 4000000 in
theorem cG4 {p : Program} {l : Launch} {e : Env} {s : State} {m : MethodId} {args : Array Value} {below : List Frame} {meth : Method} {c : Code} {T0 : State} {locs : List Loc} {cells slots : Nat} {Z : State} {a0 : Array Value} {h0 : Heap} {Ls : Array Slot} (ob : Addr) (x0 : Int32) (x1 : Int32)
    (X0 : Stand p l e room_1 s m args below meth c T0 locs cells slots) (hx : p.tables.exec = Jvm.exec) (hZ : Z.Warmed39 s.vm) (hw : ∀ d ∈ tables_1, d.before a0 Z = true) (hby : c.code = code) (hml : c.maxLocals = 29) (hown : s.vm.findClass "com/example/caprice/caprice/solver/DomainsGatherReasonsPinLaw" = some m.cls) (e0 : T0.heap = h0) (hsz : Ls.size = 29) (ER : Exa Z h0 ob "com/example/caprice/caprice/solver/Domains") {rm : Room} {Q : Option Value → Heap → List Loc → Prop}
    (M : MetFree l (⟨"com/example/caprice/caprice/solver/Domains", "gatherReasons", "(II)V"⟩ : MethodName) (head1 [Jvm.Cond.code (⟨"com/example/caprice/caprice/solver/Domains", "gatherReasons", "(II)V"⟩ : MethodName) prog_59_method_13_code 7 none] rm) (fun a U => a = #[(.ref ob), (.int x0), (.int x1)] ∧ Z.Warmed39 U.vm ∧ U.heap = h0) (fun _ _ _ _ _ => True) (fun _ U o U' => ∃ v L, o = .returned v ∧ Q v U'.heap L ∧ FrameEnd U o U' L rm.cells rm.slots)) (hfr : rm.frames + 1 ≤ room_1.frames) (hlo : 0 + (7 + 11) + rm.locals ≤ room_1.locals) (hce : cells + rm.cells ≤ room_1.cells) (hsl : slots + rm.slots ≤ room_1.slots) :
    ∃ (T' : State) (v : Option Value) (L : List Loc), Stand p l e room_1 s m args below meth c T' (locs ++ L) (cells + rm.cells) (slots + rm.slots) ∧ Q v T'.heap L ∧ ∀ t, Steps p.tables e below (T'.setTop (mkF m 337 Ls (v.toList ++ []))) t → Steps p.tables e below (T0.setTop (mkF m 334 Ls [(.int x1), (.int x0), (.ref ob)])) t := by
  obtain ⟨cq, kq, qa, qb, qc⟩ := isOf hZ e0 ER
  obtain ⟨v, _, ⟨T1, L1, k1, n1⟩, -, X1, ⟨Lc, hQ, l1, y1, z1⟩, st⟩ := X0.virtualBack hx (y := (⟨"com/example/caprice/caprice/solver/Domains", "gatherReasons", "(II)V"⟩ : MethodName)) (z := (⟨"com/example/caprice/caprice/solver/Domains", "gatherReasons", "(II)V"⟩ : MethodName)) hown (mvT hZ (hw _ (List.mem_of_getElem? (i := 45) rfl))) (mvT hZ (hw _ (List.mem_of_getElem? (i := 46) rfl))) (notFace_of_selects (args := #[]) (mvT hZ (hw _ (List.mem_of_getElem? (i := 48) rfl)))) (mvT hZ (hw _ (List.mem_of_getElem? (i := 48) rfl))) (mvT hZ (hw _ (List.mem_of_getElem? (i := 47) rfl))) (by decide) (backOf (W := 0) M hZ (hw _ (List.mem_of_getElem? (i := 49) rfl)) (hw _ (List.mem_of_getElem? (i := 7) rfl)) hfr hlo) qa qc (g := (mkF m 334 Ls [(.int x1), (.int x0), (.ref ob)])) rfl (by rw [hml]; exact hsz) (Steps.refl _) (argsL := [(.int x0), (.int x1)]) (rest := []) (lenOf pd483 rfl) rfl (by show 2 * 0 + _ ≤ _; exact Nat.le_of_eq rfl) (hb hby at_334) (fun _ _ => ⟨rfl, e0, hce, hsl⟩)
  dsimp only [Pt.U, Pt.locs, Pt.cells, Pt.slots] at X1 l1 y1 z1 st hQ
  subst l1 y1 z1
  exact ⟨T1, v, Lc, X1, hQ, fun t kt => st.trans kt⟩
set_option maxRecDepth 65536 in
set_option maxHeartbeats 40000000 in
theorem qS {p : Program} {l : Launch} {e : Env} {s : State} {m : MethodId} {args : Array Value} {below : List Frame} {meth : Method} {c : Code} {T0 : State} {locs : List Loc} {Z : State} {a0 : Array Value} {h0 : Heap} {n0 : Nat} (p1 : Int32) (p2 : Int32) (p3 : Int32) (p4 : Int32) (p5 : Int32) (nA : Int32) (x0 : Int32) (x1 : Int32) (x2 : Int32) (x3 : Int32) (nB : Int32) (y0 : Int32) (y1 : Int32) (y2 : Int32) (y3 : Int32) (ra : Addr) (rb : Addr) (i1 : Int32) (i2 : Int32) (bo : Int32) (ag : Int32) (dom : Addr) (u1 : Addr) (g1 : Int32) (eA : Int32) (eB : Int32) (eF : Int32)
    (X0 : Stand p l e room_1 s m args below meth c T0 locs 15 68) (hx : p.tables.exec = Jvm.exec) (hZ : Z.Warmed39 s.vm) (hw : ∀ d ∈ tables_1, d.before a0 Z = true) (hby : c.code = code) (hml : c.maxLocals = 29) (hown : s.vm.findClass "com/example/caprice/caprice/solver/DomainsGatherReasonsPinLaw" = some m.cls) (e0 : T0.heap = h0) (N0 : Fr n0 locs) (O0 : Old Z n0 h0) :
    ∃ (T' : State) (locs' : List Loc), Stand p l e room_1 s m args below meth c T' locs' 15 68 ∧ Fr n0 locs' ∧ T'.heap = h0 ∧ ∀ t, Steps p.tables e below (T'.setTop (mkF m 339 #[.val (.int p1), .val (.int p2), .val (.int p3), .val (.int p4), .val (.int p5), .val (.int nA), .val (.int x0), .val (.int x1), .val (.int x2), .val (.int x3), .val (.int nB), .val (.int y0), .val (.int y1), .val (.int y2), .val (.int y3), .val (.ref ra), .val (.ref rb), .val (.int i1), .val (.int i2), .val (.int bo), .val (.int ag), .val (.ref dom), .val (.ref u1), .val (.int g1), .val (.int eA), .val (.int eB), .val (.int eF), .unset, .unset] [(.ref dom)])) t → Steps p.tables e below (T0.setTop (mkF m 337 #[.val (.int p1), .val (.int p2), .val (.int p3), .val (.int p4), .val (.int p5), .val (.int nA), .val (.int x0), .val (.int x1), .val (.int x2), .val (.int x3), .val (.int nB), .val (.int y0), .val (.int y1), .val (.int y2), .val (.int y3), .val (.ref ra), .val (.ref rb), .val (.int i1), .val (.int i2), .val (.int bo), .val (.int ag), .val (.ref dom), .val (.ref u1), .val (.int g1), .val (.int eA), .val (.int eB), .val (.int eF), .unset, .unset] [])) t := by
  refine ⟨T0, _, X0, N0, e0, fun t kt => ?_⟩
  show Steps p.tables e below (T0.setTop (mkF m 337 #[.val (.int p1), .val (.int p2), .val (.int p3), .val (.int p4), .val (.int p5), .val (.int nA), .val (.int x0), .val (.int x1), .val (.int x2), .val (.int x3), .val (.int nB), .val (.int y0), .val (.int y1), .val (.int y2), .val (.int y3), .val (.ref ra), .val (.ref rb), .val (.int i1), .val (.int i2), .val (.int bo), .val (.int ag), .val (.ref dom), .val (.ref u1), .val (.int g1), .val (.int eA), .val (.int eB), .val (.int eF), .unset, .unset] [])) _
  refine XS.aload X0.here hx rfl (hb hby at_337) rfl rfl ?_
  show Steps p.tables e below (T0.setTop (mkF m 339 #[.val (.int p1), .val (.int p2), .val (.int p3), .val (.int p4), .val (.int p5), .val (.int nA), .val (.int x0), .val (.int x1), .val (.int x2), .val (.int x3), .val (.int nB), .val (.int y0), .val (.int y1), .val (.int y2), .val (.int y3), .val (.ref ra), .val (.ref rb), .val (.int i1), .val (.int i2), .val (.int bo), .val (.int ag), .val (.ref dom), .val (.ref u1), .val (.int g1), .val (.int eA), .val (.int eB), .val (.int eF), .unset, .unset] [(.ref dom)])) _
  exact kt
set_option maxRecDepth 65536 in
set_option maxHeartbeats 4000000 in
theorem cT2 {p : Program} {l : Launch} {e : Env} {s : State} {m : MethodId} {args : Array Value} {below : List Frame} {meth : Method} {c : Code} {T0 : State} {locs : List Loc} {cells slots : Nat} {Z : State} {a0 : Array Value} {h0 : Heap} {Ls : Array Slot} (ob : Addr)
    (X0 : Stand p l e room_1 s m args below meth c T0 locs cells slots) (hx : p.tables.exec = Jvm.exec) (hZ : Z.Warmed39 s.vm) (hw : ∀ d ∈ tables_1, d.before a0 Z = true) (hby : c.code = code) (hml : c.maxLocals = 29) (hown : s.vm.findClass "com/example/caprice/caprice/solver/DomainsGatherReasonsPinLaw" = some m.cls) (e0 : T0.heap = h0) (hsz : Ls.size = 29) (ER : Exa Z h0 ob "com/example/caprice/caprice/solver/Domains") {rm : Room} {Q : Option Value → Heap → List Loc → Prop}
    (M : MetFree l (⟨"com/example/caprice/caprice/solver/Domains", "takeGathered", "()[I"⟩ : MethodName) (head1 [Jvm.Cond.code (⟨"com/example/caprice/caprice/solver/Domains", "takeGathered", "()[I"⟩ : MethodName) prog_59_method_14_code 6 (some (.array .int))] rm) (fun a U => a = #[(.ref ob)] ∧ Z.Warmed39 U.vm ∧ U.heap = h0) (fun _ _ _ _ _ => True) (fun _ U o U' => ∃ v L, o = .returned v ∧ Q v U'.heap L ∧ FrameEnd U o U' L rm.cells rm.slots)) (hfr : rm.frames + 1 ≤ room_1.frames) (hlo : 0 + (6 + 11) + rm.locals ≤ room_1.locals) (hce : cells + rm.cells ≤ room_1.cells) (hsl : slots + rm.slots ≤ room_1.slots) :
    ∃ (T' : State) (v : Option Value) (L : List Loc), Stand p l e room_1 s m args below meth c T' (locs ++ L) (cells + rm.cells) (slots + rm.slots) ∧ Q v T'.heap L ∧ ∀ t, Steps p.tables e below (T'.setTop (mkF m 342 Ls (v.toList ++ []))) t → Steps p.tables e below (T0.setTop (mkF m 339 Ls [(.ref ob)])) t := by
  obtain ⟨cq, kq, qa, qb, qc⟩ := isOf hZ e0 ER
  obtain ⟨v, _, ⟨T1, L1, k1, n1⟩, -, X1, ⟨Lc, hQ, l1, y1, z1⟩, st⟩ := X0.virtualBack hx (y := (⟨"com/example/caprice/caprice/solver/Domains", "takeGathered", "()[I"⟩ : MethodName)) (z := (⟨"com/example/caprice/caprice/solver/Domains", "takeGathered", "()[I"⟩ : MethodName)) hown (mvT hZ (hw _ (List.mem_of_getElem? (i := 50) rfl))) (mvT hZ (hw _ (List.mem_of_getElem? (i := 51) rfl))) (notFace_of_selects (args := #[]) (mvT hZ (hw _ (List.mem_of_getElem? (i := 53) rfl)))) (mvT hZ (hw _ (List.mem_of_getElem? (i := 53) rfl))) (mvT hZ (hw _ (List.mem_of_getElem? (i := 52) rfl))) (by decide) (backOf (W := 0) M hZ (hw _ (List.mem_of_getElem? (i := 54) rfl)) (hw _ (List.mem_of_getElem? (i := 7) rfl)) hfr hlo) qa qc (g := (mkF m 339 Ls [(.ref ob)])) rfl (by rw [hml]; exact hsz) (Steps.refl _) (argsL := []) (rest := []) (lenOf pd489 rfl) rfl (by show 2 * 0 + _ ≤ _; exact Nat.le_of_eq rfl) (hb hby at_339) (fun _ _ => ⟨rfl, e0, hce, hsl⟩)
  dsimp only [Pt.U, Pt.locs, Pt.cells, Pt.slots] at X1 l1 y1 z1 st hQ
  subst l1 y1 z1
  exact ⟨T1, v, Lc, X1, hQ, fun t kt => st.trans kt⟩
set_option maxRecDepth 65536 in
set_option maxHeartbeats 40000000 in
theorem qT {p : Program} {l : Launch} {e : Env} {s : State} {m : MethodId} {args : Array Value} {below : List Frame} {meth : Method} {c : Code} {T0 : State} {locs : List Loc} {Z : State} {a0 : Array Value} {h0 : Heap} {n0 : Nat} (p1 : Int32) (p2 : Int32) (p3 : Int32) (p4 : Int32) (p5 : Int32) (nA : Int32) (x0 : Int32) (x1 : Int32) (x2 : Int32) (x3 : Int32) (nB : Int32) (y0 : Int32) (y1 : Int32) (y2 : Int32) (y3 : Int32) (ra : Addr) (rb : Addr) (i1 : Int32) (i2 : Int32) (bo : Int32) (ag : Int32) (dom : Addr) (u1 : Addr) (g1 : Int32) (eA : Int32) (eB : Int32) (eF : Int32) (u2 : Addr)
    (X0 : Stand p l e room_1 s m args below meth c T0 locs 16 72) (hx : p.tables.exec = Jvm.exec) (hZ : Z.Warmed39 s.vm) (hw : ∀ d ∈ tables_1, d.before a0 Z = true) (hby : c.code = code) (hml : c.maxLocals = 29) (hown : s.vm.findClass "com/example/caprice/caprice/solver/DomainsGatherReasonsPinLaw" = some m.cls) (e0 : T0.heap = h0) (N0 : Fr n0 locs) (O0 : Old Z n0 h0) :
    ∃ (T' : State) (locs' : List Loc), Stand p l e room_1 s m args below meth c T' locs' 16 72 ∧ Fr n0 locs' ∧ T'.heap = h0 ∧ ∀ t, Steps p.tables e below (T'.setTop (mkF m 346 #[.val (.int p1), .val (.int p2), .val (.int p3), .val (.int p4), .val (.int p5), .val (.int nA), .val (.int x0), .val (.int x1), .val (.int x2), .val (.int x3), .val (.int nB), .val (.int y0), .val (.int y1), .val (.int y2), .val (.int y3), .val (.ref ra), .val (.ref rb), .val (.int i1), .val (.int i2), .val (.int bo), .val (.int ag), .val (.ref dom), .val (.ref u1), .val (.int g1), .val (.int eA), .val (.int eB), .val (.int eF), .val (.ref u2), .unset] [(.ref u2)])) t → Steps p.tables e below (T0.setTop (mkF m 342 #[.val (.int p1), .val (.int p2), .val (.int p3), .val (.int p4), .val (.int p5), .val (.int nA), .val (.int x0), .val (.int x1), .val (.int x2), .val (.int x3), .val (.int nB), .val (.int y0), .val (.int y1), .val (.int y2), .val (.int y3), .val (.ref ra), .val (.ref rb), .val (.int i1), .val (.int i2), .val (.int bo), .val (.int ag), .val (.ref dom), .val (.ref u1), .val (.int g1), .val (.int eA), .val (.int eB), .val (.int eF), .unset, .unset] [(.ref u2)])) t := by
  refine ⟨T0, _, X0, N0, e0, fun t kt => ?_⟩
  show Steps p.tables e below (T0.setTop (mkF m 342 #[.val (.int p1), .val (.int p2), .val (.int p3), .val (.int p4), .val (.int p5), .val (.int nA), .val (.int x0), .val (.int x1), .val (.int x2), .val (.int x3), .val (.int nB), .val (.int y0), .val (.int y1), .val (.int y2), .val (.int y3), .val (.ref ra), .val (.ref rb), .val (.int i1), .val (.int i2), .val (.int bo), .val (.int ag), .val (.ref dom), .val (.ref u1), .val (.int g1), .val (.int eA), .val (.int eB), .val (.int eF), .unset, .unset] [(.ref u2)])) _
  refine XS.astore X0.here hx rfl (hb hby at_342) rfl rfl (l' := #[.val (.int p1), .val (.int p2), .val (.int p3), .val (.int p4), .val (.int p5), .val (.int nA), .val (.int x0), .val (.int x1), .val (.int x2), .val (.int x3), .val (.int nB), .val (.int y0), .val (.int y1), .val (.int y2), .val (.int y3), .val (.ref ra), .val (.ref rb), .val (.int i1), .val (.int i2), .val (.int bo), .val (.int ag), .val (.ref dom), .val (.ref u1), .val (.int g1), .val (.int eA), .val (.int eB), .val (.int eF), .val (.ref u2), .unset]) rfl ?_
  show Steps p.tables e below (T0.setTop (mkF m 344 #[.val (.int p1), .val (.int p2), .val (.int p3), .val (.int p4), .val (.int p5), .val (.int nA), .val (.int x0), .val (.int x1), .val (.int x2), .val (.int x3), .val (.int nB), .val (.int y0), .val (.int y1), .val (.int y2), .val (.int y3), .val (.ref ra), .val (.ref rb), .val (.int i1), .val (.int i2), .val (.int bo), .val (.int ag), .val (.ref dom), .val (.ref u1), .val (.int g1), .val (.int eA), .val (.int eB), .val (.int eF), .val (.ref u2), .unset] [])) _
  refine XS.aload X0.here hx rfl (hb hby at_344) rfl rfl ?_
  show Steps p.tables e below (T0.setTop (mkF m 346 #[.val (.int p1), .val (.int p2), .val (.int p3), .val (.int p4), .val (.int p5), .val (.int nA), .val (.int x0), .val (.int x1), .val (.int x2), .val (.int x3), .val (.int nB), .val (.int y0), .val (.int y1), .val (.int y2), .val (.int y3), .val (.ref ra), .val (.ref rb), .val (.int i1), .val (.int i2), .val (.int bo), .val (.int ag), .val (.ref dom), .val (.ref u1), .val (.int g1), .val (.int eA), .val (.int eB), .val (.int eF), .val (.ref u2), .unset] [(.ref u2)])) _
  exact kt
set_option maxRecDepth 65536 in
set_option maxHeartbeats 4000000 in
theorem cO2 {p : Program} {l : Launch} {e : Env} {s : State} {m : MethodId} {args : Array Value} {below : List Frame} {meth : Method} {c : Code} {T0 : State} {locs : List Loc} {cells slots : Nat} {Z : State} {a0 : Array Value} {h0 : Heap} {Ls : Array Slot} (x0 : Addr)
    (X0 : Stand p l e room_1 s m args below meth c T0 locs cells slots) (hx : p.tables.exec = Jvm.exec) (hZ : Z.Warmed39 s.vm) (hw : ∀ d ∈ tables_1, d.before a0 Z = true) (hby : c.code = code) (hml : c.maxLocals = 29) (hown : s.vm.findClass "com/example/caprice/caprice/solver/DomainsGatherReasonsPinLaw" = some m.cls) (e0 : T0.heap = h0) (hsz : Ls.size = 29) {rm : Room} {Q : Option Value → Heap → List Loc → Prop}
    (M : MetFree l (⟨"com/example/caprice/caprice/solver/DomainsGatherReasonsPinLaw", "maskOf", "([I)I"⟩ : MethodName) (head1 [Jvm.Cond.code (⟨"com/example/caprice/caprice/solver/DomainsGatherReasonsPinLaw", "maskOf", "([I)I"⟩ : MethodName) method_6_code 3 (some .int)] rm) (fun a U => a = #[(.ref x0)] ∧ Z.Warmed39 U.vm ∧ U.heap = h0) (fun _ _ _ _ _ => True) (fun _ U o U' => ∃ v L, o = .returned v ∧ Q v U'.heap L ∧ FrameEnd U o U' L rm.cells rm.slots)) (hfr : rm.frames + 1 ≤ room_1.frames) (hlo : 0 + (3 + 11) + rm.locals ≤ room_1.locals) (hce : cells + rm.cells ≤ room_1.cells) (hsl : slots + rm.slots ≤ room_1.slots) :
    ∃ (T' : State) (v : Option Value) (L : List Loc), Stand p l e room_1 s m args below meth c T' (locs ++ L) (cells + rm.cells) (slots + rm.slots) ∧ Q v T'.heap L ∧ ∀ t, Steps p.tables e below (T'.setTop (mkF m 349 Ls (v.toList ++ []))) t → Steps p.tables e below (T0.setTop (mkF m 346 Ls [(.ref x0)])) t := by
  obtain ⟨v, _, ⟨T1, L1, k1, n1⟩, -, X1, ⟨Lc, hQ, l1, y1, z1⟩, st⟩ := Jvm.LawKit.callS X0 hx (y := (⟨"com/example/caprice/caprice/solver/DomainsGatherReasonsPinLaw", "maskOf", "([I)I"⟩ : MethodName)) hown (mvT hZ (hw _ (List.mem_of_getElem? (i := 59) rfl))) (mvT hZ (hw _ (List.mem_of_getElem? (i := 60) rfl))) (mvT hZ (hw _ (List.mem_of_getElem? (i := 2) rfl))) (mvT hZ (hw _ (List.mem_of_getElem? (i := 61) rfl))) (by decide) (backOf (W := 0) M hZ (hw _ (List.mem_of_getElem? (i := 61) rfl)) (hw _ (List.mem_of_getElem? (i := 2) rfl)) hfr hlo) (g := (mkF m 346 Ls [(.ref x0)])) rfl (by rw [hml]; exact hsz) (argsL := [(.ref x0)]) (rest := []) (lenOf pd491 rfl) rfl (by show 2 * 0 + _ ≤ _; exact Nat.le_of_eq rfl) (hb hby at_346) (fun _ _ => ⟨rfl, e0, hce, hsl⟩)
  dsimp only [Pt.U, Pt.locs, Pt.cells, Pt.slots] at X1 l1 y1 z1 st hQ
  subst l1 y1 z1
  exact ⟨T1, v, Lc, X1, hQ, fun t kt => st t kt⟩
def Q0 (h0 : Heap) (n0 : Nat) (v : Option Value) (h : Heap) (L : List Loc) : Prop := v = some (.int (1 : Int32)) ∧ Fr n0 L
set_option maxRecDepth 65536 in
set_option maxHeartbeats 40000000 in
theorem qU {p : Program} {l : Launch} {e : Env} {s : State} {m : MethodId} {args : Array Value} {below : List Frame} {meth : Method} {c : Code} {T0 : State} {locs : List Loc} {Z : State} {a0 : Array Value} {h0 : Heap} {n0 : Nat} (p1 : Int32) (p2 : Int32) (p3 : Int32) (p4 : Int32) (p5 : Int32) (nA : Int32) (x0 : Int32) (x1 : Int32) (x2 : Int32) (x3 : Int32) (nB : Int32) (y0 : Int32) (y1 : Int32) (y2 : Int32) (y3 : Int32) (ra : Addr) (rb : Addr) (i1 : Int32) (i2 : Int32) (bo : Int32) (ag : Int32) (dom : Addr) (u1 : Addr) (g1 : Int32) (eA : Int32) (eB : Int32) (eF : Int32) (u2 : Addr) (g2 : Int32)
    (X0 : Stand p l e room_1 s m args below meth c T0 locs 16 72) (hx : p.tables.exec = Jvm.exec) (hZ : Z.Warmed39 s.vm) (hw : ∀ d ∈ tables_1, d.before a0 Z = true) (hby : c.code = code) (hml : c.maxLocals = 29) (hown : s.vm.findClass "com/example/caprice/caprice/solver/DomainsGatherReasonsPinLaw" = some m.cls) (e0 : T0.heap = h0) (N0 : Fr n0 locs) (O0 : Old Z n0 h0) (hd0 : g1 = eF) (hd1 : g2 = eB) (hret : meth.sig.returnType = some .boolean) (hlk : meth.locks = false) {entry : State} (pre0 : ∀ t, Steps p.tables e below (T0.setTop (mkF m 349 #[.val (.int p1), .val (.int p2), .val (.int p3), .val (.int p4), .val (.int p5), .val (.int nA), .val (.int x0), .val (.int x1), .val (.int x2), .val (.int x3), .val (.int nB), .val (.int y0), .val (.int y1), .val (.int y2), .val (.int y3), .val (.ref ra), .val (.ref rb), .val (.int i1), .val (.int i2), .val (.int bo), .val (.int ag), .val (.ref dom), .val (.ref u1), .val (.int g1), .val (.int eA), .val (.int eB), .val (.int eF), .val (.ref u2), .unset] [(.int g2)])) t → Steps p.tables e below entry t) :
    ∃ s₂ o, Steps p.tables e below entry s₂ ∧ s₂.status = .running ∧ Ended s₂ below o ∧ ∃ v L, o = .returned v ∧ Q0 h0 n0 v s₂.heap L ∧ FrameEnd s o s₂ L room_1.cells room_1.slots := by
  obtain ⟨fs, hr, hrun, hended, hW, hsame⟩ := X0.leave (v := some (.int (1 : Int32))) (fun h => by rw [hret] at h; cases h) hlk
  refine ⟨_, _, pre0 _ ?_, hrun, hended, _, _, rfl, ?_, ⟨_, rfl⟩, hW, hsame.mono (by decide) (by decide)⟩
  · show Steps p.tables e below (T0.setTop (mkF m 349 #[.val (.int p1), .val (.int p2), .val (.int p3), .val (.int p4), .val (.int p5), .val (.int nA), .val (.int x0), .val (.int x1), .val (.int x2), .val (.int x3), .val (.int nB), .val (.int y0), .val (.int y1), .val (.int y2), .val (.int y3), .val (.ref ra), .val (.ref rb), .val (.int i1), .val (.int i2), .val (.int bo), .val (.int ag), .val (.ref dom), .val (.ref u1), .val (.int g1), .val (.int eA), .val (.int eB), .val (.int eF), .val (.ref u2), .unset] [(.int g2)])) _
    refine XS.istore X0.here hx rfl (hb hby at_349) rfl (l' := #[.val (.int p1), .val (.int p2), .val (.int p3), .val (.int p4), .val (.int p5), .val (.int nA), .val (.int x0), .val (.int x1), .val (.int x2), .val (.int x3), .val (.int nB), .val (.int y0), .val (.int y1), .val (.int y2), .val (.int y3), .val (.ref ra), .val (.ref rb), .val (.int i1), .val (.int i2), .val (.int bo), .val (.int ag), .val (.ref dom), .val (.ref u1), .val (.int g1), .val (.int eA), .val (.int eB), .val (.int eF), .val (.ref u2), .val (.int g2)]) rfl ?_
    show Steps p.tables e below (T0.setTop (mkF m 351 #[.val (.int p1), .val (.int p2), .val (.int p3), .val (.int p4), .val (.int p5), .val (.int nA), .val (.int x0), .val (.int x1), .val (.int x2), .val (.int x3), .val (.int nB), .val (.int y0), .val (.int y1), .val (.int y2), .val (.int y3), .val (.ref ra), .val (.ref rb), .val (.int i1), .val (.int i2), .val (.int bo), .val (.int ag), .val (.ref dom), .val (.ref u1), .val (.int g1), .val (.int eA), .val (.int eB), .val (.int eF), .val (.ref u2), .val (.int g2)] [])) _
    refine XS.iload X0.here hx rfl (hb hby at_351) rfl ?_
    show Steps p.tables e below (T0.setTop (mkF m 353 #[.val (.int p1), .val (.int p2), .val (.int p3), .val (.int p4), .val (.int p5), .val (.int nA), .val (.int x0), .val (.int x1), .val (.int x2), .val (.int x3), .val (.int nB), .val (.int y0), .val (.int y1), .val (.int y2), .val (.int y3), .val (.ref ra), .val (.ref rb), .val (.int i1), .val (.int i2), .val (.int bo), .val (.int ag), .val (.ref dom), .val (.ref u1), .val (.int g1), .val (.int eA), .val (.int eB), .val (.int eF), .val (.ref u2), .val (.int g2)] [(.int g1)])) _
    refine XS.iload X0.here hx rfl (hb hby at_353) rfl ?_
    show Steps p.tables e below (T0.setTop (mkF m 355 #[.val (.int p1), .val (.int p2), .val (.int p3), .val (.int p4), .val (.int p5), .val (.int nA), .val (.int x0), .val (.int x1), .val (.int x2), .val (.int x3), .val (.int nB), .val (.int y0), .val (.int y1), .val (.int y2), .val (.int y3), .val (.ref ra), .val (.ref rb), .val (.int i1), .val (.int i2), .val (.int bo), .val (.int ag), .val (.ref dom), .val (.ref u1), .val (.int g1), .val (.int eA), .val (.int eB), .val (.int eF), .val (.ref u2), .val (.int g2)] [(.int eF), (.int g1)])) _
    refine XS.icmpNo X0.here hx rfl (hb hby at_355) rfl (teq hd0).2 ?_
    show Steps p.tables e below (T0.setTop (mkF m 358 #[.val (.int p1), .val (.int p2), .val (.int p3), .val (.int p4), .val (.int p5), .val (.int nA), .val (.int x0), .val (.int x1), .val (.int x2), .val (.int x3), .val (.int nB), .val (.int y0), .val (.int y1), .val (.int y2), .val (.int y3), .val (.ref ra), .val (.ref rb), .val (.int i1), .val (.int i2), .val (.int bo), .val (.int ag), .val (.ref dom), .val (.ref u1), .val (.int g1), .val (.int eA), .val (.int eB), .val (.int eF), .val (.ref u2), .val (.int g2)] [])) _
    refine XS.iload X0.here hx rfl (hb hby at_358) rfl ?_
    show Steps p.tables e below (T0.setTop (mkF m 360 #[.val (.int p1), .val (.int p2), .val (.int p3), .val (.int p4), .val (.int p5), .val (.int nA), .val (.int x0), .val (.int x1), .val (.int x2), .val (.int x3), .val (.int nB), .val (.int y0), .val (.int y1), .val (.int y2), .val (.int y3), .val (.ref ra), .val (.ref rb), .val (.int i1), .val (.int i2), .val (.int bo), .val (.int ag), .val (.ref dom), .val (.ref u1), .val (.int g1), .val (.int eA), .val (.int eB), .val (.int eF), .val (.ref u2), .val (.int g2)] [(.int g2)])) _
    refine XS.iload X0.here hx rfl (hb hby at_360) rfl ?_
    show Steps p.tables e below (T0.setTop (mkF m 362 #[.val (.int p1), .val (.int p2), .val (.int p3), .val (.int p4), .val (.int p5), .val (.int nA), .val (.int x0), .val (.int x1), .val (.int x2), .val (.int x3), .val (.int nB), .val (.int y0), .val (.int y1), .val (.int y2), .val (.int y3), .val (.ref ra), .val (.ref rb), .val (.int i1), .val (.int i2), .val (.int bo), .val (.int ag), .val (.ref dom), .val (.ref u1), .val (.int g1), .val (.int eA), .val (.int eB), .val (.int eF), .val (.ref u2), .val (.int g2)] [(.int eB), (.int g2)])) _
    refine XS.icmpNo X0.here hx rfl (hb hby at_362) rfl (teq hd1).2 ?_
    show Steps p.tables e below (T0.setTop (mkF m 365 #[.val (.int p1), .val (.int p2), .val (.int p3), .val (.int p4), .val (.int p5), .val (.int nA), .val (.int x0), .val (.int x1), .val (.int x2), .val (.int x3), .val (.int nB), .val (.int y0), .val (.int y1), .val (.int y2), .val (.int y3), .val (.ref ra), .val (.ref rb), .val (.int i1), .val (.int i2), .val (.int bo), .val (.int ag), .val (.ref dom), .val (.ref u1), .val (.int g1), .val (.int eA), .val (.int eB), .val (.int eF), .val (.ref u2), .val (.int g2)] [])) _
    refine XS.iconst X0.here hx rfl (hb hby at_365) ?_
    show Steps p.tables e below (T0.setTop (mkF m 366 #[.val (.int p1), .val (.int p2), .val (.int p3), .val (.int p4), .val (.int p5), .val (.int nA), .val (.int x0), .val (.int x1), .val (.int x2), .val (.int x3), .val (.int nB), .val (.int y0), .val (.int y1), .val (.int y2), .val (.int y3), .val (.ref ra), .val (.ref rb), .val (.int i1), .val (.int i2), .val (.int bo), .val (.int ag), .val (.ref dom), .val (.ref u1), .val (.int g1), .val (.int eA), .val (.int eB), .val (.int eF), .val (.ref u2), .val (.int g2)] [(.int (1 : Int32))])) _
    refine XS.goto X0.here hx rfl (pc0 := 366) (pc' := 370) rfl (hb hby at_366) (by decide) (by decide) ?_
    show Steps p.tables e below (T0.setTop (mkF m 370 #[.val (.int p1), .val (.int p2), .val (.int p3), .val (.int p4), .val (.int p5), .val (.int nA), .val (.int x0), .val (.int x1), .val (.int x2), .val (.int x3), .val (.int nB), .val (.int y0), .val (.int y1), .val (.int y2), .val (.int y3), .val (.ref ra), .val (.ref rb), .val (.int i1), .val (.int i2), .val (.int bo), .val (.int ag), .val (.ref dom), .val (.ref u1), .val (.int g1), .val (.int eA), .val (.int eB), .val (.int eF), .val (.ref u2), .val (.int g2)] [(.int (1 : Int32))])) _
    exact retN X0 hx (t := .boolean) hret (by simp) (hb hby at_370) hr
  · exact ⟨rfl, N0⟩
abbrev bt (x : Int32) : Int32 := ((1 : Int32) <<< (x &&& 31))
def El (x : Int32) : Prop := x = 0 ∨ x = 1 ∨ x = 2 ∨ x = 3
def ms (xs : List Int32) : Int32 := xs.foldl (fun m x => m ||| bt x) 0
def gat1 (G : List Int32) (x : Int32) : List Int32 := if x ∈ G then G else G ++ [x]
def gat (G xs : List Int32) : List Int32 := xs.foldl gat1 G
theorem ms_fold (xs : List Int32) : ∀ m : Int32, xs.foldl (fun m x => m ||| bt x) m = m ||| ms xs := by
  induction xs with
  | nil => intro m; show m = m ||| 0; exact Int32.or_zero.symm
  | cons a xs ih =>
    intro m
    show xs.foldl (fun m x => m ||| bt x) (m ||| bt a) = m ||| xs.foldl (fun m x => m ||| bt x) (0 ||| bt a)
    rw [ih, ih, Int32.zero_or, Int32.or_assoc]
theorem ms_cons (a : Int32) (xs : List Int32) : ms (a :: xs) = bt a ||| ms xs := by
  show xs.foldl (fun m x => m ||| bt x) (0 ||| bt a) = _
  rw [ms_fold, Int32.zero_or]
theorem ms_add (G : List Int32) (x : Int32) : ms (G ++ [x]) = ms G ||| bt x := by unfold ms; rw [List.foldl_append]; rfl
theorem ms_mem {x : Int32} : ∀ {G : List Int32}, x ∈ G → ms G ||| bt x = ms G := by
  intro G
  induction G with
  | nil => intro h; cases h
  | cons a G ih =>
    intro h
    rw [ms_cons]
    rcases List.mem_cons.mp h with rfl | h
    · rw [Int32.or_comm, ← Int32.or_assoc, Int32.or_self]
    · rw [Int32.or_assoc, ih h]
theorem ms_gat1 (G : List Int32) (x : Int32) : ms (gat1 G x) = ms G ||| bt x := by
  unfold gat1
  by_cases h : x ∈ G
  · rw [if_pos h, ms_mem h]
  · rw [if_neg h, ms_add]
theorem ms_gat (xs : List Int32) : ∀ G : List Int32, ms (gat G xs) = ms G ||| ms xs := by
  induction xs with
  | nil => intro G; show ms G = ms G ||| 0; exact Int32.or_zero.symm
  | cons a xs ih =>
    intro G
    show ms (gat (gat1 G a) xs) = _
    rw [ih, ms_gat1, ms_cons, Int32.or_assoc]
theorem ms_again (a b : Int32) : (a ||| b) ||| a = a ||| b := by rw [Int32.or_comm (a := a ||| b), ← Int32.or_assoc, Int32.or_self]
/-- what has been gathered: each once, all below 4 -/
def Gd (G : List Int32) : Prop := G.Nodup ∧ ∀ x ∈ G, El x
theorem Gd.nil : Gd [] := ⟨List.nodup_nil, fun x h => by cases h⟩
theorem Gd.gat1 {G : List Int32} (h : Gd G) {x : Int32} (hx : El x) : Gd (gat1 G x) := by
  unfold Jvm.Pilot.@@N@@.gat1
  by_cases q : x ∈ G
  · rw [if_pos q]; exact h
  · rw [if_neg q]
    refine ⟨List.nodup_append.mpr ⟨h.1, by simp, fun a ha b hb => ?_⟩, fun y hy => ?_⟩
    · rw [List.mem_singleton] at hb; subst hb; exact fun z => q (z ▸ ha)
    · rcases List.mem_append.mp hy with z | z
      · exact h.2 y z
      · rw [List.mem_singleton] at z; subst z; exact hx
theorem Gd.gat {xs : List Int32} (hx : ∀ x ∈ xs, El x) : ∀ {G : List Int32}, Gd G → Gd (gat G xs) := by
  induction xs with
  | nil => intro G h; exact h
  | cons a xs ih => intro G h; exact ih (fun x z => hx x (List.mem_cons_of_mem _ z)) (h.gat1 (hx a List.mem_cons_self))
def cnt (G : List Int32) : Nat := (if (0 : Int32) ∈ G then 1 else 0) + (if (1 : Int32) ∈ G then 1 else 0) + (if (2 : Int32) ∈ G then 1 else 0) + (if (3 : Int32) ∈ G then 1 else 0)
theorem cnt_cons {x : Int32} {G : List Int32} (hx : El x) (q : x ∉ G) : cnt (x :: G) = cnt G + 1 := by
  unfold cnt
  rcases hx with rfl | rfl | rfl | rfl <;> simp [q] <;> omega
theorem Gd.len {G : List Int32} (h : Gd G) : G.length = cnt G := by
  obtain ⟨h1, h2⟩ := h
  induction G with
  | nil => decide
  | cons a G ih =>
    obtain ⟨a1, a2⟩ := List.nodup_cons.mp h1
    rw [cnt_cons (h2 a List.mem_cons_self) a1, List.length_cons, ih a2 (fun x z => h2 x (List.mem_cons_of_mem _ z))]
theorem cnt_le (G : List Int32) : cnt G ≤ 4 := by unfold cnt; split <;> split <;> split <;> split <;> omega
theorem cnt_lt {G : List Int32} {x : Int32} (hx : El x) (q : x ∉ G) : cnt G < 4 := by
  have := cnt_cons hx q
  have := cnt_le (x :: G)
  omega
def Msk (m : Int32) : Prop := ∃ k : Fin 16, m = Int32.ofNat k.val
theorem msk_nn : ∀ {m : Int32}, Msk m → ¬ m < 0 := by rintro m ⟨k, rfl⟩; revert k; decide +kernel
theorem msk_add {m x : Int32} (h : Msk m) (hx : El x) : Msk (m ||| bt x) := by
  obtain ⟨k, rfl⟩ := h
  have f0 : ∀ k : Fin 16, ∃ j : Fin 16, Int32.ofNat k.val ||| bt 0 = Int32.ofNat j.val := by decide +kernel
  have f1 : ∀ k : Fin 16, ∃ j : Fin 16, Int32.ofNat k.val ||| bt 1 = Int32.ofNat j.val := by decide +kernel
  have f2 : ∀ k : Fin 16, ∃ j : Fin 16, Int32.ofNat k.val ||| bt 2 = Int32.ofNat j.val := by decide +kernel
  have f3 : ∀ k : Fin 16, ∃ j : Fin 16, Int32.ofNat k.val ||| bt 3 = Int32.ofNat j.val := by decide +kernel
  rcases hx with rfl | rfl | rfl | rfl
  · exact f0 k
  · exact f1 k
  · exact f2 k
  · exact f3 k
theorem msk_dis {m x y : Int32} (h : Msk m) (hx : El x) (hy : El y) (ne : x ≠ y) (d : m &&& bt y = 0) : (m ||| bt x) &&& bt y = 0 := by
  obtain ⟨k, rfl⟩ := h
  revert d
  rcases hx with rfl | rfl | rfl | rfl <;> rcases hy with rfl | rfl | rfl | rfl <;> first | exact absurd rfl ne | (revert k; clear ne; decide +kernel)
theorem msk_0 : Msk 0 := ⟨0, by decide⟩
theorem El.nn {x : Int32} (h : El x) : ¬ x < 0 := by rcases h with rfl | rfl | rfl | rfl <;> decide
theorem El.le {x : Int32} (h : El x) : ¬ (3 : Int32) < x := by rcases h with rfl | rfl | rfl | rfl <;> decide
theorem El.rg {x : Int32} (h : El x) : ¬ (x < 0 ∨ 4 ≤ x.toNatClampNeg) := by rcases h with rfl | rfl | rfl | rfl <;> decide
theorem El.z {x : Int32} (h : El x) : (0 : Int32) &&& bt x = 0 := by rcases h with rfl | rfl | rfl | rfl <;> decide
theorem El.inj {x y : Int32} (h : El x) (h' : El y) (q : x.toNatClampNeg = y.toNatClampNeg) : x = y := by
  rcases h with rfl | rfl | rfl | rfl <;> rcases h' with rfl | rfl | rfl | rfl <;> first | rfl | exact absurd q (by decide)
theorem own_nlt {a b : Nat} (h : a < b ∨ b < a) : a ≠ b := h.elim Nat.ne_of_lt Nat.ne_of_gt
def rM (M : Nat → Nat → Value) (d v : Nat) (b : Value) : Nat → Nat → Value := own_upd M d (own_upd (M d) v b)
theorem own_updI (f : Nat → Int32) (j : Nat) (v : Int32) (i : Nat) : own_upd (fun i => Value.int (f i)) j (.int v) i = .int (own_upd f j v i) := by unfold own_upd; split <;> rfl
theorem own_updJ (f : Nat → Int64) (j : Nat) (v : Int64) (i : Nat) : own_upd (fun i => Value.long (f i)) j (.long v) i = .long (own_upd f j v i) := by unfold own_upd; split <;> rfl
theorem own_ordX {N : Nat} {X : Nat → Nat} (h : ∀ i j, i < j → j < N → X i < X j) {i j : Nat} (hi : i < N) (hj : j < N) (q : i ≠ j) : X i ≠ X j := by
  rcases Nat.lt_or_gt_of_ne q with r | r
  · exact Nat.ne_of_lt (h i j r hj)
  · exact Nat.ne_of_gt (h j i r hi)
/-- an int array and its numbers -/
def Lst (Z : State) (h : Heap) (r : Nat) (xs : List Int32) : Prop := ∃ k : ClassId, Ars Z h r k .int xs.length (fun i => .int (xs.getD i 0))
theorem Lst.pres {Z : State} {h h' : Heap} {r lo : Nat} {xs : List Int32} (F : Lst Z h r xs) (P : Pres lo h h') (q : r < lo) : Lst Z h' r xs := by obtain ⟨k, A⟩ := F; exact ⟨k, A.pres P q⟩
theorem Lst.of_arv {Z : State} {h : Heap} {r : Nat} {k : ClassId} {z : Int32} {xs : List Int32} (F : Arv Z h r k .int z (xs.map Value.int) (.int 0)) (hz : z.toNatClampNeg = xs.length) : Lst Z h r xs := ⟨k, by
  have A := Ars.of_arv F
  rw [hz] at A
  exact A.congr fun i hi => by simp [List.getD_eq_getElem?_getD, List.getElem?_eq_getElem hi]⟩
theorem own_ltN {a b : Nat} (h : a < b) (hb : b < 2 ^ 31) : Int32.ofNat a < Int32.ofNat b := by
  rw [Int32.lt_iff_toInt_lt, toInt_of rfl (by omega), toInt_of rfl hb]; omega
abbrev R0 : Room := { frames := 0, cells := 0, slots := 0, locals := 0 }
def Gs (Z : State) (h : Heap) (d lo : Nat) (M : Nat → Nat → Value) (G : List Int32) : Prop :=
  ∃ (R Ga Mk : Nat) (X : Nat → Nat) (kR kG kM : ClassId) (kX : Nat → ClassId) (gf mf : Nat → Int32),
    (lo ≤ d ∧ d < R ∧ (∀ i, i < 4 → R < X i ∧ X i < Ga) ∧ R < Ga ∧ Ga < Mk) ∧
    Exa Z h d "com/example/caprice/caprice/solver/Domains" ∧ Exa Z h Ga "[I" ∧ Fld Z h d "com/example/caprice/caprice/solver/Domains" "reasons" "[[[I" (.ref R) ∧ Fld Z h d "com/example/caprice/caprice/solver/Domains" "gathered" "[I" (.ref Ga) ∧ Fld Z h d "com/example/caprice/caprice/solver/Domains" "marked" "[Z" (.ref Mk) ∧ Fld Z h d "com/example/caprice/caprice/solver/Domains" "gatheredCount" "I" (.int (Int32.ofNat G.length)) ∧
    Ars Z h R kR (.array (.array .int)) 4 (fun i => .ref (X i)) ∧ (∀ i, i < 4 → Ars Z h (X i) (kX i) (.array .int) 2 (M i)) ∧ Ars Z h Ga kG .int 4 (fun i => .int (gf i)) ∧ Ars Z h Mk kM .boolean 4 (fun i => .int (mf i)) ∧
    (∀ i, i < G.length → gf i = G.getD i 0) ∧ (∀ x, El x → mf x.toNatClampNeg = if x ∈ G then 1 else 0)
def QGs (r : Option Value) (Z : State) (d lo : Nat) (M : Nat → Nat → Value) (G : List Int32) (h0 : Heap) (n0 : Nat) (v : Option Value) (h : Heap) (L : List Loc) : Prop := v = r ∧ Fr n0 L ∧ Pres lo h0 h ∧ Old Z n0 h ∧ Gs Z h d lo M G
set_option maxRecDepth 65536 in
set_option maxHeartbeats 4000000 in
theorem grLoop {p : Program} {l : Launch} {e : Env} {s : State} {m : MethodId} {args : Array Value} {below : List Frame} {meth : Method} {c : Code} {Z : State} {a0 : Array Value} {n0 : Nat} (hx : p.tables.exec = Jvm.exec) (hZ : Z.Warmed39 s.vm) (hw : ∀ d ∈ tables_1, d.before a0 Z = true) (hby : c.code = prog_59_method_13_code) (hml : c.maxLocals = 7) (hown : s.vm.findClass "com/example/caprice/caprice/solver/Domains" = some m.cls) (hret : meth.sig.returnType = none) (hlk : meth.locks = false)
    (d lo r : Nat) (q0 q1 : Int32) (M : Nat → Nat → Value) (xs : List Int32) (hlo : n0 ≤ lo) (hr : r < lo) (hE : ∀ x ∈ xs, El x) (hS : Heap) {entry : State} : ∀ (k j : Nat) (G : List Int32) (T0 : State) (locs : List Loc) (h0 : Heap) (z6 : Slot), j + k = xs.length →
    Stand p l e R0 s m args below meth c T0 locs 0 0 → T0.heap = h0 → Fr n0 locs → Old Z n0 h0 → Pres lo hS h0 → Gs Z h0 d lo M G → Lst Z h0 r xs → Gd G → One z6 →
    (∀ t, Steps p.tables e below (T0.setTop (mkF m 16 #[.val (.ref d), .val (.int q0), .val (.int q1), .val (.ref r), .val (.int xs.length.toInt32), .val (.int (Int32.ofNat j)), z6] [])) t → Steps p.tables e below entry t) →
    ∃ s₂ o, Steps p.tables e below entry s₂ ∧ s₂.status = .running ∧ Ended s₂ below o ∧ ∃ v L, o = .returned v ∧ QGs none Z d lo M (gat G (xs.drop j)) hS n0 v s₂.heap L ∧ FrameEnd s o s₂ L R0.cells R0.slots := by
  intro k
  induction k with
  | zero =>
    intro j G T0 locs h0 z6 hj X0 e0 N0 O0 P0 D F g z pre
    have hj' : j = xs.length := by omega
    obtain ⟨s₂, o, c1, c2, c3, v, L, c4, ⟨c5, c6, c7⟩, c8⟩ := grOut d q0 q1 r xs.length.toInt32 (Int32.ofNat j) z6 X0 hx hZ hw hby hml hown e0 N0 O0 (by rw [hj', Int32.lt_iff_toInt_lt]; exact Int.lt_irrefl _) hret hlk pre
    refine ⟨s₂, o, c1, c2, c3, v, L, c4, ⟨c5, c6, ?_, ?_, ?_⟩, c8⟩
    · rw [c7]; exact P0
    · rw [c7]; exact O0
    · rw [c7, hj', List.drop_length]; exact D
  | succ k ih =>
    intro j G T0 locs h0 z6 hj X0 e0 N0 O0 P0 D F g z pre
    have hlt : j < xs.length := by omega
    obtain ⟨kr, A⟩ := id F
    have h31 : xs.length < 2 ^ 31 := by obtain ⟨_, _, _, _, q, _⟩ := A; exact q
    have cj : (Int32.ofNat j).toNatClampNeg = j := clamp_of rfl (by omega)
    have hdr : xs.drop j = xs.getD j 0 :: xs.drop (j + 1) := by rw [List.drop_eq_getElem_cons hlt, List.getD_eq_getElem?_getD, List.getElem?_eq_getElem hlt]; rfl
    have hw0 : El (xs.getD j 0) := hE _ (by rw [List.getD_eq_getElem?_getD, List.getElem?_eq_getElem hlt]; exact List.getElem_mem hlt)
    have hg : gat G (xs.drop j) = gat (gat1 G (xs.getD j 0)) (xs.drop (j + 1)) := by rw [hdr]; rfl
    rw [hg]
    obtain ⟨w, hwe⟩ : ∃ w, w = xs.getD j 0 := ⟨_, rfl⟩
    rw [← hwe] at hw0 ⊢
    obtain ⟨R, Ga, Mk, X, kR, kG, kM, kX, gf, mf, ⟨o1, o2, o3, o4, o5⟩, E, EG, F1, F2, F3, F4, AR, AX, AG, AM, hgf, hmf⟩ := id D
    by_cases q : w ∈ G
    · obtain ⟨T1, L1, X1, N1, e1, c1⟩ := grSkip d q0 q1 r xs.length.toInt32 (Int32.ofNat j) z6 Mk kr xs.length _ kM 4 _ w 1 X0 hx hZ hw hby hml hown e0 N0 O0 E F3 A AM (within rfl hlt h31) (by rw [cj, hwe]) z hw0.rg (by show Value.int (mf _) = _; rw [hmf w hw0, if_pos q]) (own_ltN hlt h31) (by decide)
      have hg1 : gat1 G w = G := if_pos q
      rw [hg1]
      exact ih (j + 1) G T1 L1 h0 _ (by omega) X1 e1 N1 O0 P0 D F g (One.val rfl) (fun t kt => pre t (c1 t (by rw [← inc_ofNat]; exact kt)))
    · have hlen : G.length < 4 := by rw [g.len]; exact cnt_lt hw0 q
      have cg : (Int32.ofNat G.length).toNatClampNeg = G.length := clamp_of rfl (by omega)
      obtain ⟨T1, L1, X1, N1, K1, O1, A1, A2, E', F1', F2', F3', F4', -, c1⟩ := grAdd d q0 q1 r xs.length.toInt32 (Int32.ofNat j) z6 R Ga Mk (Int32.ofNat G.length) kr xs.length _ kM 4 _ kG 4 _ w 0 X0 hx hZ hw hby hml hown e0 N0 O0 E F1 F2 F3 F4 A AM AG (own_nlt (by omega)) (own_nlt (by omega)) (own_nlt (by omega)) (by omega) (by omega) (by omega) (within rfl hlt h31) (by rw [cj, hwe]) z hw0.rg (by show Value.int (mf _) = _; rw [hmf w hw0, if_neg q]) (within rfl hlen (by decide)) (own_ltN hlt h31) rfl
      have hg1 : gat1 G w = G ++ [w] := if_neg q
      rw [hg1]
      rw [cg] at A2
      have P1 : Pres lo h0 T1.heap := Pres.of_keep K1 (allS (show lo ≤ Mk by omega) (allS (show lo ≤ Ga by omega) (allS o1 all0)))
      have D1 : Gs Z T1.heap d lo M (G ++ [w]) := by
        refine ⟨R, Ga, Mk, X, kR, kG, kM, kX, own_upd gf G.length w, own_upd mf w.toNatClampNeg 1, ⟨o1, o2, o3, o4, o5⟩, E', EG.keep K1, F1', F2', F3', ?_, AR.keep K1 (ninS (own_nlt (by omega)) (ninS (own_nlt (by omega)) (ninS (own_nlt (by omega)) nin0))), fun i hi => ?_, A2.congr fun i _ => own_updI _ _ _ _, A1.congr fun i _ => own_updI _ _ _ _, fun i hi => ?_, fun x hx' => ?_⟩
        · rw [List.length_append, List.length_singleton, inc_ofNat]; exact F4'
        · obtain ⟨y1, y2⟩ := o3 i hi
          exact (AX i hi).keep K1 (ninS (own_nlt (by omega)) (ninS (own_nlt (by omega)) (ninS (own_nlt (by omega)) nin0)))
        · rw [List.length_append, List.length_singleton] at hi
          rcases Nat.lt_or_ge i G.length with y | y
          · rw [own_upd_miss _ _ (by omega), hgf i y, List.getD_eq_getElem?_getD, List.getD_eq_getElem?_getD, List.getElem?_append_left y]
          · obtain rfl : i = G.length := by omega
            rw [own_upd_hit, List.getD_eq_getElem?_getD, List.getElem?_append_right (Nat.le_refl _)]; simp
        · by_cases y : x = w
          · subst y; rw [own_upd_hit, if_pos (by simp)]
          · rw [own_upd_miss _ _ (fun t => y (hx'.inj hw0 t)), hmf x hx']
            by_cases y2 : x ∈ G
            · rw [if_pos y2, if_pos (List.mem_append_left _ y2)]
            · rw [if_neg y2, if_neg (fun t => (List.mem_append.mp t).elim y2 (fun t => y (List.mem_singleton.mp t)))]
      exact ih (j + 1) (G ++ [w]) T1 L1 _ _ (by omega) X1 rfl N1 O1 (P0.trans P1) D1 (F.pres P1 hr) (hg1 ▸ g.gat1 hw0) (One.val rfl) (fun t kt => pre t (c1 t (by rw [← inc_ofNat]; exact kt)))
theorem rmGather (l : Launch) (Z : State) (a0 : Array Value) (hw : ∀ d ∈ tables_1, d.before a0 Z = true) (d lo r : Nat) (q0 q1 : Int32) (M : Nat → Nat → Value) (G xs : List Int32) (h0 : Heap) (n0 : Nat) (O0 : Old Z n0 h0) (hlo : n0 ≤ lo) (D : Gs Z h0 d lo M G) (g : Gd G) (F : Lst Z h0 r xs) (hr : r < lo) (hE : ∀ x ∈ xs, El x)
    (hq : ¬ (q0 < 0 ∨ 4 ≤ q0.toNatClampNeg)) (hv : ¬ (q1 < 0 ∨ 2 ≤ q1.toNatClampNeg)) (hM : M q0.toNatClampNeg q1.toNatClampNeg = .ref r) :
    MetFree l (⟨"com/example/caprice/caprice/solver/Domains", "gatherReasons", "(II)V"⟩ : MethodName) (head1 [Jvm.Cond.code (⟨"com/example/caprice/caprice/solver/Domains", "gatherReasons", "(II)V"⟩ : MethodName) prog_59_method_13_code 7 none] R0) (fun a U => a = #[(.ref d), (.int q0), (.int q1)] ∧ Z.Warmed39 U.vm ∧ U.heap = h0) (fun _ _ _ _ _ => True) (fun _ U o U' => ∃ v L, o = .returned v ∧ QGs none Z d lo M (gat G xs) h0 n0 v U'.heap L ∧ FrameEnd U o U' L R0.cells R0.slots) := by
  refine MetFree.of_bodySF (plainFor_of_name pn72) hisR ?_
  intro p e s m args below meth c s₁ Bd hml0 hP hK
  obtain ⟨rfl, hZ, hh⟩ := hP
  have hml : c.maxLocals = 7 := hml0
  have X0 : Stand p l e R0 s m #[(.ref d), (.int q0), (.int q1)] below meth c s₁ [] 0 0 := Stand.of_body Bd
  have e0 : s₁.heap = h0 := by rw [← hh, Bd.state]; rfl
  have ef : entryFrame m #[(.ref d), (.int q0), (.int q1)] 7 = mkF m 0 #[.val (.ref d), .val (.int q0), .val (.int q1), .unset, .unset, .unset, .unset] [] := by first | (simp [entryFrame, mkF, argsToLocals, Value.category]; done) | rfl
  have hown := findClass_of_methodNamed Bd.named
  have hlk := BodyLoose.notSynchronized Bd
  have hqN : q0.toNatClampNeg < 4 := Nat.lt_of_not_le fun z => hq (Or.inr z)
  obtain ⟨R, Ga, Mk, X, kR, kG, kM, kX, gf, mf, ord, E, EG, F1, F2, F3, F4, AR, AX, r'⟩ := id D
  obtain ⟨kr, A⟩ := id F
  obtain ⟨T1, L1, X1, N1, e1, c1⟩ := grIn d q0 q1 R kR 4 _ (X q0.toNatClampNeg) (kX q0.toNatClampNeg) 2 _ r kr xs.length _ X0 Bd.exec hZ hw Bd.bytes hml hown e0 (Fr.nil n0) O0 E F1 AR (AX _ hqN) A hq rfl hv hM
  exact grLoop Bd.exec hZ hw Bd.bytes hml hown Bd.returns hlk d lo r q0 q1 M xs hlo hr hE h0 xs.length 0 G T1 L1 h0 .unset (by omega) X1 e1 N1 O0 (Pres.refl _ _) D F g One.u (fun t k => castTop ef (c1 t k))
theorem pnArr : plainName "java/util/Arrays" = true := by first | (simp [plainName, overriddenIn]; done) | decide +kernel
abbrev RCp : Room := { frames := 1, cells := 1, slots := 4, locals := 40 }
theorem dcp28 : decode jdk_65_method_123_code 28 = .ok (.invokestatic 150, 3) := by decide +kernel
theorem dcp7 : decode jdk_65_method_123_code 7 = .ok (.invokevirtual 316, 3) := by decide +kernel
def QCp (Z : State) (k : Int32) (vs : List Value) (h0 : Heap) (n0 : Nat) (v : Option Value) (h : Heap) (L : List Loc) : Prop := ∃ (b : Nat) (kb : ClassId), v = some (.ref b) ∧ Fr n0 L ∧ Keep h0 h [] ∧ Old Z n0 h ∧ h0.size ≤ b ∧ Arv Z h b kb .int k vs (.int (0 : Int32))
set_option maxRecDepth 65536 in
set_option maxHeartbeats 4000000 in
theorem rmCp1 (l : Launch) (Z : State) (a0 : Array Value) (hw : ∀ d ∈ tables_1, d.before a0 Z = true) (src : Nat) (ks : ClassId) (va vb vc vd : Int32) (h0 : Heap) (n0 : Nat) (O0 : Old Z n0 h0) (V : Arv Z h0 src ks .int (4 : Int32) [(.int va), (.int vb), (.int vc), (.int vd)] (.int (0 : Int32))) (E : Exa Z h0 src "[I") :
    MetFree l (⟨"java/util/Arrays", "copyOf", "([II)[I"⟩ : MethodName) (head1 [Jvm.Cond.code (⟨"java/util/Arrays", "copyOf", "([II)[I"⟩ : MethodName) jdk_65_method_123_code 3 (some (.array .int))] RCp) (fun a U => a = #[(.ref src), (.int (1 : Int32))] ∧ Z.Warmed39 U.vm ∧ U.heap = h0) (fun _ _ _ _ _ => True) (fun _ U o U' => ∃ v L, o = .returned v ∧ QCp Z (1 : Int32) [(.int va)] h0 n0 v U'.heap L ∧ FrameEnd U o U' L RCp.cells RCp.slots) := by
  refine MetFree.of_bodySF (plainFor_of_name pnArr) hisR ?_
  intro p e s m args below meth c s₁ Bd hml0 hP hK
  obtain ⟨rfl, hZ, hh⟩ := hP
  have hx := Bd.exec
  have hby := Bd.bytes
  have hml : c.maxLocals = 3 := hml0
  have hown : s.vm.findClass "java/util/Arrays" = some m.cls := findClass_of_methodNamed Bd.named
  have hlk := BodyLoose.notSynchronized Bd
  have X0 : Stand p l e RCp s m #[(.ref src), (.int (1 : Int32))] below meth c s₁ [] 0 0 := Stand.of_body Bd
  have e0 : s₁.heap = h0 := by rw [← hh, Bd.state]; rfl
  have ef : entryFrame m #[(.ref src), (.int (1 : Int32))] 3 = mkF m 0 #[.val (.ref src), .val (.int (1 : Int32)), .unset] [] := by first | (simp [entryFrame, mkF, argsToLocals, Value.category]; done) | rfl
  obtain ⟨T1, L1, b, kb, X1, N1, K1, O1, z1, V1, E1, -, c1⟩ := cpA1 src ks va vb vc vd X0 hx hZ hw hby hml hown e0 (Fr.nil n0) O0 V
  have hgb : n0 ≤ b := Nat.le_trans (own_n0 O0) z1
  obtain ⟨T2, h2, L2, X2, e2, N2, K2, V2, c2⟩ := cpA X1 hx hZ hown (hw _ (List.mem_of_getElem? (i := 73) rfl)) (hw _ (List.mem_of_getElem? (i := 76) rfl)) (hw _ (List.mem_of_getElem? (i := 74) rfl)) (hw _ (List.mem_of_getElem? (i := 75) rfl)) rfl (V.keep K1 nin0) V1 (sp := (0 : Int32)) (dp := (0 : Int32)) (nn := (1 : Int32)) (us := [(.int va)]) (Or.inl ⟨rfl, rfl⟩) (by decide) (by decide) (by decide) (by decide) (by decide) rfl (by decide) N1 hgb (g := (mkF m 28 #[.val (.ref src), .val (.int (1 : Int32)), .val (.ref b)] [(.int (1 : Int32)), (.int (0 : Int32)), (.ref b), (.int (0 : Int32)), (.ref src)])) rfl (by rw [hml]; rfl) (rest := []) rfl (hb hby dcp28) (by decide) (W := 0) (Nat.le_refl _) (by decide)
  have O2 : Old Z n0 h2 := (Pres.of_keep (lo := n0) K2 (allS hgb all0)).old (Nat.le_refl _) O1
  obtain ⟨s₂, o, r1, r2, r3, v, L, r4, ⟨r5, r6, r7⟩, r8⟩ := cpB src (1 : Int32) b (X2.more (Nat.le_refl _) (by decide)) hx hZ hw hby hml hown e2 N2 O2 Bd.returns hlk (fun t kt => castTop ef (c1 t (c2 t kt)))
  exact ⟨s₂, o, r1, r2, r3, v, L, r4, ⟨b, kb, r5, r6, by rw [r7]; exact K1.trans K2 (fun x hx' => by rw [List.mem_singleton] at hx'; subst hx'; exact Or.inr z1), by rw [r7]; exact O2, z1, by rw [r7]; exact V2⟩, r8⟩
set_option maxRecDepth 65536 in
set_option maxHeartbeats 4000000 in
theorem rmCp2 (l : Launch) (Z : State) (a0 : Array Value) (hw : ∀ d ∈ tables_1, d.before a0 Z = true) (src : Nat) (ks : ClassId) (va vb vc vd : Int32) (h0 : Heap) (n0 : Nat) (O0 : Old Z n0 h0) (V : Arv Z h0 src ks .int (4 : Int32) [(.int va), (.int vb), (.int vc), (.int vd)] (.int (0 : Int32))) (E : Exa Z h0 src "[I") :
    MetFree l (⟨"java/util/Arrays", "copyOf", "([II)[I"⟩ : MethodName) (head1 [Jvm.Cond.code (⟨"java/util/Arrays", "copyOf", "([II)[I"⟩ : MethodName) jdk_65_method_123_code 3 (some (.array .int))] RCp) (fun a U => a = #[(.ref src), (.int (2 : Int32))] ∧ Z.Warmed39 U.vm ∧ U.heap = h0) (fun _ _ _ _ _ => True) (fun _ U o U' => ∃ v L, o = .returned v ∧ QCp Z (2 : Int32) [(.int va), (.int vb)] h0 n0 v U'.heap L ∧ FrameEnd U o U' L RCp.cells RCp.slots) := by
  refine MetFree.of_bodySF (plainFor_of_name pnArr) hisR ?_
  intro p e s m args below meth c s₁ Bd hml0 hP hK
  obtain ⟨rfl, hZ, hh⟩ := hP
  have hx := Bd.exec
  have hby := Bd.bytes
  have hml : c.maxLocals = 3 := hml0
  have hown : s.vm.findClass "java/util/Arrays" = some m.cls := findClass_of_methodNamed Bd.named
  have hlk := BodyLoose.notSynchronized Bd
  have X0 : Stand p l e RCp s m #[(.ref src), (.int (2 : Int32))] below meth c s₁ [] 0 0 := Stand.of_body Bd
  have e0 : s₁.heap = h0 := by rw [← hh, Bd.state]; rfl
  have ef : entryFrame m #[(.ref src), (.int (2 : Int32))] 3 = mkF m 0 #[.val (.ref src), .val (.int (2 : Int32)), .unset] [] := by first | (simp [entryFrame, mkF, argsToLocals, Value.category]; done) | rfl
  obtain ⟨T1, L1, b, kb, X1, N1, K1, O1, z1, V1, E1, -, c1⟩ := cpA2 src ks va vb vc vd X0 hx hZ hw hby hml hown e0 (Fr.nil n0) O0 V
  have hgb : n0 ≤ b := Nat.le_trans (own_n0 O0) z1
  obtain ⟨T2, h2, L2, X2, e2, N2, K2, V2, c2⟩ := cpA X1 hx hZ hown (hw _ (List.mem_of_getElem? (i := 73) rfl)) (hw _ (List.mem_of_getElem? (i := 76) rfl)) (hw _ (List.mem_of_getElem? (i := 74) rfl)) (hw _ (List.mem_of_getElem? (i := 75) rfl)) rfl (V.keep K1 nin0) V1 (sp := (0 : Int32)) (dp := (0 : Int32)) (nn := (2 : Int32)) (us := [(.int va), (.int vb)]) (Or.inl ⟨rfl, rfl⟩) (by decide) (by decide) (by decide) (by decide) (by decide) rfl (by decide) N1 hgb (g := (mkF m 28 #[.val (.ref src), .val (.int (2 : Int32)), .val (.ref b)] [(.int (2 : Int32)), (.int (0 : Int32)), (.ref b), (.int (0 : Int32)), (.ref src)])) rfl (by rw [hml]; rfl) (rest := []) rfl (hb hby dcp28) (by decide) (W := 0) (Nat.le_refl _) (by decide)
  have O2 : Old Z n0 h2 := (Pres.of_keep (lo := n0) K2 (allS hgb all0)).old (Nat.le_refl _) O1
  obtain ⟨s₂, o, r1, r2, r3, v, L, r4, ⟨r5, r6, r7⟩, r8⟩ := cpB src (2 : Int32) b (X2.more (Nat.le_refl _) (by decide)) hx hZ hw hby hml hown e2 N2 O2 Bd.returns hlk (fun t kt => castTop ef (c1 t (c2 t kt)))
  exact ⟨s₂, o, r1, r2, r3, v, L, r4, ⟨b, kb, r5, r6, by rw [r7]; exact K1.trans K2 (fun x hx' => by rw [List.mem_singleton] at hx'; subst hx'; exact Or.inr z1), by rw [r7]; exact O2, z1, by rw [r7]; exact V2⟩, r8⟩
set_option maxRecDepth 65536 in
set_option maxHeartbeats 4000000 in
theorem rmCp3 (l : Launch) (Z : State) (a0 : Array Value) (hw : ∀ d ∈ tables_1, d.before a0 Z = true) (src : Nat) (ks : ClassId) (va vb vc vd : Int32) (h0 : Heap) (n0 : Nat) (O0 : Old Z n0 h0) (V : Arv Z h0 src ks .int (4 : Int32) [(.int va), (.int vb), (.int vc), (.int vd)] (.int (0 : Int32))) (E : Exa Z h0 src "[I") :
    MetFree l (⟨"java/util/Arrays", "copyOf", "([II)[I"⟩ : MethodName) (head1 [Jvm.Cond.code (⟨"java/util/Arrays", "copyOf", "([II)[I"⟩ : MethodName) jdk_65_method_123_code 3 (some (.array .int))] RCp) (fun a U => a = #[(.ref src), (.int (3 : Int32))] ∧ Z.Warmed39 U.vm ∧ U.heap = h0) (fun _ _ _ _ _ => True) (fun _ U o U' => ∃ v L, o = .returned v ∧ QCp Z (3 : Int32) [(.int va), (.int vb), (.int vc)] h0 n0 v U'.heap L ∧ FrameEnd U o U' L RCp.cells RCp.slots) := by
  refine MetFree.of_bodySF (plainFor_of_name pnArr) hisR ?_
  intro p e s m args below meth c s₁ Bd hml0 hP hK
  obtain ⟨rfl, hZ, hh⟩ := hP
  have hx := Bd.exec
  have hby := Bd.bytes
  have hml : c.maxLocals = 3 := hml0
  have hown : s.vm.findClass "java/util/Arrays" = some m.cls := findClass_of_methodNamed Bd.named
  have hlk := BodyLoose.notSynchronized Bd
  have X0 : Stand p l e RCp s m #[(.ref src), (.int (3 : Int32))] below meth c s₁ [] 0 0 := Stand.of_body Bd
  have e0 : s₁.heap = h0 := by rw [← hh, Bd.state]; rfl
  have ef : entryFrame m #[(.ref src), (.int (3 : Int32))] 3 = mkF m 0 #[.val (.ref src), .val (.int (3 : Int32)), .unset] [] := by first | (simp [entryFrame, mkF, argsToLocals, Value.category]; done) | rfl
  obtain ⟨T1, L1, b, kb, X1, N1, K1, O1, z1, V1, E1, -, c1⟩ := cpA3 src ks va vb vc vd X0 hx hZ hw hby hml hown e0 (Fr.nil n0) O0 V
  have hgb : n0 ≤ b := Nat.le_trans (own_n0 O0) z1
  obtain ⟨T2, h2, L2, X2, e2, N2, K2, V2, c2⟩ := cpA X1 hx hZ hown (hw _ (List.mem_of_getElem? (i := 73) rfl)) (hw _ (List.mem_of_getElem? (i := 76) rfl)) (hw _ (List.mem_of_getElem? (i := 74) rfl)) (hw _ (List.mem_of_getElem? (i := 75) rfl)) rfl (V.keep K1 nin0) V1 (sp := (0 : Int32)) (dp := (0 : Int32)) (nn := (3 : Int32)) (us := [(.int va), (.int vb), (.int vc)]) (Or.inl ⟨rfl, rfl⟩) (by decide) (by decide) (by decide) (by decide) (by decide) rfl (by decide) N1 hgb (g := (mkF m 28 #[.val (.ref src), .val (.int (3 : Int32)), .val (.ref b)] [(.int (3 : Int32)), (.int (0 : Int32)), (.ref b), (.int (0 : Int32)), (.ref src)])) rfl (by rw [hml]; rfl) (rest := []) rfl (hb hby dcp28) (by decide) (W := 0) (Nat.le_refl _) (by decide)
  have O2 : Old Z n0 h2 := (Pres.of_keep (lo := n0) K2 (allS hgb all0)).old (Nat.le_refl _) O1
  obtain ⟨s₂, o, r1, r2, r3, v, L, r4, ⟨r5, r6, r7⟩, r8⟩ := cpB src (3 : Int32) b (X2.more (Nat.le_refl _) (by decide)) hx hZ hw hby hml hown e2 N2 O2 Bd.returns hlk (fun t kt => castTop ef (c1 t (c2 t kt)))
  exact ⟨s₂, o, r1, r2, r3, v, L, r4, ⟨b, kb, r5, r6, by rw [r7]; exact K1.trans K2 (fun x hx' => by rw [List.mem_singleton] at hx'; subst hx'; exact Or.inr z1), by rw [r7]; exact O2, z1, by rw [r7]; exact V2⟩, r8⟩
set_option maxRecDepth 65536 in
set_option maxHeartbeats 4000000 in
theorem rmCp4 (l : Launch) (Z : State) (a0 : Array Value) (hw : ∀ d ∈ tables_1, d.before a0 Z = true) (src : Nat) (ks : ClassId) (va vb vc vd : Int32) (h0 : Heap) (n0 : Nat) (O0 : Old Z n0 h0) (V : Arv Z h0 src ks .int (4 : Int32) [(.int va), (.int vb), (.int vc), (.int vd)] (.int (0 : Int32))) (E : Exa Z h0 src "[I") :
    MetFree l (⟨"java/util/Arrays", "copyOf", "([II)[I"⟩ : MethodName) (head1 [Jvm.Cond.code (⟨"java/util/Arrays", "copyOf", "([II)[I"⟩ : MethodName) jdk_65_method_123_code 3 (some (.array .int))] RCp) (fun a U => a = #[(.ref src), (.int (4 : Int32))] ∧ Z.Warmed39 U.vm ∧ U.heap = h0) (fun _ _ _ _ _ => True) (fun _ U o U' => ∃ v L, o = .returned v ∧ QCp Z (4 : Int32) [(.int va), (.int vb), (.int vc), (.int vd)] h0 n0 v U'.heap L ∧ FrameEnd U o U' L RCp.cells RCp.slots) := by
  refine MetFree.of_bodySF (plainFor_of_name pnArr) hisR ?_
  intro p e s m args below meth c s₁ Bd hml0 hP hK
  obtain ⟨rfl, hZ, hh⟩ := hP
  have hx := Bd.exec
  have hby := Bd.bytes
  have hml : c.maxLocals = 3 := hml0
  have hown : s.vm.findClass "java/util/Arrays" = some m.cls := findClass_of_methodNamed Bd.named
  have hlk := BodyLoose.notSynchronized Bd
  have X0 : Stand p l e RCp s m #[(.ref src), (.int (4 : Int32))] below meth c s₁ [] 0 0 := Stand.of_body Bd
  have e0 : s₁.heap = h0 := by rw [← hh, Bd.state]; rfl
  have ef : entryFrame m #[(.ref src), (.int (4 : Int32))] 3 = mkF m 0 #[.val (.ref src), .val (.int (4 : Int32)), .unset] [] := by first | (simp [entryFrame, mkF, argsToLocals, Value.category]; done) | rfl
  obtain ⟨T1, L1, X1, N1, e1, c1⟩ := cpC src ks va vb vc vd X0 hx hZ hw hby hml hown e0 (Fr.nil n0) O0 V
  obtain ⟨cl, A, q1, S, q3, H, G⟩ := id V
  have FC : FitC Z cl := fitC_of A fun i hi v hv => by rw [H i hi] at hv; cases hv; exact G i hi
  obtain ⟨T2, h2, X2, e2, Ex, A2, E2, c2⟩ := cloneA X1 hx hZ hown (hw _ (List.mem_of_getElem? (i := 80) rfl)) (hw _ (List.mem_of_getElem? (i := 81) rfl)) (hw _ (List.mem_of_getElem? (i := 85) rfl)) (hw _ (List.mem_of_getElem? (i := 83) rfl)) (hw _ (List.mem_of_getElem? (i := 84) rfl)) (hw _ (List.mem_of_getElem? (i := 86) rfl)) e1 A E FC (g := (mkF m 7 #[.val (.ref src), .val (.int (4 : Int32)), .unset] [(.ref src)])) rfl (by rw [hml]; rfl) (rest := []) rfl (hb hby dcp7) (by decide) (W := 0) (cap := 4) (Nat.le_refl _) (by decide) (by rw [S]; decide) (by decide) (by decide)
  have O2 : Old Z n0 h2 := O0.ext Ex
  obtain ⟨s₂, o, r1, r2, r3, v, L, r4, ⟨r5, r6, r7⟩, r8⟩ := cpD src (4 : Int32) h0.size X2 hx hZ hw hby hml hown e2 N1 O2 E2 Bd.returns hlk (fun t kt => castTop ef (c1 t (c2 t kt)))
  exact ⟨s₂, o, r1, r2, r3, v, L, r4, ⟨h0.size, ks, r5, r6, by rw [r7]; exact (Keep.refl h0 []).ext Ex, by rw [r7]; exact O2, Nat.le_refl _, by rw [r7]; exact ⟨cloneOf cl, A2, q1, S, q3, H, G⟩⟩, r8⟩
abbrev RTk : Room := { frames := 2, cells := 1, slots := 4, locals := 60 }
set_option maxRecDepth 65536 in
set_option maxHeartbeats 4000000 in
theorem tkLoop {p : Program} {l : Launch} {e : Env} {s : State} {m : MethodId} {args : Array Value} {below : List Frame} {meth : Method} {c : Code} {Z : State} {a0 : Array Value} {n0 : Nat} (hx : p.tables.exec = Jvm.exec) (hZ : Z.Warmed39 s.vm) (hw : ∀ d ∈ tables_1, d.before a0 Z = true) (hby : c.code = prog_59_method_14_code) (hml : c.maxLocals = 6) (hown : s.vm.findClass "com/example/caprice/caprice/solver/Domains" = some m.cls)
    (d u Mk : Nat) (kM : ClassId) (G : List Int32) (g : Gd G) (hgM : n0 ≤ Mk) (hdM : d ≠ Mk) (huM : u ≠ Mk) : ∀ (k j : Nat) (mf : Nat → Int32) (T0 : State) (locs : List Loc) (h0 : Heap) (z5 : Slot), j + k = G.length →
    Stand p l e RTk s m args below meth c T0 locs 1 4 → T0.heap = h0 → Fr n0 locs → Old Z n0 h0 → Exa Z h0 d "com/example/caprice/caprice/solver/Domains" → Fld Z h0 d "com/example/caprice/caprice/solver/Domains" "marked" "[Z" (.ref Mk) → Ars Z h0 Mk kM .boolean 4 (fun i => .int (mf i)) → Lst Z h0 u G → (∀ x, El x → mf x.toNatClampNeg = if x ∈ G.drop j then 1 else 0) → One z5 →
    ∃ (T' : State) (locs' : List Loc) (mf' : Nat → Int32) (z5' : Slot), Stand p l e RTk s m args below meth c T' locs' 1 4 ∧ Fr n0 locs' ∧ Old Z n0 T'.heap ∧ Keep h0 T'.heap [Mk] ∧ Ars Z T'.heap Mk kM .boolean 4 (fun i => .int (mf' i)) ∧ (∀ x, El x → mf' x.toNatClampNeg = 0) ∧ One z5' ∧
      ∀ t, Steps p.tables e below (T'.setTop (mkF m 33 #[.val (.ref d), .val (.ref u), .val (.ref u), .val (.int G.length.toInt32), .val (.int (Int32.ofNat G.length)), z5'] [])) t → Steps p.tables e below (T0.setTop (mkF m 33 #[.val (.ref d), .val (.ref u), .val (.ref u), .val (.int G.length.toInt32), .val (.int (Int32.ofNat j)), z5] [])) t := by
  intro k
  induction k with
  | zero =>
    intro j mf T0 locs h0 z5 hj X0 e0 N0 O0 E F3 AM FU hmf z
    obtain rfl : j = G.length := by omega
    subst e0
    exact ⟨T0, locs, mf, z5, X0, N0, O0, Keep.refl _ _, AM, fun x hx' => by rw [hmf x hx', List.drop_length, if_neg List.not_mem_nil], z, fun t kt => kt⟩
  | succ k ih =>
    intro j mf T0 locs h0 z5 hj X0 e0 N0 O0 E F3 AM FU hmf z
    have hlt : j < G.length := by omega
    obtain ⟨ku, A⟩ := id FU
    have h31 : G.length < 2 ^ 31 := by obtain ⟨_, _, _, _, q, _⟩ := A; exact q
    have cj : (Int32.ofNat j).toNatClampNeg = j := clamp_of rfl (by omega)
    have hdr : G.drop j = G.getD j 0 :: G.drop (j + 1) := by rw [List.drop_eq_getElem_cons hlt, List.getD_eq_getElem?_getD, List.getElem?_eq_getElem hlt]; rfl
    have hw0 : El (G.getD j 0) := g.2 _ (by rw [List.getD_eq_getElem?_getD, List.getElem?_eq_getElem hlt]; exact List.getElem_mem hlt)
    obtain ⟨w, hwe⟩ : ∃ w, w = G.getD j 0 := ⟨_, rfl⟩
    rw [← hwe] at hw0 hdr
    have hnd : w ∉ G.drop (j + 1) := by
      have := g.1.sublist (List.drop_sublist j G)
      rw [hdr] at this
      exact (List.nodup_cons.mp this).1
    obtain ⟨T1, L1, X1, N1, K1, O1, A1, -, c1⟩ := tkT d u G.length.toInt32 (Int32.ofNat j) z5 Mk ku G.length _ kM 4 _ w X0 hx hZ hw hby hml hown e0 N0 O0 E F3 A AM hgM (within rfl hlt h31) (by rw [cj, hwe]) z hw0.rg (own_ltN hlt h31)
    obtain ⟨T2, L2, mf2, z2, X2, N2, O2, K2, A2, m2, z2', c2⟩ := ih (j + 1) (own_upd mf w.toNatClampNeg 0) T1 L1 _ (.val (.int w)) (by omega) X1 rfl N1 O1 (E.keep K1) (F3.keep K1 (ninS hdM nin0)) (A1.congr fun i _ => own_updI _ _ _ _) ⟨ku, A.keep K1 (ninS huM nin0)⟩ (fun x hx' => by
      by_cases y : x = w
      · subst y; rw [own_upd_hit, if_neg hnd]
      · rw [own_upd_miss _ _ (fun t => y (hx'.inj hw0 t)), hmf x hx', hdr]
        by_cases y2 : x ∈ G.drop (j + 1)
        · rw [if_pos y2, if_pos (List.mem_cons_of_mem _ y2)]
        · rw [if_neg y2, if_neg (fun t => (List.mem_cons.mp t).elim y y2)]) (One.val rfl)
    exact ⟨T2, L2, mf2, z2, X2, N2, O2, K1.trans K2 (fun x hx' => Or.inl hx'), A2, m2, z2', fun t kt => c1 t (by have q := c2 t kt; rw [inc_ofNat] at q; exact q)⟩
theorem own_four {P : Nat → Prop} (h0 : P 0) (h1 : P 1) (h2 : P 2) (h3 : P 3) : ∀ i, i < 4 → P i := fun i hi => by
  match i, hi with
  | 0, _ => exact h0
  | 1, _ => exact h1
  | 2, _ => exact h2
  | 3, _ => exact h3
theorem own_arv4 {Z : State} {h : Heap} {a : Nat} {k : ClassId} {f : Nat → Int32} (A : Ars Z h a k .int 4 (fun i => .int (f i))) : Arv Z h a k .int (4 : Int32) [(.int (f 0)), (.int (f 1)), (.int (f 2)), (.int (f 3))] (.int (0 : Int32)) := by
  obtain ⟨c, A, q1, S, q31, H⟩ := A
  refine ⟨c, A, q1, by rw [S]; rfl, by decide, fun i hi => ?_, fun i hi => ?_⟩
  · rw [S] at hi; rw [H i hi]; exact own_four (P := fun i => some (Value.int (f i)) = some (List.getD [(.int (f 0)), (.int (f 1)), (.int (f 2)), (.int (f 3))] i (.int (0 : Int32)))) rfl rfl rfl rfl i hi
  · rw [S] at hi; exact own_four (P := fun i => fits .int (List.getD [(.int (f 0)), (.int (f 1)), (.int (f 2)), (.int (f 3))] i (.int (0 : Int32))) = true) rfl rfl rfl rfl i hi
theorem rmCpG (l : Launch) (Z : State) (a0 : Array Value) (hw : ∀ d ∈ tables_1, d.before a0 Z = true) (src : Nat) (ks : ClassId) (gf : Nat → Int32) (G : List Int32) (h0 : Heap) (n0 : Nat) (O0 : Old Z n0 h0) (A : Ars Z h0 src ks .int 4 (fun i => .int (gf i))) (E : Exa Z h0 src "[I") (hG : G ≠ []) (hl : G.length ≤ 4) (hgf : ∀ i, i < G.length → gf i = G.getD i 0) :
    MetFree l (⟨"java/util/Arrays", "copyOf", "([II)[I"⟩ : MethodName) (head1 [Jvm.Cond.code (⟨"java/util/Arrays", "copyOf", "([II)[I"⟩ : MethodName) jdk_65_method_123_code 3 (some (.array .int))] RCp) (fun a U => a = #[(.ref src), (.int (Int32.ofNat G.length))] ∧ Z.Warmed39 U.vm ∧ U.heap = h0) (fun _ _ _ _ _ => True) (fun _ U o U' => ∃ v L, o = .returned v ∧ QCp Z (Int32.ofNat G.length) (G.map Value.int) h0 n0 v U'.heap L ∧ FrameEnd U o U' L RCp.cells RCp.slots) := by
  have V := own_arv4 A
  match G, hG, hl, hgf with
  | [a], _, _, hgf =>
    have q0 : gf 0 = a := hgf 0 (by simp)
    rw [q0] at V; exact rmCp1 l Z a0 hw src ks _ _ _ _ h0 n0 O0 V E
  | [a, b], _, _, hgf =>
    have q0 : gf 0 = a := hgf 0 (by simp)
    have q1 : gf 1 = b := hgf 1 (by simp)
    rw [q0, q1] at V; exact rmCp2 l Z a0 hw src ks _ _ _ _ h0 n0 O0 V E
  | [a, b, c], _, _, hgf =>
    have q0 : gf 0 = a := hgf 0 (by simp)
    have q1 : gf 1 = b := hgf 1 (by simp)
    have q2 : gf 2 = c := hgf 2 (by simp)
    rw [q0, q1, q2] at V; exact rmCp3 l Z a0 hw src ks _ _ _ _ h0 n0 O0 V E
  | [a, b, c, d], _, _, hgf =>
    have q0 : gf 0 = a := hgf 0 (by simp)
    have q1 : gf 1 = b := hgf 1 (by simp)
    have q2 : gf 2 = c := hgf 2 (by simp)
    have q3 : gf 3 = d := hgf 3 (by simp)
    rw [q0, q1, q2, q3] at V; exact rmCp4 l Z a0 hw src ks _ _ _ _ h0 n0 O0 V E
  | _ :: _ :: _ :: _ :: _ :: _, _, hl, _ => exact absurd hl (by simp)
def UQ (Z : State) (w : Nat) (h : Heap) (u : Nat) (G : List Int32) : Prop := (G = [] ∧ u = w) ∨ (G ≠ [] ∧ ∃ ku : ClassId, Arv Z h u ku .int (Int32.ofNat G.length) (G.map Value.int) (.int (0 : Int32)))
def QTk (Z : State) (w d lo : Nat) (M : Nat → Nat → Value) (G : List Int32) (h0 : Heap) (n0 : Nat) (v : Option Value) (h : Heap) (L : List Loc) : Prop := ∃ u : Nat, v = some (.ref u) ∧ Fr n0 L ∧ Pres lo h0 h ∧ Old Z n0 h ∧ Gs Z h d lo M [] ∧ UQ Z w h u G
set_option maxRecDepth 65536 in
set_option maxHeartbeats 4000000 in
theorem rmTake (l : Launch) (Z : State) (a0 : Array Value) (hw : ∀ d ∈ tables_1, d.before a0 Z = true) (w_FOR_GOOD : Addr) (cl_w_FOR_GOOD : Cell) (HW : World Z w_FOR_GOOD cl_w_FOR_GOOD) (d lo : Nat) (M : Nat → Nat → Value) (G : List Int32) (h0 : Heap) (n0 : Nat) (O0 : Old Z n0 h0) (hlo : n0 ≤ lo) (D : Gs Z h0 d lo M G) (g : Gd G) :
    MetFree l (⟨"com/example/caprice/caprice/solver/Domains", "takeGathered", "()[I"⟩ : MethodName) (head1 [Jvm.Cond.code (⟨"com/example/caprice/caprice/solver/Domains", "takeGathered", "()[I"⟩ : MethodName) prog_59_method_14_code 6 (some (.array .int))] RTk) (fun a U => a = #[(.ref d)] ∧ Z.Warmed39 U.vm ∧ U.heap = h0) (fun _ _ _ _ _ => True) (fun _ U o U' => ∃ v L, o = .returned v ∧ QTk Z w_FOR_GOOD d lo M G h0 n0 v U'.heap L ∧ FrameEnd U o U' L RTk.cells RTk.slots) := by
  obtain ⟨R, Ga, Mk, X, kR, kG, kM, kX, gf, mf, ⟨o1, o2, o3, o4, o5⟩, E, EG, F1, F2, F3, F4, AR, AX, AG, AM, hgf, hmf⟩ := D
  by_cases hG : G = []
  · subst hG
    refine (rm7_37 l Z a0 hw [] w_FOR_GOOD cl_w_FOR_GOOD d R Ga Mk _ h0 n0 (own_n0 O0) O0 HW E F1 F2 F3 F4 (by omega) rfl).imp ?_
    rintro a U o U' ⟨v, L, rfl, ⟨rfl, N1, K1, O1, E', F1', F2', F3', F4', -⟩, hF⟩
    refine ⟨_, L, rfl, ⟨w_FOR_GOOD, rfl, N1, Pres.of_keep K1 (allS o1 all0), O1, ⟨R, Ga, Mk, X, kR, kG, kM, kX, gf, mf, ⟨o1, o2, o3, o4, o5⟩, E', EG.keep K1, F1', F2', F3', F4', AR.keep K1 (ninS (own_nlt (by omega)) nin0), fun i hi => ?_, AG.keep K1 (ninS (own_nlt (by omega)) nin0), AM.keep K1 (ninS (own_nlt (by omega)) nin0), hgf, hmf⟩, Or.inl ⟨rfl, rfl⟩⟩, hF⟩
    obtain ⟨y1, y2⟩ := o3 i hi
    exact (AX i hi).keep K1 (ninS (own_nlt (by omega)) nin0)
  · have hl : G.length ≤ 4 := by rw [g.len]; exact cnt_le G
    have hpos : 0 < G.length := List.length_pos_iff.mpr hG
    refine MetFree.of_bodySF (plainFor_of_name pn72) hisR ?_
    intro p e s m args below meth c s₁ Bd hml0 hP hK
    obtain ⟨rfl, hZ, hh⟩ := hP
    have hx := Bd.exec
    have hby := Bd.bytes
    have hml : c.maxLocals = 6 := hml0
    have hown : s.vm.findClass "com/example/caprice/caprice/solver/Domains" = some m.cls := findClass_of_methodNamed Bd.named
    have hlk := BodyLoose.notSynchronized Bd
    have X0 : Stand p l e RTk s m #[(.ref d)] below meth c s₁ [] 0 0 := Stand.of_body Bd
    have e0 : s₁.heap = h0 := by rw [← hh, Bd.state]; rfl
    have ef : entryFrame m #[(.ref d)] 6 = mkF m 0 #[.val (.ref d), .unset, .unset, .unset, .unset, .unset] [] := by first | (simp [entryFrame, mkF, argsToLocals, Value.category]; done) | rfl
    have cz : (Int32.ofNat G.length).toNatClampNeg = G.length := clamp_of rfl (by omega)
    have hnz : ¬ (Int32.ofNat G.length = (0 : Int32)) := fun z => by
      have q := congrArg Int32.toNatClampNeg z
      rw [cz] at q
      have : (0 : Int32).toNatClampNeg = 0 := rfl
      omega
    obtain ⟨T1, L1, X1, N1, e1, c1⟩ := tkA d Ga (Int32.ofNat G.length) X0 hx hZ hw hby hml hown e0 (Fr.nil n0) O0 E F2 F4 hnz
    obtain ⟨T2, _, L2, X2, ⟨u, ku, rfl, N2, K2, O2, z2, V2⟩, c2⟩ := cCp (Ls := #[.val (.ref d), .unset, .unset, .unset, .unset, .unset]) Ga (Int32.ofNat G.length) X1 hx hZ hw hby hml hown e1 rfl (rmCpG l Z a0 hw Ga kG gf G h0 n0 O0 AG EG hG hl hgf) (by decide) (by decide) (by decide) (by decide)
    have FU : Lst Z T2.heap u G := Lst.of_arv V2 cz
    obtain ⟨ku', AU⟩ := id FU
    have lM : Mk < h0.size := AM.lt
    have hu : Mk < u := Nat.lt_of_lt_of_le lM z2
    obtain ⟨T3, L3, X3, N3, e3, c3⟩ := tkB d u ku' G.length _ X2 hx hZ hw hby hml hown rfl (Fr.app N1 N2) O2 AU
    obtain ⟨T4, L4, mf4, z4, X4, N4, O4, K4, A4, m4, z4', c4⟩ := tkLoop hx hZ hw hby hml hown d u Mk kM G g (by omega) (own_nlt (by omega)) (own_nlt (by omega)) G.length 0 mf T3 L3 _ .unset (by omega) X3 e3 N3 O2 (E.keep K2) (F3.keep K2 nin0) (AM.keep K2 nin0) FU (fun x hx' => by rw [hmf x hx']; rfl) One.u
    have K24 : Keep h0 T4.heap [Mk] := ((Keep.refl h0 [Mk]).trans K2 (fun x hx' => by cases hx')).trans K4 (fun x hx' => Or.inl hx')
    have nd : d ∉ [Mk] := ninS (own_nlt (by omega)) nin0
    obtain ⟨T5, L5, X5, N5, K5, O5, E5, F15, F25, F35, F45, -, c5⟩ := tkE d u G.length.toInt32 (Int32.ofNat G.length) z4 R Ga Mk (Int32.ofNat G.length) X4 hx hZ hw hby hml hown rfl N4 O4 (E.keep K24) (F1.keep K24 nd) (F2.keep K24 nd) (F3.keep K24 nd) (F4.keep K24 nd) (by omega) (by rw [Int32.lt_iff_toInt_lt]; exact Int.lt_irrefl _)
    obtain ⟨s₂, o, r1, r2, r3, v, L, r4, ⟨r5, r6, r7⟩, r8⟩ := tkR d u G.length.toInt32 (Int32.ofNat G.length) z4 X5 hx hZ hw hby hml hown rfl N5 O5 Bd.returns hlk (fun t kt => castTop ef (c1 t (c2 t (c3 t (c4 t (c5 t kt))))))
    have K25 : Keep h0 T5.heap [Mk, d] := ((Keep.refl h0 [Mk, d]).trans K24 (fun x hx' => Or.inl (by rw [List.mem_singleton] at hx'; subst hx'; simp))).trans K5 (fun x hx' => Or.inl (by rw [List.mem_singleton] at hx'; subst hx'; simp))
    refine ⟨s₂, o, r1, r2, r3, v, L, r4, ⟨u, r5, r6, ?_, ?_, ?_, ?_⟩, r8⟩
    · rw [r7]; exact Pres.of_keep K25 (allS (show lo ≤ Mk by omega) (allS o1 all0))
    · rw [r7]; exact O5
    · rw [r7]
      refine ⟨R, Ga, Mk, X, kR, kG, kM, kX, gf, mf4, ⟨o1, o2, o3, o4, o5⟩, E5, EG.keep K25, F15, F25, F35, F45, AR.keep K25 (ninS (own_nlt (by omega)) (ninS (own_nlt (by omega)) nin0)), fun i hi => ?_, AG.keep K25 (ninS (own_nlt (by omega)) (ninS (own_nlt (by omega)) nin0)), A4.keep K5 (ninS (own_nlt (by omega)) nin0), fun i hi => absurd hi (Nat.not_lt_zero i), fun x hx' => by rw [m4 x hx']; rfl⟩
      obtain ⟨y1, y2⟩ := o3 i hi
      exact (AX i hi).keep K25 (ninS (own_nlt (by omega)) (ninS (own_nlt (by omega)) nin0))
    · rw [r7]; exact Or.inr ⟨hG, ku, (V2.keep K4 (ninS (own_nlt (by omega)) nin0)).keep K5 (ninS (own_nlt (by omega)) nin0)⟩
abbrev RMk : Room := { frames := 0, cells := 1, slots := 4, locals := 0 }
abbrev RMo : Room := { frames := 1, cells := 0, slots := 0, locals := 14 }
def tk4 (n x0 x1 x2 x3 : Int32) : List Int32 := [x0, x1, x2, x3].take n.toNatClampNeg
theorem tk4_el {n x0 x1 x2 x3 : Int32} (h0 : El x0) (h1 : El x1) (h2 : El x2) (h3 : El x3) : ∀ x ∈ tk4 n x0 x1 x2 x3, El x := by
  intro x hx
  have q := List.mem_of_mem_take hx
  simp only [List.mem_cons, List.not_mem_nil, or_false] at q
  rcases q with rfl | rfl | rfl | rfl <;> assumption
def QMk (Z : State) (xs : List Int32) (h0 : Heap) (n0 : Nat) (v : Option Value) (h : Heap) (L : List Loc) : Prop := ∃ b : Nat, v = some (.ref b) ∧ Fr n0 L ∧ Keep h0 h [] ∧ Old Z n0 h ∧ h0.size ≤ b ∧ Exa Z h b "[I" ∧ Lst Z h b xs
theorem rmMake (l : Launch) (Z : State) (a0 : Array Value) (hw : ∀ d ∈ tables_1, d.before a0 Z = true) (n x0 x1 x2 x3 : Int32) (hn : n = 0 ∨ n = 1 ∨ n = 2 ∨ n = 3 ∨ n = 4) (h0 : Heap) (n0 : Nat) (O0 : Old Z n0 h0) :
    MetFree l (⟨"com/example/caprice/caprice/solver/DomainsGatherReasonsPinLaw", "make", "(IIIII)[I"⟩ : MethodName) (head1 [Jvm.Cond.code (⟨"com/example/caprice/caprice/solver/DomainsGatherReasonsPinLaw", "make", "(IIIII)[I"⟩ : MethodName) method_3_code 5 (some (.array .int))] RMk) (fun a U => a = #[(.int n), (.int x0), (.int x1), (.int x2), (.int x3)] ∧ Z.Warmed39 U.vm ∧ U.heap = h0) (fun _ _ _ _ _ => True) (fun _ U o U' => ∃ v L, o = .returned v ∧ QMk Z (tk4 n x0 x1 x2 x3) h0 n0 v U'.heap L ∧ FrameEnd U o U' L RMk.cells RMk.slots) := by
  rcases hn with rfl | rfl | rfl | rfl | rfl
  · refine (rm1_3 l Z a0 hw [] x0 x1 x2 x3 h0 n0 (own_n0 O0) O0).imp ?_
    rintro a U o U' ⟨v, L, rfl, ⟨b, kb, rfl, N1, K1, O1, z, V, E, -⟩, hF⟩
    exact ⟨_, L, rfl, ⟨b, rfl, N1, K1, O1, z, E, Lst.of_arv (xs := []) V rfl⟩, hF⟩
  · refine (rm1_4 l Z a0 hw [] x0 x1 x2 x3 h0 n0 (own_n0 O0) O0).imp ?_
    rintro a U o U' ⟨v, L, rfl, ⟨b, kb, rfl, N1, K1, O1, z, V, E, -⟩, hF⟩
    exact ⟨_, L, rfl, ⟨b, rfl, N1, K1, O1, z, E, Lst.of_arv (xs := [x0]) V rfl⟩, hF⟩
  · refine (rm1_5 l Z a0 hw [] x0 x1 x2 x3 h0 n0 (own_n0 O0) O0).imp ?_
    rintro a U o U' ⟨v, L, rfl, ⟨b, kb, rfl, N1, K1, O1, z, V, E, -⟩, hF⟩
    exact ⟨_, L, rfl, ⟨b, rfl, N1, K1, O1, z, E, Lst.of_arv (xs := [x0, x1]) V rfl⟩, hF⟩
  · refine (rm1_6 l Z a0 hw [] x0 x1 x2 x3 h0 n0 (own_n0 O0) O0).imp ?_
    rintro a U o U' ⟨v, L, rfl, ⟨b, kb, rfl, N1, K1, O1, z, V, E, -⟩, hF⟩
    exact ⟨_, L, rfl, ⟨b, rfl, N1, K1, O1, z, E, Lst.of_arv (xs := [x0, x1, x2]) V rfl⟩, hF⟩
  · refine (rm1_7 l Z a0 hw [] x0 x1 x2 x3 h0 n0 (own_n0 O0) O0).imp ?_
    rintro a U o U' ⟨v, L, rfl, ⟨b, kb, rfl, N1, K1, O1, z, V, E, -⟩, hF⟩
    exact ⟨_, L, rfl, ⟨b, rfl, N1, K1, O1, z, E, Lst.of_arv (xs := [x0, x1, x2, x3]) V rfl⟩, hF⟩
theorem rmBits (l : Launch) (Z : State) (a0 : Array Value) (hw : ∀ d ∈ tables_1, d.before a0 Z = true) (n x0 x1 x2 x3 : Int32) (hn : n = 0 ∨ n = 1 ∨ n = 2 ∨ n = 3 ∨ n = 4) (h0 : Heap) (n0 : Nat) (O0 : Old Z n0 h0) :
    MetFree l (⟨"com/example/caprice/caprice/solver/DomainsGatherReasonsPinLaw", "bits", "(IIIII)I"⟩ : MethodName) (head1 [Jvm.Cond.code (⟨"com/example/caprice/caprice/solver/DomainsGatherReasonsPinLaw", "bits", "(IIIII)I"⟩ : MethodName) method_4_code 6 (some .int)] R0) (fun a U => a = #[(.int n), (.int x0), (.int x1), (.int x2), (.int x3)] ∧ Z.Warmed39 U.vm ∧ U.heap = h0) (fun _ _ _ _ _ => True) (fun _ U o U' => ∃ v L, o = .returned v ∧ QV (some (.int (ms (tk4 n x0 x1 x2 x3)))) h0 n0 v U'.heap L ∧ FrameEnd U o U' L R0.cells R0.slots) := by
  rcases hn with rfl | rfl | rfl | rfl | rfl
  · exact rm9_8 l Z a0 hw [] x0 x1 x2 x3 h0 n0 (own_n0 O0) O0
  · exact rm9_9 l Z a0 hw [] x0 x1 x2 x3 h0 n0 (own_n0 O0) O0
  · exact rm9_10 l Z a0 hw [] x0 x1 x2 x3 h0 n0 (own_n0 O0) O0
  · exact rm9_11 l Z a0 hw [] x0 x1 x2 x3 h0 n0 (own_n0 O0) O0
  · exact rm9_12 l Z a0 hw [] x0 x1 x2 x3 h0 n0 (own_n0 O0) O0
theorem rmMaskOf (l : Launch) (Z : State) (a0 : Array Value) (hw : ∀ d ∈ tables_1, d.before a0 Z = true) (w_FOR_GOOD : Addr) (cl_w_FOR_GOOD : Cell) (HW : World Z w_FOR_GOOD cl_w_FOR_GOOD) (u : Nat) (G : List Int32) (h0 : Heap) (n0 : Nat) (O0 : Old Z n0 h0) (Q : UQ Z w_FOR_GOOD h0 u G) (g : Gd G) :
    MetFree l (⟨"com/example/caprice/caprice/solver/DomainsGatherReasonsPinLaw", "maskOf", "([I)I"⟩ : MethodName) (head1 [Jvm.Cond.code (⟨"com/example/caprice/caprice/solver/DomainsGatherReasonsPinLaw", "maskOf", "([I)I"⟩ : MethodName) method_6_code 3 (some .int)] RMo) (fun a U => a = #[(.ref u)] ∧ Z.Warmed39 U.vm ∧ U.heap = h0) (fun _ _ _ _ _ => True) (fun _ U o U' => ∃ v L, o = .returned v ∧ QV (some (.int (ms G))) h0 n0 v U'.heap L ∧ FrameEnd U o U' L RMo.cells RMo.slots) := by
  have hl : G.length ≤ 4 := by rw [g.len]; exact cnt_le G
  rcases Q with ⟨rfl, rfl⟩ | ⟨hG, ku, A⟩
  · exact rm8_38 l Z a0 hw [] u cl_w_FOR_GOOD h0 n0 (own_n0 O0) O0 HW
  · obtain ⟨g1, g2⟩ := g
    rcases G with _ | ⟨va, _ | ⟨vb, _ | ⟨vc, _ | ⟨vd, _ | ⟨ve, G⟩⟩⟩⟩⟩
    · exact absurd rfl hG
    · have e_va : El va := g2 va (by simp)
      have k1 : Msk ((0 : Int32) ||| bt va) := msk_add msk_0 e_va
      exact rm8_14 l Z a0 hw [] u ku va h0 n0 (own_n0 O0) O0 A e_va.nn e_va.le e_va.z
    · have e_va : El va := g2 va (by simp)
      have e_vb : El vb := g2 vb (by simp)
      simp only [List.nodup_cons, List.mem_cons, List.not_mem_nil, or_false, not_or, List.nodup_nil, not_false_eq_true, and_true] at g1
      have n01 := g1
      have k1 : Msk ((0 : Int32) ||| bt va) := msk_add msk_0 e_va
      exact rm8_16 l Z a0 hw [] u ku va vb h0 n0 (own_n0 O0) O0 A e_va.nn e_va.le e_va.z (msk_nn k1) e_vb.nn e_vb.le (msk_dis msk_0 e_va e_vb n01 e_vb.z)
    · have e_va : El va := g2 va (by simp)
      have e_vb : El vb := g2 vb (by simp)
      have e_vc : El vc := g2 vc (by simp)
      simp only [List.nodup_cons, List.mem_cons, List.not_mem_nil, or_false, not_or, List.nodup_nil, not_false_eq_true, and_true] at g1
      obtain ⟨⟨n01, n02⟩, n12⟩ := g1
      have k1 : Msk ((0 : Int32) ||| bt va) := msk_add msk_0 e_va
      have k2 : Msk (((0 : Int32) ||| bt va) ||| bt vb) := msk_add k1 e_vb
      exact rm8_17 l Z a0 hw [] u ku va vb vc h0 n0 (own_n0 O0) O0 A e_va.nn e_va.le e_va.z (msk_nn k1) e_vb.nn e_vb.le (msk_dis msk_0 e_va e_vb n01 e_vb.z) (msk_nn k2) e_vc.nn e_vc.le (msk_dis k1 e_vb e_vc n12 (msk_dis msk_0 e_va e_vc n02 e_vc.z))
    · have e_va : El va := g2 va (by simp)
      have e_vb : El vb := g2 vb (by simp)
      have e_vc : El vc := g2 vc (by simp)
      have e_vd : El vd := g2 vd (by simp)
      simp only [List.nodup_cons, List.mem_cons, List.not_mem_nil, or_false, not_or, List.nodup_nil, not_false_eq_true, and_true] at g1
      obtain ⟨⟨n01, n02, n03⟩, ⟨n12, n13⟩, n23⟩ := g1
      have k1 : Msk ((0 : Int32) ||| bt va) := msk_add msk_0 e_va
      have k2 : Msk (((0 : Int32) ||| bt va) ||| bt vb) := msk_add k1 e_vb
      have k3 : Msk ((((0 : Int32) ||| bt va) ||| bt vb) ||| bt vc) := msk_add k2 e_vc
      exact rm8_18 l Z a0 hw [] u ku va vb vc vd h0 n0 (own_n0 O0) O0 A e_va.nn e_va.le e_va.z (msk_nn k1) e_vb.nn e_vb.le (msk_dis msk_0 e_va e_vb n01 e_vb.z) (msk_nn k2) e_vc.nn e_vc.le (msk_dis k1 e_vb e_vc n12 (msk_dis msk_0 e_va e_vc n02 e_vc.z)) (msk_nn k3) e_vd.nn e_vd.le (msk_dis k2 e_vc e_vd n23 (msk_dis k1 e_vb e_vd n13 (msk_dis msk_0 e_va e_vd n03 e_vd.z)))
    · exact absurd hl (by simp)
def Dm2 (Z : State) (h : Heap) (d lo : Nat) (M : Nat → Nat → Value) (ts : Nat) : Prop :=
  ∃ (R Lf Lm Tr Ga Mk : Nat) (X : Nat → Nat) (kR : ClassId) (kX : Nat → ClassId) (kL kJ kT kG kM : ClassId) (lf : Nat → Int32) (lm : Nat → Int64) (tr : Nat → Int32),
    (lo ≤ d ∧ d < R ∧ R < Lf ∧ Lf < Lm ∧ Lm < Tr ∧ (∀ i, i < 4 → Lm < X i ∧ X i < Tr) ∧ (∀ i j, i < j → j < 4 → X i < X j) ∧ Tr < Ga ∧ Ga < Mk) ∧ (∀ i, i < 4 → OvrA Z (kX i) .int "[I") ∧
    Exa Z h d "com/example/caprice/caprice/solver/Domains" ∧ Exa Z h Ga "[I" ∧ Fld Z h d "com/example/caprice/caprice/solver/Domains" "reasons" "[[[I" (.ref R) ∧ Fld Z h d "com/example/caprice/caprice/solver/Domains" "left" "[I" (.ref Lf) ∧ Fld Z h d "com/example/caprice/caprice/solver/Domains" "leftMasks" "[J" (.ref Lm) ∧ Fld Z h d "com/example/caprice/caprice/solver/Domains" "trail" "[I" (.ref Tr) ∧ Fld Z h d "com/example/caprice/caprice/solver/Domains" "trailSize" "I" (.int (Int32.ofNat ts)) ∧ Fld Z h d "com/example/caprice/caprice/solver/Domains" "gathered" "[I" (.ref Ga) ∧ Fld Z h d "com/example/caprice/caprice/solver/Domains" "marked" "[Z" (.ref Mk) ∧ Fld Z h d "com/example/caprice/caprice/solver/Domains" "gatheredCount" "I" (.int (0 : Int32)) ∧
    Ars Z h R kR (.array (.array .int)) 4 (fun i => .ref (X i)) ∧ (∀ i, i < 4 → Ars Z h (X i) (kX i) (.array .int) 2 (M i)) ∧ Ars Z h Lf kL .int 4 (fun i => .int (lf i)) ∧ Ars Z h Lm kJ .long 4 (fun i => .long (lm i)) ∧ Ars Z h Tr kT .int 16 (fun i => .int (tr i)) ∧ Ars Z h Ga kG .int 4 (fun _ => .int 0) ∧ Ars Z h Mk kM .boolean 4 (fun _ => .int 0)
theorem Dm2.exa {Z : State} {h : Heap} {d lo : Nat} {M : Nat → Nat → Value} {ts : Nat} (D : Dm2 Z h d lo M ts) : Exa Z h d "com/example/caprice/caprice/solver/Domains" := by obtain ⟨R, Lf, Lm, Tr, Ga, Mk, X, kR, kX, kL, kJ, kT, kG, kM, lf, lm, tr, ord, OX, E, r⟩ := D; exact E
theorem Gs.exa {Z : State} {h : Heap} {d lo : Nat} {M : Nat → Nat → Value} {G : List Int32} (D : Gs Z h d lo M G) : Exa Z h d "com/example/caprice/caprice/solver/Domains" := by obtain ⟨R, Ga, Mk, X, kR, kG, kM, kX, gf, mf, ord, E, r⟩ := D; exact E
theorem Dm2.gs {Z : State} {h : Heap} {d lo : Nat} {M : Nat → Nat → Value} {ts : Nat} (D : Dm2 Z h d lo M ts) : Gs Z h d lo M [] := by
  obtain ⟨R, Lf, Lm, Tr, Ga, Mk, X, kR, kX, kL, kJ, kT, kG, kM, lf, lm, tr, ⟨o1, o2, o3, o4, o5, o6, o7, o8, o9⟩, OX, E, EG, F1, F2, F3, F4, F5, F6, F7, F8, AR, AX, AL, AJ, AT, AG, AM⟩ := D
  exact ⟨R, Ga, Mk, X, kR, kG, kM, kX, fun _ => 0, fun _ => 0, ⟨o1, o2, fun i hi => by obtain ⟨y1, y2⟩ := o6 i hi; omega, by omega, o9⟩, E, EG, F1, F6, F7, F8, AR, AX, AG, AM, fun i hi => absurd hi (Nat.not_lt_zero i), fun x _ => rfl⟩
def QD2 (Z : State) (d lo : Nat) (M : Nat → Nat → Value) (ts : Nat) (h0 : Heap) (n0 : Nat) (v : Option Value) (h : Heap) (L : List Loc) : Prop := v = none ∧ Fr n0 L ∧ Pres lo h0 h ∧ Old Z n0 h ∧ Dm2 Z h d lo M ts
set_option maxRecDepth 65536 in
set_option maxHeartbeats 4000000 in
theorem rmRemove2 (l : Launch) (Z : State) (a0 : Array Value) (hw : ∀ d ∈ tables_1, d.before a0 Z = true) (d : Nat) (dI vI : Int32) (y : Addr) (lo : Nat) (M : Nat → Nat → Value) (ts : Nat) (h0 : Heap) (n0 : Nat) (O0 : Old Z n0 h0) (hlo : n0 ≤ lo) (D : Dm2 Z h0 d lo M ts)
    (hd : ¬ (dI < 0 ∨ 4 ≤ dI.toNatClampNeg)) (hv : ¬ (vI < 0 ∨ 2 ≤ vI.toNatClampNeg)) (ht : ts + 1 < 16) (Ey : Exa Z h0 y "[I") :
    MetFree l (⟨"com/example/caprice/caprice/solver/Domains", "remove", "(II[I)V"⟩ : MethodName) (head1 [Jvm.Cond.code (⟨"com/example/caprice/caprice/solver/Domains", "remove", "(II[I)V"⟩ : MethodName) prog_59_method_10_code 4 none] R0) (fun a U => a = #[(.ref d), (.int dI), (.int vI), (.ref y)] ∧ Z.Warmed39 U.vm ∧ U.heap = h0) (fun _ _ _ _ _ => True) (fun _ U o U' => ∃ v L, o = .returned v ∧ QD2 Z d lo (rM M dI.toNatClampNeg vI.toNatClampNeg (.ref y)) (ts + 2) h0 n0 v U'.heap L ∧ FrameEnd U o U' L R0.cells R0.slots) := by
  obtain ⟨R, Lf, Lm, Tr, Ga, Mk, X, kR, kX, kL, kJ, kT, kG, kM, lf, lm, tr, ⟨o1, o2, o3, o4, o5, o6, o7, o8, o9⟩, OX, E, EG, F1, F2, F3, F4, F5, F6, F7, F8, AR, AX, AL, AJ, AT, AG, AM⟩ := D
  have hdN : dI.toNatClampNeg < 4 := Nat.lt_of_not_le fun q => hd (Or.inr q)
  obtain ⟨x1, x2⟩ := o6 _ hdN
  have c0 : (Int32.ofNat ts).toNatClampNeg = ts := clamp_of rfl (by omega)
  have c1 : (Int32.ofNat ts + 1).toNatClampNeg = ts + 1 := clamp_of (inc_ofNat ts).symm (by omega)
  refine (rm5_2 l Z a0 hw [] d dI vI y R Lf Lm Tr (Int32.ofNat ts) Ga Mk 0 kR 4 (fun i => .ref (X i)) (X dI.toNatClampNeg) (kX dI.toNatClampNeg) 2 (M dI.toNatClampNeg) kL (fun i => .int (lf i)) kJ (fun i => .long (lm i)) kT 16 (fun i => .int (tr i)) (lf dI.toNatClampNeg) (lm dI.toNatClampNeg) h0 n0 (own_n0 O0) O0 (OX _ hdN) E F1 F2 F3 F4 F5 F6 F7 F8 AR (AX _ hdN) AL AJ AT Ey (own_nlt (by omega)) (own_nlt (by omega)) (own_nlt (by omega)) (own_nlt (by omega)) (own_nlt (by omega)) (own_nlt (by omega)) (own_nlt (by omega)) (own_nlt (by omega)) (own_nlt (by omega)) (own_nlt (by omega)) (by omega) (by omega) (by omega) (by omega) (by omega) hd rfl hv rfl rfl (within rfl (by omega) (by decide)) (within (inc_ofNat ts).symm (by omega) (by decide))).imp ?_
  rintro a U o U' ⟨v, L, rfl, ⟨rfl, N1, K1, O1, A1, A2, A3, A4, E', F1', F2', F3', F4', F5', F6', F7', F8', -⟩, hF⟩
  have n1 : R ∉ [X dI.toNatClampNeg, Lf, Lm, Tr, d] := ninS (own_nlt (by omega)) (ninS (own_nlt (by omega)) (ninS (own_nlt (by omega)) (ninS (own_nlt (by omega)) (ninS (own_nlt (by omega)) nin0))))
  have n2 : Ga ∉ [X dI.toNatClampNeg, Lf, Lm, Tr, d] := ninS (own_nlt (by omega)) (ninS (own_nlt (by omega)) (ninS (own_nlt (by omega)) (ninS (own_nlt (by omega)) (ninS (own_nlt (by omega)) nin0))))
  have n3 : Mk ∉ [X dI.toNatClampNeg, Lf, Lm, Tr, d] := ninS (own_nlt (by omega)) (ninS (own_nlt (by omega)) (ninS (own_nlt (by omega)) (ninS (own_nlt (by omega)) (ninS (own_nlt (by omega)) nin0))))
  rw [c0, c1] at A4
  refine ⟨_, L, rfl, ⟨rfl, N1, Pres.of_keep K1 (allS (show lo ≤ X dI.toNatClampNeg by omega) (allS (show lo ≤ Lf by omega) (allS (show lo ≤ Lm by omega) (allS (show lo ≤ Tr by omega) (allS o1 all0))))), O1, R, Lf, Lm, Tr, Ga, Mk, X, kR, kX, kL, kJ, kT, kG, kM, own_upd lf dI.toNatClampNeg (lf dI.toNatClampNeg - 1), own_upd lm dI.toNatClampNeg (lm dI.toNatClampNeg &&& (((1 : Int64) <<< (vI &&& 0x3f).toInt64) ^^^ (-1 : Int64))), own_upd (own_upd tr ts dI) (ts + 1) vI, ⟨o1, o2, o3, o4, o5, o6, o7, o8, o9⟩, OX, E', EG.keep K1, F1', F2', F3', F4', ?_, F6', F7', F8', AR.keep K1 n1, fun i hi => ?_, A2.congr fun i _ => own_updI _ _ _ _, A3.congr fun i _ => own_updJ _ _ _ _, A4.congr fun i _ => ?_, AG.keep K1 n2, AM.keep K1 n3⟩, hF⟩
  · rw [inc2_ofNat]; exact F5'
  · by_cases q : i = dI.toNatClampNeg
    · subst q; unfold rM; rw [own_upd_hit]; exact A1
    · unfold rM; rw [own_upd_miss _ _ q]
      obtain ⟨y1, y2⟩ := o6 _ hi
      have q2 := own_ordX o7 hi hdN q
      exact (AX i hi).keep K1 (ninS q2 (ninS (own_nlt (by omega)) (ninS (own_nlt (by omega)) (ninS (own_nlt (by omega)) (ninS (own_nlt (by omega)) nin0)))))
  · rw [show own_upd (fun i => Value.int (tr i)) ts (.int dI) = fun i => Value.int (own_upd tr ts dI i) from funext fun i => own_updI _ _ _ _]
    exact own_updI _ _ _ _
theorem own_two {P : Nat → Prop} (h0 : P 0) (h1 : P 1) : ∀ i, i < 2 → P i := fun i hi => by
  match i, hi with
  | 0, _ => exact h0
  | 1, _ => exact h1
theorem own_16 : ∀ i, i < 16 → ([(.int (0 : Int32)), (.int (0 : Int32)), (.int (0 : Int32)), (.int (0 : Int32)), (.int (0 : Int32)), (.int (0 : Int32)), (.int (0 : Int32)), (.int (0 : Int32)), (.int (0 : Int32)), (.int (0 : Int32)), (.int (0 : Int32)), (.int (0 : Int32)), (.int (0 : Int32)), (.int (0 : Int32)), (.int (0 : Int32)), (.int (0 : Int32))] : List Value).getD i (.int (0 : Int32)) = Value.int 0 := fun i hi => by
  match i, hi with
  | 0, _ => rfl
  | 1, _ => rfl
  | 2, _ => rfl
  | 3, _ => rfl
  | 4, _ => rfl
  | 5, _ => rfl
  | 6, _ => rfl
  | 7, _ => rfl
  | 8, _ => rfl
  | 9, _ => rfl
  | 10, _ => rfl
  | 11, _ => rfl
  | 12, _ => rfl
  | 13, _ => rfl
  | 14, _ => rfl
  | 15, _ => rfl
  | n + 16, h => exact absurd h (by omega)
abbrev RC : Room := { frames := 1, cells := 10, slots := 44, locals := 14 }
def pick4 {α : Type} (a b c d : α) : Nat → α := fun i => if i = 0 then a else if i = 1 then b else if i = 2 then c else d
set_option maxRecDepth 65536 in
set_option maxHeartbeats 4000000 in
theorem rmCon2 (l : Launch) (Z : State) (a0 : Array Value) (hw : ∀ d ∈ tables_1, d.before a0 Z = true) (d sz : Nat) (ks : ClassId) (h0 : Heap) (n0 : Nat) (O0 : Old Z n0 h0) (E : Exa Z h0 d "com/example/caprice/caprice/solver/Domains") (F1 : Fld Z h0 d "com/example/caprice/caprice/solver/Domains" "reasons" "[[[I" .null) (F2 : Fld Z h0 d "com/example/caprice/caprice/solver/Domains" "left" "[I" .null) (F3 : Fld Z h0 d "com/example/caprice/caprice/solver/Domains" "leftMasks" "[J" .null) (F4 : Fld Z h0 d "com/example/caprice/caprice/solver/Domains" "trail" "[I" .null) (F5 : Fld Z h0 d "com/example/caprice/caprice/solver/Domains" "gathered" "[I" .null) (F6 : Fld Z h0 d "com/example/caprice/caprice/solver/Domains" "marked" "[Z" .null) (F7 : Fld Z h0 d "com/example/caprice/caprice/solver/Domains" "trailSize" "I" (.int (0 : Int32))) (F8 : Fld Z h0 d "com/example/caprice/caprice/solver/Domains" "gatheredCount" "I" (.int (0 : Int32))) (V : Arv Z h0 sz ks .int (4 : Int32) [(.int (2 : Int32)), (.int (2 : Int32)), (.int (2 : Int32)), (.int (2 : Int32))] (.int (0 : Int32))) (hne : d ≠ sz) (hg : n0 ≤ d) :
    MetFree l (⟨"com/example/caprice/caprice/solver/Domains", "<init>", "([I)V"⟩ : MethodName) (head1 [Jvm.Cond.code (⟨"com/example/caprice/caprice/solver/Domains", "<init>", "([I)V"⟩ : MethodName) prog_59_method_1_code 5 none] RC) (fun a U => a = #[(.ref d), (.ref sz)] ∧ Z.Warmed39 U.vm ∧ U.heap = h0) (fun _ _ _ _ _ => True) (fun _ U o U' => ∃ v L, o = .returned v ∧ QD2 Z d d (fun _ _ => .null) 0 h0 n0 v U'.heap L ∧ FrameEnd U o U' L RC.cells RC.slots) := by
  have dlt : d < h0.size := E.lt
  refine (rm2_1 l Z a0 hw [] d sz ks h0 n0 (own_n0 O0) O0 E F1 F2 F3 F4 F5 F6 F7 F8 V hne hg).imp ?_
  rintro a U o U' ⟨v, L, rfl, ⟨R, Lf, Lm, X0, X1, X2, X3, Tr, Ga, Mk, kR, kL, kJ, kT, kG, kM, k0, k1, k2, k3, rfl, N1, K1, O1, z1, z2, z3, z4, z5, z6, z7, z8, z9, z10, o1, o2, o3, o4, o5, o6, o7, o8, o9, E', F1', F2', F3', F4', F5', F6', F7', F8', VR, ER, OR, VL, EL, VJ, EJ, VT, ET, VG, EG, VM, EM, V0, E0, O0', V1, E1, O1', V2, E2, O2', V3, E3, O3', -⟩, hF⟩
  have a1 : @LT.lt Nat _ d R := Nat.lt_of_lt_of_le dlt z1
  have b1 : @LT.lt Nat _ R Lf := o1
  have b2 : @LT.lt Nat _ Lf Lm := o2
  have b3 : @LT.lt Nat _ Lm X0 := o3
  have b4 : @LT.lt Nat _ X0 X1 := o4
  have b5 : @LT.lt Nat _ X1 X2 := o5
  have b6 : @LT.lt Nat _ X2 X3 := o6
  have b7 : @LT.lt Nat _ X3 Tr := o7
  have b8 : @LT.lt Nat _ Tr Ga := o8
  have b9 : @LT.lt Nat _ Ga Mk := o9
  have p0 : pick4 X0 X1 X2 X3 0 = X0 := rfl
  have p1 : pick4 X0 X1 X2 X3 1 = X1 := rfl
  have p2 : pick4 X0 X1 X2 X3 2 = X2 := rfl
  have p3 : pick4 X0 X1 X2 X3 3 = X3 := rfl
  refine ⟨_, L, rfl, ⟨rfl, N1, Pres.of_keep K1 (allS (Nat.le_refl d) all0), O1, R, Lf, Lm, Tr, Ga, Mk, pick4 X0 X1 X2 X3, kR, pick4 k0 k1 k2 k3, kL, kJ, kT, kG, kM, fun _ => 2, fun _ => 3, fun _ => 0, ⟨Nat.le_refl d, a1, b1, b2, by omega, own_four (show @LT.lt Nat _ Lm X0 ∧ @LT.lt Nat _ X0 Tr from by omega) (show @LT.lt Nat _ Lm X1 ∧ @LT.lt Nat _ X1 Tr from by omega) (show @LT.lt Nat _ Lm X2 ∧ @LT.lt Nat _ X2 Tr from by omega) (show @LT.lt Nat _ Lm X3 ∧ @LT.lt Nat _ X3 Tr from by omega), ?_, b8, b9⟩, own_four O0' O1' O2' O3', E', EG, F1', F2', F3', F4', F7', F5', F6', F8', (Ars.of_arv VR).congr (own_four rfl rfl rfl rfl), own_four ((Ars.of_arv V0).congr (own_two rfl rfl)) ((Ars.of_arv V1).congr (own_two rfl rfl)) ((Ars.of_arv V2).congr (own_two rfl rfl)) ((Ars.of_arv V3).congr (own_two rfl rfl)), (Ars.of_arv VL).congr (own_four rfl rfl rfl rfl), (Ars.of_arv VJ).congr (own_four rfl rfl rfl rfl), (Ars.of_arv VT).congr (fun i hi => own_16 i hi), (Ars.of_arv VG).congr (own_four rfl rfl rfl rfl), (Ars.of_arv VM).congr (own_four rfl rfl rfl rfl)⟩, hF⟩
  intro i j hij hj
  have q : (i = 0 ∧ j = 1) ∨ (i = 0 ∧ j = 2) ∨ (i = 0 ∧ j = 3) ∨ (i = 1 ∧ j = 2) ∨ (i = 1 ∧ j = 3) ∨ (i = 2 ∧ j = 3) := by omega
  rcases q with ⟨rfl, rfl⟩ | ⟨rfl, rfl⟩ | ⟨rfl, rfl⟩ | ⟨rfl, rfl⟩ | ⟨rfl, rfl⟩ | ⟨rfl, rfl⟩ <;> simp only [p0, p1, p2, p3] <;> omega
theorem own_mask (x : Int32) : (x &&& (3 : Int32)) = (0 : Int32) ∨ (x &&& (3 : Int32)) = (1 : Int32) ∨ (x &&& (3 : Int32)) = (2 : Int32) ∨ (x &&& (3 : Int32)) = (3 : Int32) := by
  have e := Jvm.Kit.i32_mask x (3 : Int32) (k := 2) (by decide) (by decide)
  have h : (x &&& (3 : Int32)).toInt = 0 ∨ (x &&& (3 : Int32)).toInt = 1 ∨ (x &&& (3 : Int32)).toInt = 2 ∨ (x &&& (3 : Int32)).toInt = 3 := by omega
  rcases h with h | h | h | h
  · exact Or.inl (own_inj (h.trans (by decide)))
  · exact Or.inr (Or.inl (own_inj (h.trans (by decide))))
  · exact Or.inr (Or.inr (Or.inl (own_inj (h.trans (by decide)))))
  · exact Or.inr (Or.inr (Or.inr (own_inj (h.trans (by decide)))))
theorem own_mask7 (x : Int32) : (x &&& (7 : Int32)) = (0 : Int32) ∨ (x &&& (7 : Int32)) = (1 : Int32) ∨ (x &&& (7 : Int32)) = (2 : Int32) ∨ (x &&& (7 : Int32)) = (3 : Int32) ∨ (x &&& (7 : Int32)) = (4 : Int32) ∨ (x &&& (7 : Int32)) = (5 : Int32) ∨ (x &&& (7 : Int32)) = (6 : Int32) ∨ (x &&& (7 : Int32)) = (7 : Int32) := by
  have e := Jvm.Kit.i32_mask x (7 : Int32) (k := 3) (by decide) (by decide)
  have h : (x &&& (7 : Int32)).toInt = 0 ∨ (x &&& (7 : Int32)).toInt = 1 ∨ (x &&& (7 : Int32)).toInt = 2 ∨ (x &&& (7 : Int32)).toInt = 3 ∨ (x &&& (7 : Int32)).toInt = 4 ∨ (x &&& (7 : Int32)).toInt = 5 ∨ (x &&& (7 : Int32)).toInt = 6 ∨ (x &&& (7 : Int32)).toInt = 7 := by omega
  rcases h with h | h | h | h | h | h | h | h
  · exact Or.inl (own_inj (h.trans (by decide)))
  · exact Or.inr (Or.inl (own_inj (h.trans (by decide))))
  · exact Or.inr (Or.inr (Or.inl (own_inj (h.trans (by decide)))))
  · exact Or.inr (Or.inr (Or.inr (Or.inl (own_inj (h.trans (by decide))))))
  · exact Or.inr (Or.inr (Or.inr (Or.inr (Or.inl (own_inj (h.trans (by decide)))))))
  · exact Or.inr (Or.inr (Or.inr (Or.inr (Or.inr (Or.inl (own_inj (h.trans (by decide))))))))
  · exact Or.inr (Or.inr (Or.inr (Or.inr (Or.inr (Or.inr (Or.inl (own_inj (h.trans (by decide)))))))))
  · exact Or.inr (Or.inr (Or.inr (Or.inr (Or.inr (Or.inr (Or.inr (own_inj (h.trans (by decide)))))))))
abbrev dI (i : Int32) : Int32 := (i >>> ((1 : Int32) &&& 31))
abbrev vI (i : Int32) : Int32 := (i &&& (1 : Int32))
def Ix (i : Int32) : Prop := ∃ k : Fin 8, i = Int32.ofNat k.val
theorem Ix.rd {i : Int32} (h : Ix i) : ¬ (dI i < 0 ∨ 4 ≤ (dI i).toNatClampNeg) := by
  obtain ⟨k, rfl⟩ := h
  have f : ∀ k : Fin 8, ¬ (dI (Int32.ofNat k.val) < 0 ∨ 4 ≤ (dI (Int32.ofNat k.val)).toNatClampNeg) := by decide +kernel
  exact f k
theorem Ix.rv {i : Int32} (h : Ix i) : ¬ (vI i < 0 ∨ 2 ≤ (vI i).toNatClampNeg) := by
  obtain ⟨k, rfl⟩ := h
  have f : ∀ k : Fin 8, ¬ (vI (Int32.ofNat k.val) < 0 ∨ 2 ≤ (vI (Int32.ofNat k.val)).toNatClampNeg) := by decide +kernel
  exact f k
theorem own_ixne {i j : Int32} (hi : Ix i) (hj : Ix j) (n : i ≠ j) : (dI i).toNatClampNeg ≠ (dI j).toNatClampNeg ∨ (vI i).toNatClampNeg ≠ (vI j).toNatClampNeg := by
  obtain ⟨k, rfl⟩ := hi
  obtain ⟨k', rfl⟩ := hj
  have f : ∀ k k' : Fin 8, Int32.ofNat k.val ≠ Int32.ofNat k'.val → (dI (Int32.ofNat k.val)).toNatClampNeg ≠ (dI (Int32.ofNat k'.val)).toNatClampNeg ∨ (vI (Int32.ofNat k.val)).toNatClampNeg ≠ (vI (Int32.ofNat k'.val)).toNatClampNeg := by decide +kernel
  exact f k k' n
theorem own_ix7 (p : Int32) : Ix (p &&& (7 : Int32)) := by
  rcases own_mask7 p with h | h | h | h | h | h | h | h
  · exact ⟨0, h.trans (by decide)⟩
  · exact ⟨1, h.trans (by decide)⟩
  · exact ⟨2, h.trans (by decide)⟩
  · exact ⟨3, h.trans (by decide)⟩
  · exact ⟨4, h.trans (by decide)⟩
  · exact ⟨5, h.trans (by decide)⟩
  · exact ⟨6, h.trans (by decide)⟩
  · exact ⟨7, h.trans (by decide)⟩
theorem own_len5 (p : Int32) : ((p &&& (7 : Int32)) % (5 : Int32)) = 0 ∨ ((p &&& (7 : Int32)) % (5 : Int32)) = 1 ∨ ((p &&& (7 : Int32)) % (5 : Int32)) = 2 ∨ ((p &&& (7 : Int32)) % (5 : Int32)) = 3 ∨ ((p &&& (7 : Int32)) % (5 : Int32)) = 4 := by
  obtain ⟨k, h⟩ := own_ix7 p
  rw [h]
  have f : ∀ k : Fin 8, (Int32.ofNat k.val % (5 : Int32)) = 0 ∨ (Int32.ofNat k.val % (5 : Int32)) = 1 ∨ (Int32.ofNat k.val % (5 : Int32)) = 2 ∨ (Int32.ofNat k.val % (5 : Int32)) = 3 ∨ (Int32.ofNat k.val % (5 : Int32)) = 4 := by decide +kernel
  exact f k
theorem own_i2 (p3 p4 : Int32) : Ix ((((p3 &&& (7 : Int32)) + (1 : Int32)) + ((p4 &&& (7 : Int32)) % (7 : Int32))) &&& (7 : Int32)) ∧ (p3 &&& (7 : Int32)) ≠ ((((p3 &&& (7 : Int32)) + (1 : Int32)) + ((p4 &&& (7 : Int32)) % (7 : Int32))) &&& (7 : Int32)) := by
  refine ⟨own_ix7 _, ?_⟩
  obtain ⟨k, h⟩ := own_ix7 p3
  obtain ⟨k', h'⟩ := own_ix7 p4
  rw [h, h']
  have f : ∀ k k' : Fin 8, Int32.ofNat k.val ≠ ((Int32.ofNat k.val + (1 : Int32)) + (Int32.ofNat k'.val % (7 : Int32))) &&& (7 : Int32) := by decide +kernel
  exact f k k'
theorem rM_hit (M : Nat → Nat → Value) (d v : Nat) (b : Value) : rM M d v b d v = b := by unfold rM; rw [own_upd_hit, own_upd_hit]
theorem rM_two (M : Nat → Nat → Value) {d v d' v' : Nat} (a b : Value) (h : d ≠ d' ∨ v ≠ v') : rM (rM M d v a) d' v' b d v = a := by
  by_cases q : d = d'
  · subst q
    have q' : v ≠ v' := h.elim (fun z => absurd rfl z) id
    have e : rM (rM M d v a) d v' b d = own_upd (rM M d v a d) v' b := own_upd_hit _ _ _
    rw [e, own_upd_miss _ _ q']
    exact rM_hit M d v a
  · have e : rM (rM M d v a) d' v' b d = rM M d v a d := own_upd_miss _ _ q
    rw [e]
    exact rM_hit M d v a
theorem ms_nil : ms [] = 0 := rfl
theorem ms_gat0 (xs : List Int32) : ms (gat [] xs) = ms xs := by rw [ms_gat, ms_nil, Int32.zero_or]
section LawM
variable {p : Program} {l : Launch} {e : Env} {s : State} {m : MethodId} {args : Array Value} {below : List Frame} {meth : Method} {c : Code} {Z : State} {a0 : Array Value} {n0 : Nat} {entry : State}
def GoalQ (p : Program) (e : Env) (below : List Frame) (s entry : State) (n0 : Nat) : Prop := ∃ s₂ o, Steps p.tables e below entry s₂ ∧ s₂.status = .running ∧ Ended s₂ below o ∧ ∃ v L, o = .returned v ∧ (v = some (.int (1 : Int32)) ∧ Fr n0 L) ∧ FrameEnd s o s₂ L room_1.cells room_1.slots
set_option maxRecDepth 65536 in
set_option maxHeartbeats 4000000 in
theorem cdK (hx : p.tables.exec = Jvm.exec) (hZ : Z.Warmed39 s.vm) (hw : ∀ d ∈ tables_1, d.before a0 Z = true) (hby : c.code = code) (hml : c.maxLocals = 29) (hown : s.vm.findClass "com/example/caprice/caprice/solver/DomainsGatherReasonsPinLaw" = some m.cls) (p1 : Int32) (p2 : Int32) (p3 : Int32) (p4 : Int32) (p5 : Int32) (nA : Int32) (x0 : Int32) (x1 : Int32) (x2 : Int32) (x3 : Int32) (nB : Int32) (y0 : Int32) (y1 : Int32) (y2 : Int32) (y3 : Int32) (ra : Nat) (rb : Nat) (i1 : Int32) (i2 : Int32) (bo : Int32) (ag : Int32) (dom : Nat) (M : Nat → Nat → Value) (G ys : List Int32) (T0 : State) (locs : List Loc) (h0 : Heap) (X0 : Stand p l e room_1 s m args below meth c T0 locs 14 64) (e0 : T0.heap = h0) (N0 : Fr n0 locs) (O0 : Old Z n0 h0) (hdn : n0 ≤ dom) (D : Gs Z h0 dom dom M G) (g : Gd G) (F : Lst Z h0 rb ys) (hr : rb < dom) (hE : ∀ x ∈ ys, El x) (hi : Ix i2) (hM : M (dI i2).toNatClampNeg (vI i2).toNatClampNeg = .ref rb) :
    ∃ (T' : State) (locs' : List Loc) (G' : List Int32), Stand p l e room_1 s m args below meth c T' locs' 14 64 ∧ Fr n0 locs' ∧ Old Z n0 T'.heap ∧ Pres dom h0 T'.heap ∧ Gs Z T'.heap dom dom M G' ∧ Gd G' ∧ ((bo = 0 ∧ G' = G) ∨ (bo ≠ 0 ∧ G' = gat G ys)) ∧ ∀ t, Steps p.tables e below (T'.setTop (mkF m 246 #[.val (.int p1), .val (.int p2), .val (.int p3), .val (.int p4), .val (.int p5), .val (.int nA), .val (.int x0), .val (.int x1), .val (.int x2), .val (.int x3), .val (.int nB), .val (.int y0), .val (.int y1), .val (.int y2), .val (.int y3), .val (.ref ra), .val (.ref rb), .val (.int i1), .val (.int i2), .val (.int bo), .val (.int ag), .val (.ref dom), .unset, .unset, .unset, .unset, .unset, .unset, .unset] [])) t → Steps p.tables e below (T0.setTop (mkF m 228 #[.val (.int p1), .val (.int p2), .val (.int p3), .val (.int p4), .val (.int p5), .val (.int nA), .val (.int x0), .val (.int x1), .val (.int x2), .val (.int x3), .val (.int nB), .val (.int y0), .val (.int y1), .val (.int y2), .val (.int y3), .val (.ref ra), .val (.ref rb), .val (.int i1), .val (.int i2), .val (.int bo), .val (.int ag), .val (.ref dom), .unset, .unset, .unset, .unset, .unset, .unset, .unset] [])) t := by
  by_cases h : bo = (0 : Int32)
  · obtain ⟨T2, L2, X2, N2, e2, c2⟩ := qK0 p1 p2 p3 p4 p5 nA x0 x1 x2 x3 nB y0 y1 y2 y3 ra rb i1 i2 bo ag dom X0 hx hZ hw hby hml hown e0 N0 O0 h
    exact ⟨T2, L2, G, X2, N2, by rw [e2]; exact O0, by rw [e2]; exact Pres.refl _ _, by rw [e2]; exact D, g, Or.inl ⟨h, rfl⟩, c2⟩
  · obtain ⟨T2, L2, X2, N2, e2, c2⟩ := qK1 p1 p2 p3 p4 p5 nA x0 x1 x2 x3 nB y0 y1 y2 y3 ra rb i1 i2 bo ag dom X0 hx hZ hw hby hml hown e0 N0 O0 h
    obtain ⟨T3, _, L3, X3, ⟨rfl, N3, P3, O3, D3⟩, c3⟩ := cG2 (Ls := #[.val (.int p1), .val (.int p2), .val (.int p3), .val (.int p4), .val (.int p5), .val (.int nA), .val (.int x0), .val (.int x1), .val (.int x2), .val (.int x3), .val (.int nB), .val (.int y0), .val (.int y1), .val (.int y2), .val (.int y3), .val (.ref ra), .val (.ref rb), .val (.int i1), .val (.int i2), .val (.int bo), .val (.int ag), .val (.ref dom), .unset, .unset, .unset, .unset, .unset, .unset, .unset]) dom (dI i2) (vI i2) X2 hx hZ hw hby hml hown e2 rfl D.exa (rmGather l Z a0 hw dom dom rb (dI i2) (vI i2) M G ys h0 n0 O0 hdn D g F hr hE hi.rd hi.rv hM) (by decide) (by decide) (by decide) (by decide)
    exact ⟨T3, _, gat G ys, X3, Fr.app N2 N3, O3, P3, D3, g.gat hE, Or.inr ⟨h, rfl⟩, fun t kt => c2 t (c3 t kt)⟩
set_option maxRecDepth 65536 in
set_option maxHeartbeats 4000000 in
theorem cdL (hx : p.tables.exec = Jvm.exec) (hZ : Z.Warmed39 s.vm) (hw : ∀ d ∈ tables_1, d.before a0 Z = true) (hby : c.code = code) (hml : c.maxLocals = 29) (hown : s.vm.findClass "com/example/caprice/caprice/solver/DomainsGatherReasonsPinLaw" = some m.cls) (p1 : Int32) (p2 : Int32) (p3 : Int32) (p4 : Int32) (p5 : Int32) (nA : Int32) (x0 : Int32) (x1 : Int32) (x2 : Int32) (x3 : Int32) (nB : Int32) (y0 : Int32) (y1 : Int32) (y2 : Int32) (y3 : Int32) (ra : Nat) (rb : Nat) (i1 : Int32) (i2 : Int32) (bo : Int32) (ag : Int32) (dom : Nat) (M : Nat → Nat → Value) (G ys : List Int32) (T0 : State) (locs : List Loc) (h0 : Heap) (X0 : Stand p l e room_1 s m args below meth c T0 locs 14 64) (e0 : T0.heap = h0) (N0 : Fr n0 locs) (O0 : Old Z n0 h0) (hdn : n0 ≤ dom) (D : Gs Z h0 dom dom M G) (g : Gd G) (F : Lst Z h0 ra ys) (hr : ra < dom) (hE : ∀ x ∈ ys, El x) (hi : Ix i1) (hM : M (dI i1).toNatClampNeg (vI i1).toNatClampNeg = .ref ra) :
    ∃ (T' : State) (locs' : List Loc) (G' : List Int32), Stand p l e room_1 s m args below meth c T' locs' 14 64 ∧ Fr n0 locs' ∧ Old Z n0 T'.heap ∧ Pres dom h0 T'.heap ∧ Gs Z T'.heap dom dom M G' ∧ Gd G' ∧ ((ag = 0 ∧ G' = G) ∨ (ag ≠ 0 ∧ G' = gat G ys)) ∧ ∀ t, Steps p.tables e below (T'.setTop (mkF m 264 #[.val (.int p1), .val (.int p2), .val (.int p3), .val (.int p4), .val (.int p5), .val (.int nA), .val (.int x0), .val (.int x1), .val (.int x2), .val (.int x3), .val (.int nB), .val (.int y0), .val (.int y1), .val (.int y2), .val (.int y3), .val (.ref ra), .val (.ref rb), .val (.int i1), .val (.int i2), .val (.int bo), .val (.int ag), .val (.ref dom), .unset, .unset, .unset, .unset, .unset, .unset, .unset] [])) t → Steps p.tables e below (T0.setTop (mkF m 246 #[.val (.int p1), .val (.int p2), .val (.int p3), .val (.int p4), .val (.int p5), .val (.int nA), .val (.int x0), .val (.int x1), .val (.int x2), .val (.int x3), .val (.int nB), .val (.int y0), .val (.int y1), .val (.int y2), .val (.int y3), .val (.ref ra), .val (.ref rb), .val (.int i1), .val (.int i2), .val (.int bo), .val (.int ag), .val (.ref dom), .unset, .unset, .unset, .unset, .unset, .unset, .unset] [])) t := by
  by_cases h : ag = (0 : Int32)
  · obtain ⟨T2, L2, X2, N2, e2, c2⟩ := qL0 p1 p2 p3 p4 p5 nA x0 x1 x2 x3 nB y0 y1 y2 y3 ra rb i1 i2 bo ag dom X0 hx hZ hw hby hml hown e0 N0 O0 h
    exact ⟨T2, L2, G, X2, N2, by rw [e2]; exact O0, by rw [e2]; exact Pres.refl _ _, by rw [e2]; exact D, g, Or.inl ⟨h, rfl⟩, c2⟩
  · obtain ⟨T2, L2, X2, N2, e2, c2⟩ := qL1 p1 p2 p3 p4 p5 nA x0 x1 x2 x3 nB y0 y1 y2 y3 ra rb i1 i2 bo ag dom X0 hx hZ hw hby hml hown e0 N0 O0 h
    obtain ⟨T3, _, L3, X3, ⟨rfl, N3, P3, O3, D3⟩, c3⟩ := cG3 (Ls := #[.val (.int p1), .val (.int p2), .val (.int p3), .val (.int p4), .val (.int p5), .val (.int nA), .val (.int x0), .val (.int x1), .val (.int x2), .val (.int x3), .val (.int nB), .val (.int y0), .val (.int y1), .val (.int y2), .val (.int y3), .val (.ref ra), .val (.ref rb), .val (.int i1), .val (.int i2), .val (.int bo), .val (.int ag), .val (.ref dom), .unset, .unset, .unset, .unset, .unset, .unset, .unset]) dom (dI i1) (vI i1) X2 hx hZ hw hby hml hown e2 rfl D.exa (rmGather l Z a0 hw dom dom ra (dI i1) (vI i1) M G ys h0 n0 O0 hdn D g F hr hE hi.rd hi.rv hM) (by decide) (by decide) (by decide) (by decide)
    exact ⟨T3, _, gat G ys, X3, Fr.app N2 N3, O3, P3, D3, g.gat hE, Or.inr ⟨h, rfl⟩, fun t kt => c2 t (c3 t kt)⟩
set_option maxRecDepth 65536 in
set_option maxHeartbeats 4000000 in
theorem lawEnd (hx : p.tables.exec = Jvm.exec) (hZ : Z.Warmed39 s.vm) (hw : ∀ d ∈ tables_1, d.before a0 Z = true) (hby : c.code = code) (hml : c.maxLocals = 29) (hown : s.vm.findClass "com/example/caprice/caprice/solver/DomainsGatherReasonsPinLaw" = some m.cls) (hret : meth.sig.returnType = some .boolean) (hlk : meth.locks = false) (w_FOR_GOOD : Addr) (cl_w_FOR_GOOD : Cell) (HW : World Z w_FOR_GOOD cl_w_FOR_GOOD) (p1 : Int32) (p2 : Int32) (p3 : Int32) (p4 : Int32) (p5 : Int32) (nA : Int32) (x0 : Int32) (x1 : Int32) (x2 : Int32) (x3 : Int32) (nB : Int32) (y0 : Int32) (y1 : Int32) (y2 : Int32) (y3 : Int32) (ra : Nat) (rb : Nat) (i1 : Int32) (i2 : Int32) (bo : Int32) (ag : Int32) (dom : Nat) (M : Nat → Nat → Value) (G : List Int32) (T0 : State) (locs : List Loc) (h0 : Heap) (X0 : Stand p l e room_1 s m args below meth c T0 locs 14 64) (e0 : T0.heap = h0) (N0 : Fr n0 locs) (O0 : Old Z n0 h0) (hdn : n0 ≤ dom) (D : Gs Z h0 dom dom M G) (g : Gd G) (F : Lst Z h0 rb (tk4 nB y0 y1 y2 y3)) (hr : rb < dom) (hE : ∀ x ∈ (tk4 nB y0 y1 y2 y3), El x) (hi : Ix i2) (hM : M (dI i2).toNatClampNeg (vI i2).toNatClampNeg = .ref rb) (hnA : nA = 0 ∨ nA = 1 ∨ nA = 2 ∨ nA = 3 ∨ nA = 4) (hnB : nB = 0 ∨ nB = 1 ∨ nB = 2 ∨ nB = 3 ∨ nB = 4) (hms : (bo = 0 ∧ ms G = ms (tk4 nA x0 x1 x2 x3)) ∨ (bo ≠ 0 ∧ ms G = ms (tk4 nA x0 x1 x2 x3) ||| ms (tk4 nB y0 y1 y2 y3)))
    (pre0 : ∀ t, Steps p.tables e below (T0.setTop (mkF m 264 #[.val (.int p1), .val (.int p2), .val (.int p3), .val (.int p4), .val (.int p5), .val (.int nA), .val (.int x0), .val (.int x1), .val (.int x2), .val (.int x3), .val (.int nB), .val (.int y0), .val (.int y1), .val (.int y2), .val (.int y3), .val (.ref ra), .val (.ref rb), .val (.int i1), .val (.int i2), .val (.int bo), .val (.int ag), .val (.ref dom), .unset, .unset, .unset, .unset, .unset, .unset, .unset] [])) t → Steps p.tables e below entry t) : GoalQ p e below s entry n0 := by
  obtain ⟨T1, L1, X1, N1, e1, c1⟩ := qM p1 p2 p3 p4 p5 nA x0 x1 x2 x3 nB y0 y1 y2 y3 ra rb i1 i2 bo ag dom X0 hx hZ hw hby hml hown e0 N0 O0
  obtain ⟨T2, _, L2, X2, ⟨u1, rfl, N2, P2, O2, D2, U2⟩, c2⟩ := cT1 (Ls := #[.val (.int p1), .val (.int p2), .val (.int p3), .val (.int p4), .val (.int p5), .val (.int nA), .val (.int x0), .val (.int x1), .val (.int x2), .val (.int x3), .val (.int nB), .val (.int y0), .val (.int y1), .val (.int y2), .val (.int y3), .val (.ref ra), .val (.ref rb), .val (.int i1), .val (.int i2), .val (.int bo), .val (.int ag), .val (.ref dom), .unset, .unset, .unset, .unset, .unset, .unset, .unset]) dom X1 hx hZ hw hby hml hown e1 rfl D.exa (rmTake l Z a0 hw w_FOR_GOOD cl_w_FOR_GOOD HW dom dom M G h0 n0 O0 hdn D g) (by decide) (by decide) (by decide) (by decide)
  obtain ⟨T3, L3, X3, N3, e3, c3⟩ := qN p1 p2 p3 p4 p5 nA x0 x1 x2 x3 nB y0 y1 y2 y3 ra rb i1 i2 bo ag dom u1 X2 hx hZ hw hby hml hown rfl (Fr.app N1 N2) O2
  obtain ⟨T4, _, L4, X4, ⟨rfl, N4, e4⟩, c4⟩ := cO1 (Ls := #[.val (.int p1), .val (.int p2), .val (.int p3), .val (.int p4), .val (.int p5), .val (.int nA), .val (.int x0), .val (.int x1), .val (.int x2), .val (.int x3), .val (.int nB), .val (.int y0), .val (.int y1), .val (.int y2), .val (.int y3), .val (.ref ra), .val (.ref rb), .val (.int i1), .val (.int i2), .val (.int bo), .val (.int ag), .val (.ref dom), .val (.ref u1), .unset, .unset, .unset, .unset, .unset, .unset]) u1 X3 hx hZ hw hby hml hown e3 rfl (rmMaskOf l Z a0 hw w_FOR_GOOD cl_w_FOR_GOOD HW u1 G T2.heap n0 O2 U2 g) (by decide) (by decide) (by decide) (by decide)
  obtain ⟨T5, L5, X5, N5, e5, c5⟩ := qO p1 p2 p3 p4 p5 nA x0 x1 x2 x3 nB y0 y1 y2 y3 ra rb i1 i2 bo ag dom u1 (ms G) X4 hx hZ hw hby hml hown e4 (Fr.app N3 N4) O2
  obtain ⟨T6, _, L6, X6, ⟨rfl, N6, e6⟩, c6⟩ := cB1 (Ls := #[.val (.int p1), .val (.int p2), .val (.int p3), .val (.int p4), .val (.int p5), .val (.int nA), .val (.int x0), .val (.int x1), .val (.int x2), .val (.int x3), .val (.int nB), .val (.int y0), .val (.int y1), .val (.int y2), .val (.int y3), .val (.ref ra), .val (.ref rb), .val (.int i1), .val (.int i2), .val (.int bo), .val (.int ag), .val (.ref dom), .val (.ref u1), .val (.int (ms G)), .unset, .unset, .unset, .unset, .unset]) nA x0 x1 x2 x3 X5 hx hZ hw hby hml hown e5 rfl (rmBits l Z a0 hw nA x0 x1 x2 x3 hnA T2.heap n0 O2) (by decide) (by decide) (by decide) (by decide)
  obtain ⟨T7, L7, X7, N7, e7, c7⟩ := qP p1 p2 p3 p4 p5 nA x0 x1 x2 x3 nB y0 y1 y2 y3 ra rb i1 i2 bo ag dom u1 (ms G) (ms (tk4 nA x0 x1 x2 x3)) X6 hx hZ hw hby hml hown e6 (Fr.app N5 N6) O2
  obtain ⟨T8, _, L8, X8, ⟨rfl, N8, e8⟩, c8⟩ := cB2 (Ls := #[.val (.int p1), .val (.int p2), .val (.int p3), .val (.int p4), .val (.int p5), .val (.int nA), .val (.int x0), .val (.int x1), .val (.int x2), .val (.int x3), .val (.int nB), .val (.int y0), .val (.int y1), .val (.int y2), .val (.int y3), .val (.ref ra), .val (.ref rb), .val (.int i1), .val (.int i2), .val (.int bo), .val (.int ag), .val (.ref dom), .val (.ref u1), .val (.int (ms G)), .val (.int (ms (tk4 nA x0 x1 x2 x3))), .unset, .unset, .unset, .unset]) nB y0 y1 y2 y3 X7 hx hZ hw hby hml hown e7 rfl (rmBits l Z a0 hw nB y0 y1 y2 y3 hnB T2.heap n0 O2) (by decide) (by decide) (by decide) (by decide)
  obtain ⟨T9, L9, vF, hF, X9, N9, e9, c9⟩ : ∃ (T' : State) (L' : List Loc) (vF : Int32), ms G = vF ∧ Stand p l e room_1 s m args below meth c T' L' 15 68 ∧ Fr n0 L' ∧ T'.heap = T2.heap ∧ ∀ t, Steps p.tables e below (T'.setTop (mkF m 324 #[.val (.int p1), .val (.int p2), .val (.int p3), .val (.int p4), .val (.int p5), .val (.int nA), .val (.int x0), .val (.int x1), .val (.int x2), .val (.int x3), .val (.int nB), .val (.int y0), .val (.int y1), .val (.int y2), .val (.int y3), .val (.ref ra), .val (.ref rb), .val (.int i1), .val (.int i2), .val (.int bo), .val (.int ag), .val (.ref dom), .val (.ref u1), .val (.int (ms G)), .val (.int (ms (tk4 nA x0 x1 x2 x3))), .val (.int (ms (tk4 nB y0 y1 y2 y3))), .val (.int vF), .unset, .unset] [])) t → Steps p.tables e below (T8.setTop (mkF m 306 #[.val (.int p1), .val (.int p2), .val (.int p3), .val (.int p4), .val (.int p5), .val (.int nA), .val (.int x0), .val (.int x1), .val (.int x2), .val (.int x3), .val (.int nB), .val (.int y0), .val (.int y1), .val (.int y2), .val (.int y3), .val (.ref ra), .val (.ref rb), .val (.int i1), .val (.int i2), .val (.int bo), .val (.int ag), .val (.ref dom), .val (.ref u1), .val (.int (ms G)), .val (.int (ms (tk4 nA x0 x1 x2 x3))), .unset, .unset, .unset, .unset] [.int (ms (tk4 nB y0 y1 y2 y3))])) t := by
    by_cases hb : bo = (0 : Int32)
    · obtain ⟨T', L', X', N', e', c'⟩ := qQ0 p1 p2 p3 p4 p5 nA x0 x1 x2 x3 nB y0 y1 y2 y3 ra rb i1 i2 bo ag dom u1 (ms G) (ms (tk4 nA x0 x1 x2 x3)) (ms (tk4 nB y0 y1 y2 y3)) X8 hx hZ hw hby hml hown e8 (Fr.app N7 N8) O2 hb
      exact ⟨T', L', _, hms.elim (fun w => w.2.trans Int32.or_zero.symm) (fun w => absurd hb w.1), X', N', e', c'⟩
    · obtain ⟨T', L', X', N', e', c'⟩ := qQ1 p1 p2 p3 p4 p5 nA x0 x1 x2 x3 nB y0 y1 y2 y3 ra rb i1 i2 bo ag dom u1 (ms G) (ms (tk4 nA x0 x1 x2 x3)) (ms (tk4 nB y0 y1 y2 y3)) X8 hx hZ hw hby hml hown e8 (Fr.app N7 N8) O2 hb
      exact ⟨T', L', _, hms.elim (fun w => absurd w.1 hb) (fun w => w.2), X', N', e', c'⟩
  obtain ⟨TA, LA, XA, NA, eA, cA⟩ := qR p1 p2 p3 p4 p5 nA x0 x1 x2 x3 nB y0 y1 y2 y3 ra rb i1 i2 bo ag dom u1 (ms G) (ms (tk4 nA x0 x1 x2 x3)) (ms (tk4 nB y0 y1 y2 y3)) vF X9 hx hZ hw hby hml hown e9 N9 O2
  obtain ⟨TB, _, LB, XB, ⟨rfl, NB, PB, OB, DB⟩, cB⟩ := cG4 (Ls := #[.val (.int p1), .val (.int p2), .val (.int p3), .val (.int p4), .val (.int p5), .val (.int nA), .val (.int x0), .val (.int x1), .val (.int x2), .val (.int x3), .val (.int nB), .val (.int y0), .val (.int y1), .val (.int y2), .val (.int y3), .val (.ref ra), .val (.ref rb), .val (.int i1), .val (.int i2), .val (.int bo), .val (.int ag), .val (.ref dom), .val (.ref u1), .val (.int (ms G)), .val (.int (ms (tk4 nA x0 x1 x2 x3))), .val (.int (ms (tk4 nB y0 y1 y2 y3))), .val (.int vF), .unset, .unset]) dom (dI i2) (vI i2) XA hx hZ hw hby hml hown eA rfl D2.exa (rmGather l Z a0 hw dom dom rb (dI i2) (vI i2) M [] (tk4 nB y0 y1 y2 y3) T2.heap n0 O2 hdn D2 Gd.nil (F.pres P2 hr) hr hE hi.rd hi.rv hM) (by decide) (by decide) (by decide) (by decide)
  obtain ⟨TC, LC, XC, NC, eC, cC⟩ := qS p1 p2 p3 p4 p5 nA x0 x1 x2 x3 nB y0 y1 y2 y3 ra rb i1 i2 bo ag dom u1 (ms G) (ms (tk4 nA x0 x1 x2 x3)) (ms (tk4 nB y0 y1 y2 y3)) vF XB hx hZ hw hby hml hown rfl (Fr.app NA NB) OB
  obtain ⟨TD, _, LD, XD, ⟨u2, rfl, ND, PD, OD, DD, UD⟩, cD⟩ := cT2 (Ls := #[.val (.int p1), .val (.int p2), .val (.int p3), .val (.int p4), .val (.int p5), .val (.int nA), .val (.int x0), .val (.int x1), .val (.int x2), .val (.int x3), .val (.int nB), .val (.int y0), .val (.int y1), .val (.int y2), .val (.int y3), .val (.ref ra), .val (.ref rb), .val (.int i1), .val (.int i2), .val (.int bo), .val (.int ag), .val (.ref dom), .val (.ref u1), .val (.int (ms G)), .val (.int (ms (tk4 nA x0 x1 x2 x3))), .val (.int (ms (tk4 nB y0 y1 y2 y3))), .val (.int vF), .unset, .unset]) dom XC hx hZ hw hby hml hown eC rfl DB.exa (rmTake l Z a0 hw w_FOR_GOOD cl_w_FOR_GOOD HW dom dom M (gat [] (tk4 nB y0 y1 y2 y3)) TB.heap n0 OB hdn DB (Gd.nil.gat hE)) (by decide) (by decide) (by decide) (by decide)
  obtain ⟨TE, LE, XE, NE, eE, cE⟩ := qT p1 p2 p3 p4 p5 nA x0 x1 x2 x3 nB y0 y1 y2 y3 ra rb i1 i2 bo ag dom u1 (ms G) (ms (tk4 nA x0 x1 x2 x3)) (ms (tk4 nB y0 y1 y2 y3)) vF u2 XD hx hZ hw hby hml hown rfl (Fr.app NC ND) OD
  obtain ⟨TF, _, LF, XF, ⟨rfl, NF, eF⟩, cF⟩ := cO2 (Ls := #[.val (.int p1), .val (.int p2), .val (.int p3), .val (.int p4), .val (.int p5), .val (.int nA), .val (.int x0), .val (.int x1), .val (.int x2), .val (.int x3), .val (.int nB), .val (.int y0), .val (.int y1), .val (.int y2), .val (.int y3), .val (.ref ra), .val (.ref rb), .val (.int i1), .val (.int i2), .val (.int bo), .val (.int ag), .val (.ref dom), .val (.ref u1), .val (.int (ms G)), .val (.int (ms (tk4 nA x0 x1 x2 x3))), .val (.int (ms (tk4 nB y0 y1 y2 y3))), .val (.int vF), .val (.ref u2), .unset]) u2 XE hx hZ hw hby hml hown eE rfl (rmMaskOf l Z a0 hw w_FOR_GOOD cl_w_FOR_GOOD HW u2 (gat [] (tk4 nB y0 y1 y2 y3)) TD.heap n0 OD UD (Gd.nil.gat hE)) (by decide) (by decide) (by decide) (by decide)
  exact qU p1 p2 p3 p4 p5 nA x0 x1 x2 x3 nB y0 y1 y2 y3 ra rb i1 i2 bo ag dom u1 (ms G) (ms (tk4 nA x0 x1 x2 x3)) (ms (tk4 nB y0 y1 y2 y3)) vF u2 (ms (gat [] (tk4 nB y0 y1 y2 y3))) XF hx hZ hw hby hml hown eF (Fr.app NE NF) OD hF (ms_gat0 _) hret hlk (fun t kt => pre0 t (c1 t (c2 t (c3 t (c4 t (c5 t (c6 t (c7 t (c8 t (c9 t (cA t (cB t (cC t (cD t (cE t (cF t kt))))))))))))))))
end LawM
set_option maxRecDepth 65536 in
set_option maxHeartbeats 4000000 in
theorem rm0_all (l : Launch) (Z : State) (a0 : Array Value) (hw : ∀ d ∈ tables_1, d.before a0 Z = true) (ws : List Jvm.Cond) (w_FOR_GOOD : Addr) (cl_w_FOR_GOOD : Cell) (p1 p2 p3 p4 p5 : Int32) (h0 : Heap) (n0 : Nat) (Z0 : n0 ≤ h0.size) (O0 : Old Z n0 h0) (HW : World Z w_FOR_GOOD cl_w_FOR_GOOD) :
    MetFree l x (head1 (Jvm.Cond.code x code maxLocals ret :: ws) room_1) (fun a U => a = #[(.int p1), (.int p2), (.int p3), (.int p4), (.int p5)] ∧ Z.Warmed39 U.vm ∧ U.heap = h0) (fun _ _ _ _ _ => True) (fun _ U o U' => ∃ v L, o = .returned v ∧ Q0 h0 n0 v U'.heap L ∧ FrameEnd U o U' L room_1.cells room_1.slots) := by
  refine MetFree.of_bodySF (plainFor_of_name pn152) hisR ?_
  intro p e s m args below meth c s₁ Bd hml0 hP hK
  obtain ⟨rfl, hZ, hh⟩ := hP
  have hx := Bd.exec
  have hby := Bd.bytes
  have hml : c.maxLocals = 29 := hml0
  have hown : s.vm.findClass "com/example/caprice/caprice/solver/DomainsGatherReasonsPinLaw" = some m.cls := findClass_of_methodNamed Bd.named
  have X0 : Stand p l e room_1 s m #[(.int p1), (.int p2), (.int p3), (.int p4), (.int p5)] below meth c s₁ [] 0 0 := Stand.of_body Bd
  have e0 : s₁.heap = h0 := by rw [← hh, Bd.state]; rfl
  have hlk : meth.locks = false := BodyLoose.notSynchronized Bd
  have ef : entryFrame m #[(.int p1), (.int p2), (.int p3), (.int p4), (.int p5)] maxLocals = (mkF m 0 #[.val (.int p1), .val (.int p2), .val (.int p3), .val (.int p4), .val (.int p5), .unset, .unset, .unset, .unset, .unset, .unset, .unset, .unset, .unset, .unset, .unset, .unset, .unset, .unset, .unset, .unset, .unset, .unset, .unset, .unset, .unset, .unset, .unset, .unset] []) := by first | (simp [entryFrame, mkF, argsToLocals, Value.category, maxLocals]; done) | rfl
  obtain ⟨T1, L1, X1, N1, e1, c1⟩ := qA p1 p2 p3 p4 p5 X0 hx hZ hw hby hml hown e0 (Fr.nil n0) O0
  obtain ⟨nA, h_nA⟩ : ∃ z : Int32, z = ((p1 &&& (7 : Int32)) % (5 : Int32)) := ⟨_, rfl⟩
  rw [← h_nA] at c1
  obtain ⟨x0, h_x0⟩ : ∃ z : Int32, z = (((p1.toUInt32 >>> ((3 : Int32) &&& 31).toUInt32).toInt32) &&& (3 : Int32)) := ⟨_, rfl⟩
  rw [← h_x0] at c1
  obtain ⟨x1, h_x1⟩ : ∃ z : Int32, z = (((p1.toUInt32 >>> ((5 : Int32) &&& 31).toUInt32).toInt32) &&& (3 : Int32)) := ⟨_, rfl⟩
  rw [← h_x1] at c1
  obtain ⟨x2, h_x2⟩ : ∃ z : Int32, z = (((p1.toUInt32 >>> ((7 : Int32) &&& 31).toUInt32).toInt32) &&& (3 : Int32)) := ⟨_, rfl⟩
  rw [← h_x2] at c1
  obtain ⟨x3, h_x3⟩ : ∃ z : Int32, z = (((p1.toUInt32 >>> ((9 : Int32) &&& 31).toUInt32).toInt32) &&& (3 : Int32)) := ⟨_, rfl⟩
  rw [← h_x3] at c1
  obtain ⟨nB, h_nB⟩ : ∃ z : Int32, z = ((p2 &&& (7 : Int32)) % (5 : Int32)) := ⟨_, rfl⟩
  rw [← h_nB] at c1
  obtain ⟨y0, h_y0⟩ : ∃ z : Int32, z = (((p2.toUInt32 >>> ((3 : Int32) &&& 31).toUInt32).toInt32) &&& (3 : Int32)) := ⟨_, rfl⟩
  rw [← h_y0] at c1
  obtain ⟨y1, h_y1⟩ : ∃ z : Int32, z = (((p2.toUInt32 >>> ((5 : Int32) &&& 31).toUInt32).toInt32) &&& (3 : Int32)) := ⟨_, rfl⟩
  rw [← h_y1] at c1
  obtain ⟨y2, h_y2⟩ : ∃ z : Int32, z = (((p2.toUInt32 >>> ((7 : Int32) &&& 31).toUInt32).toInt32) &&& (3 : Int32)) := ⟨_, rfl⟩
  rw [← h_y2] at c1
  obtain ⟨y3, h_y3⟩ : ∃ z : Int32, z = (((p2.toUInt32 >>> ((9 : Int32) &&& 31).toUInt32).toInt32) &&& (3 : Int32)) := ⟨_, rfl⟩
  rw [← h_y3] at c1
  have hnA : nA = 0 ∨ nA = 1 ∨ nA = 2 ∨ nA = 3 ∨ nA = 4 := by rw [h_nA]; exact own_len5 _
  have hnB : nB = 0 ∨ nB = 1 ∨ nB = 2 ∨ nB = 3 ∨ nB = 4 := by rw [h_nB]; exact own_len5 _
  have l_x0 : El x0 := by rw [h_x0]; exact own_mask _
  have l_x1 : El x1 := by rw [h_x1]; exact own_mask _
  have l_x2 : El x2 := by rw [h_x2]; exact own_mask _
  have l_x3 : El x3 := by rw [h_x3]; exact own_mask _
  have l_y0 : El y0 := by rw [h_y0]; exact own_mask _
  have l_y1 : El y1 := by rw [h_y1]; exact own_mask _
  have l_y2 : El y2 := by rw [h_y2]; exact own_mask _
  have l_y3 : El y3 := by rw [h_y3]; exact own_mask _
  have hEA : ∀ x ∈ tk4 nA x0 x1 x2 x3, El x := tk4_el l_x0 l_x1 l_x2 l_x3
  have hEB : ∀ x ∈ tk4 nB y0 y1 y2 y3, El x := tk4_el l_y0 l_y1 l_y2 l_y3
  clear h_nA h_x0 h_x1 h_x2 h_x3 h_nB h_y0 h_y1 h_y2 h_y3 l_x0 l_x1 l_x2 l_x3 l_y0 l_y1 l_y2 l_y3
  obtain ⟨T2, L2, X2, N2, e2, c2⟩ := qB p1 p2 p3 p4 p5 nA x0 x1 x2 x3 nB y0 y1 y2 y3 X1 hx hZ hw hby hml hown e1 N1 O0
  obtain ⟨T3, _, L3, X3, ⟨ra, rfl, N3, K3, O3, z3, E3, F3⟩, c3⟩ := cMk1 (Ls := #[.val (.int p1), .val (.int p2), .val (.int p3), .val (.int p4), .val (.int p5), .val (.int nA), .val (.int x0), .val (.int x1), .val (.int x2), .val (.int x3), .val (.int nB), .val (.int y0), .val (.int y1), .val (.int y2), .val (.int y3), .unset, .unset, .unset, .unset, .unset, .unset, .unset, .unset, .unset, .unset, .unset, .unset, .unset, .unset]) nA x0 x1 x2 x3 X2 hx hZ hw hby hml hown e2 rfl (rmMake l Z a0 hw nA x0 x1 x2 x3 hnA h0 n0 O0) (by decide) (by decide) (by decide) (by decide)
  obtain ⟨T4, L4, X4, N4, e4, c4⟩ := qC p1 p2 p3 p4 p5 nA x0 x1 x2 x3 nB y0 y1 y2 y3 ra X3 hx hZ hw hby hml hown rfl (Fr.app N2 N3) O3
  obtain ⟨T5, _, L5, X5, ⟨rb, rfl, N5, K5, O5, z5, E5, F5⟩, c5⟩ := cMk2 (Ls := #[.val (.int p1), .val (.int p2), .val (.int p3), .val (.int p4), .val (.int p5), .val (.int nA), .val (.int x0), .val (.int x1), .val (.int x2), .val (.int x3), .val (.int nB), .val (.int y0), .val (.int y1), .val (.int y2), .val (.int y3), .val (.ref ra), .unset, .unset, .unset, .unset, .unset, .unset, .unset, .unset, .unset, .unset, .unset, .unset, .unset]) nB y0 y1 y2 y3 X4 hx hZ hw hby hml hown e4 rfl (rmMake l Z a0 hw nB y0 y1 y2 y3 hnB T3.heap n0 O3) (by decide) (by decide) (by decide) (by decide)
  obtain ⟨T6, L6, X6, N6, e6, c6⟩ := qD p1 p2 p3 p4 p5 nA x0 x1 x2 x3 nB y0 y1 y2 y3 ra rb X5 hx hZ hw hby hml hown rfl (Fr.app N4 N5) O5
  obtain ⟨y1x, y2x⟩ := own_i2 p3 p4
  have y3x := own_ix7 p3
  obtain ⟨i2, h_i2⟩ : ∃ z : Int32, z = ((((p3 &&& (7 : Int32)) + (1 : Int32)) + ((p4 &&& (7 : Int32)) % (7 : Int32))) &&& (7 : Int32)) := ⟨_, rfl⟩
  rw [← h_i2] at c6 y1x y2x
  clear h_i2
  obtain ⟨i1, h_i1⟩ : ∃ z : Int32, z = (p3 &&& (7 : Int32)) := ⟨_, rfl⟩
  rw [← h_i1] at c6 y2x y3x
  clear h_i1
  have hne := own_ixne y3x y1x y2x
  obtain ⟨TE, LE, bo, XE, NE, eE, cE⟩ : ∃ (T' : State) (L' : List Loc) (bo : Int32), Stand p l e room_1 s m #[(.int p1), (.int p2), (.int p3), (.int p4), (.int p5)] below meth c T' L' 2 8 ∧ Fr n0 L' ∧ T'.heap = T5.heap ∧ ∀ t, Steps p.tables e below (T'.setTop (mkF m 143 #[.val (.int p1), .val (.int p2), .val (.int p3), .val (.int p4), .val (.int p5), .val (.int nA), .val (.int x0), .val (.int x1), .val (.int x2), .val (.int x3), .val (.int nB), .val (.int y0), .val (.int y1), .val (.int y2), .val (.int y3), .val (.ref ra), .val (.ref rb), .val (.int i1), .val (.int i2), .val (.int bo), .unset, .unset, .unset, .unset, .unset, .unset, .unset, .unset, .unset] [])) t → Steps p.tables e below (T6.setTop (mkF m 129 #[.val (.int p1), .val (.int p2), .val (.int p3), .val (.int p4), .val (.int p5), .val (.int nA), .val (.int x0), .val (.int x1), .val (.int x2), .val (.int x3), .val (.int nB), .val (.int y0), .val (.int y1), .val (.int y2), .val (.int y3), .val (.ref ra), .val (.ref rb), .val (.int i1), .val (.int i2), .unset, .unset, .unset, .unset, .unset, .unset, .unset, .unset, .unset, .unset] [])) t := by
    by_cases hb : (p5 &&& (1 : Int32)) = (0 : Int32)
    · obtain ⟨T', L', X', N', e', c'⟩ := qE0 p1 p2 p3 p4 p5 nA x0 x1 x2 x3 nB y0 y1 y2 y3 ra rb i1 i2 X6 hx hZ hw hby hml hown e6 N6 O5 hb
      exact ⟨T', L', _, X', N', e', c'⟩
    · obtain ⟨T', L', X', N', e', c'⟩ := qE1 p1 p2 p3 p4 p5 nA x0 x1 x2 x3 nB y0 y1 y2 y3 ra rb i1 i2 X6 hx hZ hw hby hml hown e6 N6 O5 hb
      exact ⟨T', L', _, X', N', e', c'⟩
  obtain ⟨TF, LF, ag, XF, NF, eF, cF⟩ : ∃ (T' : State) (L' : List Loc) (ag : Int32), Stand p l e room_1 s m #[(.int p1), (.int p2), (.int p3), (.int p4), (.int p5)] below meth c T' L' 2 8 ∧ Fr n0 L' ∧ T'.heap = T5.heap ∧ ∀ t, Steps p.tables e below (T'.setTop (mkF m 157 #[.val (.int p1), .val (.int p2), .val (.int p3), .val (.int p4), .val (.int p5), .val (.int nA), .val (.int x0), .val (.int x1), .val (.int x2), .val (.int x3), .val (.int nB), .val (.int y0), .val (.int y1), .val (.int y2), .val (.int y3), .val (.ref ra), .val (.ref rb), .val (.int i1), .val (.int i2), .val (.int bo), .val (.int ag), .unset, .unset, .unset, .unset, .unset, .unset, .unset, .unset] [])) t → Steps p.tables e below (TE.setTop (mkF m 143 #[.val (.int p1), .val (.int p2), .val (.int p3), .val (.int p4), .val (.int p5), .val (.int nA), .val (.int x0), .val (.int x1), .val (.int x2), .val (.int x3), .val (.int nB), .val (.int y0), .val (.int y1), .val (.int y2), .val (.int y3), .val (.ref ra), .val (.ref rb), .val (.int i1), .val (.int i2), .val (.int bo), .unset, .unset, .unset, .unset, .unset, .unset, .unset, .unset, .unset] [])) t := by
    by_cases hb : (p5 &&& (2 : Int32)) = (0 : Int32)
    · obtain ⟨T', L', X', N', e', c'⟩ := qF0 p1 p2 p3 p4 p5 nA x0 x1 x2 x3 nB y0 y1 y2 y3 ra rb i1 i2 bo XE hx hZ hw hby hml hown eE NE O5 hb
      exact ⟨T', L', _, X', N', e', c'⟩
    · obtain ⟨T', L', X', N', e', c'⟩ := qF1 p1 p2 p3 p4 p5 nA x0 x1 x2 x3 nB y0 y1 y2 y3 ra rb i1 i2 bo XE hx hZ hw hby hml hown eE NE O5 hb
      exact ⟨T', L', _, X', N', e', c'⟩
  obtain ⟨TG, LG, dom, sz, ks, XG, NG, KG, OG, v1, v2, w1, Vs, Es, Ed, G1, G2, G3, G4, G5, G6, G7, G8, -, cG⟩ := qG p1 p2 p3 p4 p5 nA x0 x1 x2 x3 nB y0 y1 y2 y3 ra rb i1 i2 bo ag XF hx hZ hw hby hml hown eF NF O5
  have lra : ra < T3.heap.size := E3.lt
  have lrb : rb < T5.heap.size := E5.lt
  have K35 := K5.1
  have hrb : rb < dom := Nat.lt_of_lt_of_le lrb v1
  have hra : ra < dom := Nat.lt_of_lt_of_le (Nat.lt_of_lt_of_le lra K35) v1
  have hdn : n0 ≤ dom := Nat.le_trans (own_n0 O5) v1
  obtain ⟨TI, _, LI, XI, ⟨rfl, NI, PI, OI, DI⟩, cI'⟩ := cI (Ls := #[.val (.int p1), .val (.int p2), .val (.int p3), .val (.int p4), .val (.int p5), .val (.int nA), .val (.int x0), .val (.int x1), .val (.int x2), .val (.int x3), .val (.int nB), .val (.int y0), .val (.int y1), .val (.int y2), .val (.int y3), .val (.ref ra), .val (.ref rb), .val (.int i1), .val (.int i2), .val (.int bo), .val (.int ag), .unset, .unset, .unset, .unset, .unset, .unset, .unset, .unset]) dom sz dom XG hx hZ hw hby hml hown rfl rfl (rmCon2 l Z a0 hw dom sz ks TG.heap n0 OG Ed G1 G2 G3 G4 G5 G6 G7 G8 Vs (Nat.ne_of_lt w1) hdn) (by decide) (by decide) (by decide) (by decide)
  obtain ⟨TH, LH, XH, NH, eH, cH⟩ := qH p1 p2 p3 p4 p5 nA x0 x1 x2 x3 nB y0 y1 y2 y3 ra rb i1 i2 bo ag dom XI hx hZ hw hby hml hown rfl (Fr.app NG NI) OI
  have Pa := (Pres.of_keep (lo := dom) K5 all0).trans ((Pres.of_keep (lo := dom) KG all0).trans PI)
  have Pb := (Pres.of_keep (lo := dom) KG all0).trans PI
  have FA := F3.pres Pa hra
  have FB := F5.pres Pb hrb
  have EA := own_exa_pres E3 Pa hra
  have EB := own_exa_pres E5 Pb hrb
  obtain ⟨TR, _, LR, XR, ⟨rfl, NR, PR, OR, DR⟩, cR⟩ := cR1 (Ls := #[.val (.int p1), .val (.int p2), .val (.int p3), .val (.int p4), .val (.int p5), .val (.int nA), .val (.int x0), .val (.int x1), .val (.int x2), .val (.int x3), .val (.int nB), .val (.int y0), .val (.int y1), .val (.int y2), .val (.int y3), .val (.ref ra), .val (.ref rb), .val (.int i1), .val (.int i2), .val (.int bo), .val (.int ag), .val (.ref dom), .unset, .unset, .unset, .unset, .unset, .unset, .unset]) dom (dI i1) (vI i1) ra XH hx hZ hw hby hml hown eH rfl DI.exa (rmRemove2 l Z a0 hw dom (dI i1) (vI i1) ra dom _ 0 TI.heap n0 OI hdn DI y3x.rd y3x.rv (by decide) EA) (by decide) (by decide) (by decide) (by decide)
  obtain ⟨TJ, LJ, XJ, NJ, eJ, cJ⟩ := qI p1 p2 p3 p4 p5 nA x0 x1 x2 x3 nB y0 y1 y2 y3 ra rb i1 i2 bo ag dom XR hx hZ hw hby hml hown rfl (Fr.app NH NR) OR
  obtain ⟨TS, _, LS, XS, ⟨rfl, NS, PS, OS, DS⟩, cS⟩ := cR2 (Ls := #[.val (.int p1), .val (.int p2), .val (.int p3), .val (.int p4), .val (.int p5), .val (.int nA), .val (.int x0), .val (.int x1), .val (.int x2), .val (.int x3), .val (.int nB), .val (.int y0), .val (.int y1), .val (.int y2), .val (.int y3), .val (.ref ra), .val (.ref rb), .val (.int i1), .val (.int i2), .val (.int bo), .val (.int ag), .val (.ref dom), .unset, .unset, .unset, .unset, .unset, .unset, .unset]) dom (dI i2) (vI i2) rb XJ hx hZ hw hby hml hown eJ rfl DR.exa (rmRemove2 l Z a0 hw dom (dI i2) (vI i2) rb dom _ 2 TR.heap n0 OR hdn DR y1x.rd y1x.rv (by decide) (own_exa_pres EB PR hrb)) (by decide) (by decide) (by decide) (by decide)
  have FA1 := (FA.pres PR hra).pres PS hra
  have FB1 := (FB.pres PR hrb).pres PS hrb
  have D0 := DS.gs
  obtain ⟨M, hM⟩ : ∃ M, M = rM (rM (fun _ _ => Value.null) (dI i1).toNatClampNeg (vI i1).toNatClampNeg (.ref ra)) (dI i2).toNatClampNeg (vI i2).toNatClampNeg (.ref rb) := ⟨_, rfl⟩
  rw [← hM] at D0
  have hMa : M (dI i1).toNatClampNeg (vI i1).toNatClampNeg = .ref ra := by rw [hM]; exact rM_two _ _ _ hne
  have hMb : M (dI i2).toNatClampNeg (vI i2).toNatClampNeg = .ref rb := by rw [hM]; exact rM_hit _ _ _ _
  obtain ⟨TT, LT, XT, NT, eT, cT⟩ := qJ p1 p2 p3 p4 p5 nA x0 x1 x2 x3 nB y0 y1 y2 y3 ra rb i1 i2 bo ag dom XS hx hZ hw hby hml hown rfl (Fr.app NJ NS) OS
  obtain ⟨TU, _, LU, XU, ⟨rfl, NU, PU, OU, DU⟩, cU⟩ := cG1 (Ls := #[.val (.int p1), .val (.int p2), .val (.int p3), .val (.int p4), .val (.int p5), .val (.int nA), .val (.int x0), .val (.int x1), .val (.int x2), .val (.int x3), .val (.int nB), .val (.int y0), .val (.int y1), .val (.int y2), .val (.int y3), .val (.ref ra), .val (.ref rb), .val (.int i1), .val (.int i2), .val (.int bo), .val (.int ag), .val (.ref dom), .unset, .unset, .unset, .unset, .unset, .unset, .unset]) dom (dI i1) (vI i1) XT hx hZ hw hby hml hown eT rfl D0.exa (rmGather l Z a0 hw dom dom ra (dI i1) (vI i1) M [] (tk4 nA x0 x1 x2 x3) TS.heap n0 OS hdn D0 Gd.nil FA1 hra hEA y3x.rd y3x.rv hMa) (by decide) (by decide) (by decide) (by decide)
  obtain ⟨TV, LV, GV, XV, NV, OV, PV, DV, gV, aV, cV⟩ := cdK hx hZ hw hby hml hown p1 p2 p3 p4 p5 nA x0 x1 x2 x3 nB y0 y1 y2 y3 ra rb i1 i2 bo ag dom M _ (tk4 nB y0 y1 y2 y3) TU _ TU.heap XU rfl (Fr.app NT NU) OU hdn DU (Gd.nil.gat hEA) (FB1.pres PU hrb) hrb hEB y1x hMb
  obtain ⟨TW, LW, GW, XW, NW, OW, PW, DW, gW, aW, cW⟩ := cdL hx hZ hw hby hml hown p1 p2 p3 p4 p5 nA x0 x1 x2 x3 nB y0 y1 y2 y3 ra rb i1 i2 bo ag dom M GV (tk4 nA x0 x1 x2 x3) TV LV TV.heap XV rfl NV OV hdn DV gV ((FA1.pres PU hra).pres PV hra) hra hEA y3x hMa
  have hms : (bo = 0 ∧ ms GW = ms (tk4 nA x0 x1 x2 x3)) ∨ (bo ≠ 0 ∧ ms GW = ms (tk4 nA x0 x1 x2 x3) ||| ms (tk4 nB y0 y1 y2 y3)) := by
    rcases aV with ⟨b1, rfl⟩ | ⟨b1, rfl⟩ <;> rcases aW with ⟨b2, rfl⟩ | ⟨b2, rfl⟩
    · exact Or.inl ⟨b1, ms_gat0 _⟩
    · exact Or.inl ⟨b1, by rw [ms_gat, ms_gat0, Int32.or_self]⟩
    · exact Or.inr ⟨b1, by rw [ms_gat, ms_gat0]⟩
    · exact Or.inr ⟨b1, by rw [ms_gat, ms_gat, ms_gat0, ms_again]⟩
  exact lawEnd hx hZ hw hby hml hown Bd.returns hlk w_FOR_GOOD cl_w_FOR_GOOD HW p1 p2 p3 p4 p5 nA x0 x1 x2 x3 nB y0 y1 y2 y3 ra rb i1 i2 bo ag dom M GW TW LW TW.heap XW rfl NW OW hdn DW gW (((FB1.pres PU hrb).pres PV hrb).pres PW hrb) hrb hEB y1x hMb hnA hnB hms (fun t kt => castTop ef (c1 t (c2 t (c3 t (c4 t (c5 t (c6 t (cE t (cF t (cG t (cI' t (cH t (cR t (cJ t (cS t (cT t (cU t (cV t (cW t kt)))))))))))))))))))
set_option maxRecDepth 65536 in
set_option maxHeartbeats 40000000 in
theorem comes_1 {Post : Tables → Env → Array Value → State → Outcome → State → Prop} (hpost : ∀ tb e args s v u, (limb_1_1.after args s (.returned v) u = true ∧ limb_1_2.after args s (.returned v) u = true ∧ True) → FrameEnd s (.returned v) u (Jvm.fieldLocs frame_1_writes args s ++ Jvm.arrayLocs frame_1_arrays args s ++ Jvm.staticLocs frame_1_statics s) 40 256 → Post tb e args s (.returned v) u) :
    ArmFor flags0 classFile x code maxLocals ret World_1 tables_1 room_1 Calls_1 rest_1 Pre_1 Post := by
  intro l hfl _ _ p e ha hc hk s m args below hf hA hF happ hP
  obtain ⟨hcalls, hrest, hpre⟩ := hP
  obtain ⟨-, -, -, hnamed, -, -, -, hat⟩ := (Spec.applies_iff hf).mp happ
  obtain ⟨hg, hn⟩ := and_e (Cond.before_iff.mp (show (Jvm.Cond.and given_1 narrow_1).before args s = true from hpre))
  obtain ⟨hg1a, hg1b⟩ := and_e hg
  obtain ⟨hg2a, hg2b⟩ := and_e hg1b
  obtain ⟨hg3a, hg3b⟩ := and_e hg2b
  obtain ⟨hg4a, hg4b⟩ := and_e hg3b
  obtain ⟨hg5a, hg5b⟩ := and_e hg4b
  obtain ⟨w0, w1, w2, w3, w4, rfl⟩ : ∃ w0 w1 w2 w3 w4 : Value, args = #[w0, w1, w2, w3, w4] := by
    have hs : args.size = 5 := by simpa [Cond.value, given_1] using hg1a
    obtain ⟨L⟩ := args
    match L, hs with
    | [w0, w1, w2, w3, w4], _ => exact ⟨w0, w1, w2, w3, w4, rfl⟩
  have hw := fun d (hd : d ∈ tables_1) => atoms_spec (ws := Jvm.Cond.code x code maxLocals ret :: tables_1) hat d (List.mem_cons_of_mem _ hd)
  have hfit : Fit s := fun {y c} hc i hi => by
    obtain ⟨ha, rfl⟩ := Array.getElem?_eq_some_iff.mp hc
    have q := List.all_eq_true.mp ((Array.all_eq_true_iff_forall_mem.mp hF) _ (Array.getElem_mem ha)) i (List.mem_range.mpr hi)
    simpa [Array.getElem?_eq_getElem hi] using q
  obtain ⟨i0, ei0⟩ := is_v hg2a
  obtain rfl : w0 = (.int i0) := Option.some.inj ei0
  obtain ⟨i1, ei1⟩ := is_v hg3a
  obtain rfl : w1 = (.int i1) := Option.some.inj ei1
  obtain ⟨i2, ei2⟩ := is_v hg4a
  obtain rfl : w2 = (.int i2) := Option.some.inj ei2
  obtain ⟨i3, ei3⟩ := is_v hg5a
  obtain rfl : w3 = (.int i3) := Option.some.inj ei3
  obtain ⟨i4, ei4⟩ := is_v hg5b
  obtain rfl : w4 = (.int i4) := Option.some.inj ei4
  obtain ⟨hn1a, hn1b⟩ := and_e hn
  obtain ⟨w_FOR_GOOD, ev_w_FOR_GOOD⟩ := arr_v hn1a
  have S_w_FOR_GOOD := Sta.start ev_w_FOR_GOOD (Or.inr ⟨(hw _ (List.mem_of_getElem? (i := 7) rfl)), (hw _ (List.mem_of_getElem? (i := 58) rfl))⟩)
  obtain ⟨cl_w_FOR_GOOD, Ar_w_FOR_GOOD⟩ := Arr.start ev_w_FOR_GOOD hn1a
  have Sz_w_FOR_GOOD := own_len (n := (0 : Int32)) hn1b ev_w_FOR_GOOD Ar_w_FOR_GOOD
  have HW : World s w_FOR_GOOD cl_w_FOR_GOOD := ⟨S_w_FOR_GOOD, Ar_w_FOR_GOOD, Sz_w_FOR_GOOD, trivial⟩
  obtain ⟨n, o, h1, h2, h3, _, L, rfl, ⟨rfl, N⟩, hq⟩ := rm0_all l s _ hw tables_1 w_FOR_GOOD cl_w_FOR_GOOD i0 i1 i2 i3 i4 s.heap s.heap.size (Nat.le_refl _) (Old.start s) HW p e ha hc hk s m _ below hf ((Spec.applies_iff_loose hf).mp happ).1 ⟨rfl, State.Warmed39.refl s, rfl⟩ trivial
  exact ⟨n, _, h1, h2, h3, hpost _ _ _ _ _ _ ⟨Cond.after_iff.mpr rfl, Cond.after_iff.mpr (eq_i res_at (Term.int_eval (1)) rfl), trivial⟩ ⟨hq.1, hq.2.1, (hq.2.2.sift fun y hy => Or.inr (N y hy)).mono (by decide) (by decide)⟩⟩
theorem main_1_1 : Claimed_1_1 := comes_1 fun _ _ _ _ _ _ h hF => ⟨h.1, hF⟩
theorem main_1_2 : Claimed_1_2 := comes_1 fun _ _ _ _ _ _ h hF => ⟨h.2.1, hF⟩
end Jvm.Pilot.@@N@@
namespace Jvm.Pilot.@@N@@
open Jvm Jvm.ClassFile Sem Op Lib Jvm.Free Jvm.Stand Jvm.Pilot.@@N@@.Jvm.D
/-! MADE BY PROGRAM (witnessworld.py) out of the Statement's table words and the real class files: 17 classes; the members and pool entries that the words name. The judged class is class 1, her method 1. -/
namespace start1
open Jvm.ClassFile
def u (s : String) : CpInfo := .utf8 (stringToUtf16 s)
/-- a pool by its gaps: so many unusable entries, then the entry; so many at the end -/
def gap : Nat → List CpInfo → List CpInfo
  | 0, r => r
  | n + 1, r => .unusable :: gap n r
def poolList (es : List (Nat × CpInfo)) (last : Nat) : List CpInfo := es.foldr (fun e r => gap e.1 (e.2 :: r)) (gap last [])
def pool (es : List (Nat × CpInfo)) (last : Nat) : Array CpInfo := ⟨poolList es last⟩
def fileOf (pool : Array CpInfo) (this : Nat) (attrs : Array Attribute := #[]) (ms : Array MethodInfo := #[]) (fl : Nat := 33) (sup : Nat := 0) (ifs : Array Nat := #[]) (fds : Array FieldInfo := #[]) : ClassFile where
  minorVersion := 0
  majorVersion := 65
  constantPool := pool
  accessFlags := fl
  thisClass := this
  superClass := sup
  interfaces := ifs
  fields := fds
  methods := ms
  attributes := attrs
def plain (name : String) (sup : Option ClassId) : Class where
  name := name
  kind := .ordinary
  loader := none
  accessFlags := 33
  super := sup
  interfaces := #[]
  cf := none
  fields := #[]
  methods := #[]
  instanceTypes := #[]
  staticTypes := #[]
  resolved := #[]
  callSites := []
  init := .initialized
  statics := none
  mirror := none

def pool0 : Array CpInfo := pool [(5, u "<init>"), (0, u "()V"), (1, .class_ 10), (1, u "java/lang/Object"), (85, u "clone"), (0, u "()Ljava/lang/Object;")] 26

def k0c0 : Code := { maxStack := 0, maxLocals := 1, code := object_method_1_code, exceptionTable := #[], attributes := #[] }
def k0m0 : Method := { name := "<init>", desc := "()V", sig := { parameters := [], returnType := none }, accessFlags := 1, code := some k0c0 }
def k0m1 : Method := { name := "clone", desc := "()Ljava/lang/Object;", sig := { parameters := [], returnType := some (.object "java/lang/Object") }, accessFlags := 260, code := none }
/-- java/lang/Object -/
def k0 : Class := { plain "java/lang/Object" none with
  accessFlags := 33
  interfaces := #[]
  cf := some (fileOf pool0 8 #[] #[{ accessFlags := 1, nameIndex := 5, descriptorIndex := 6, attributes := #[] }, { accessFlags := 260, nameIndex := 96, descriptorIndex := 97, attributes := #[] }] 33 0 #[] #[])
  fields := #[]
  methods := #[k0m0, k0m1]
  instanceTypes := #[]
  staticTypes := #[]
  resolved := Array.replicate 124 none
  statics := none }

def pool1 : Array CpInfo := pool [(2, .class_ 4), (1, u "java/lang/Object"), (0, u "<init>"), (0, u "()V"), (0, .methodref 8 9), (0, .class_ 10), (0, .nameAndType 11 12), (0, u "com/example/caprice/caprice/solver/DomainsGatherReasonsPinLaw"), (0, u "make"), (0, u "(IIIII)[I"), (0, .class_ 14), (0, u "com/example/caprice/caprice/solver/Domains"), (0, .methodref 13 16), (0, .nameAndType 5 17), (0, u "([I)V"), (0, .methodref 13 19), (0, .nameAndType 20 21), (0, u "remove"), (0, u "(II[I)V"), (0, .methodref 13 23), (0, .nameAndType 24 25), (0, u "gatherReasons"), (0, u "(II)V"), (0, .methodref 13 27), (0, .nameAndType 28 29), (0, u "takeGathered"), (0, u "()[I"), (0, .methodref 8 31), (0, .nameAndType 32 33), (0, u "maskOf"), (0, u "([I)I"), (0, .methodref 8 35), (0, .nameAndType 36 37), (0, u "bits"), (0, u "(IIIII)I"), (0, .methodref 8 39), (0, .nameAndType 40 41), (0, u "add"), (0, u "(II)I"), (2, u "law"), (0, u "(IIIII)Z")] 5

def k1m0 : Method := { name := "<init>", desc := "()V", sig := { parameters := [], returnType := none }, accessFlags := 1, code := none }
def k1c1 : Code := { maxStack := 6, maxLocals := 29, code := code, exceptionTable := #[], attributes := #[] }
def k1m1 : Method := { name := "law", desc := "(IIIII)Z", sig := { parameters := [.int, .int, .int, .int, .int], returnType := some .boolean }, accessFlags := 9, code := some k1c1 }
def k1c2 : Code := { maxStack := 4, maxLocals := 5, code := method_3_code, exceptionTable := #[], attributes := #[] }
def k1m2 : Method := { name := "make", desc := "(IIIII)[I", sig := { parameters := [.int, .int, .int, .int, .int], returnType := some (.array .int) }, accessFlags := 10, code := some k1c2 }
def k1c3 : Code := { maxStack := 3, maxLocals := 6, code := method_4_code, exceptionTable := #[], attributes := #[] }
def k1m3 : Method := { name := "bits", desc := "(IIIII)I", sig := { parameters := [.int, .int, .int, .int, .int], returnType := some .int }, accessFlags := 10, code := some k1c3 }
def k1c4 : Code := { maxStack := 2, maxLocals := 3, code := method_5_code, exceptionTable := #[], attributes := #[] }
def k1m4 : Method := { name := "add", desc := "(II)I", sig := { parameters := [.int, .int], returnType := some .int }, accessFlags := 10, code := some k1c4 }
def k1c5 : Code := { maxStack := 3, maxLocals := 3, code := method_6_code, exceptionTable := #[], attributes := #[] }
def k1m5 : Method := { name := "maskOf", desc := "([I)I", sig := { parameters := [(.array .int)], returnType := some .int }, accessFlags := 10, code := some k1c5 }
/-- com/example/caprice/caprice/solver/DomainsGatherReasonsPinLaw -/
def k1 : Class := { plain "com/example/caprice/caprice/solver/DomainsGatherReasonsPinLaw" (some 0) with
  accessFlags := 49
  interfaces := #[]
  cf := some (fileOf pool1 8 #[] #[{ accessFlags := 1, nameIndex := 5, descriptorIndex := 6, attributes := #[] }, { accessFlags := 9, nameIndex := 44, descriptorIndex := 45, attributes := #[] }, { accessFlags := 10, nameIndex := 11, descriptorIndex := 12, attributes := #[] }, { accessFlags := 10, nameIndex := 36, descriptorIndex := 37, attributes := #[] }, { accessFlags := 10, nameIndex := 40, descriptorIndex := 41, attributes := #[] }, { accessFlags := 10, nameIndex := 32, descriptorIndex := 33, attributes := #[] }] 49 2 #[] #[])
  fields := #[]
  methods := #[k1m0, k1m1, k1m2, k1m3, k1m4, k1m5]
  instanceTypes := #[]
  staticTypes := #[]
  resolved := Array.replicate 51 none
  statics := none }

def pool2 : Array CpInfo := pool [(1, .class_ 2), (0, u "com/example/caprice/caprice/solver/ValuesLeft"), (0, .class_ 4), (0, u "java/lang/Object")] 6

/-- com/example/caprice/caprice/solver/ValuesLeft -/
def k2 : Class := { plain "com/example/caprice/caprice/solver/ValuesLeft" (some 0) with
  accessFlags := 1536
  interfaces := #[]
  cf := some (fileOf pool2 1 #[] #[] 1536 3 #[] #[])
  fields := #[]
  methods := #[]
  instanceTypes := #[]
  staticTypes := #[]
  resolved := Array.replicate 11 none
  statics := none }

def pool3 : Array CpInfo := pool [(3, .methodref 4 5), (0, .class_ 6), (0, .nameAndType 7 8), (0, u "java/lang/Object"), (0, u "<init>"), (0, u "()V"), (0, .class_ 10), (0, u "[[I"), (0, .fieldref 12 13), (0, .class_ 14), (0, .nameAndType 15 16), (0, u "com/example/caprice/caprice/solver/Domains"), (0, u "reasons"), (0, u "[[[I"), (0, .fieldref 12 18), (0, .nameAndType 19 20), (0, u "left"), (0, u "[I"), (0, .fieldref 12 22), (0, .nameAndType 23 24), (0, u "leftMasks"), (0, u "[J"), (0, .class_ 20), (0, .methodref 12 27), (0, .nameAndType 28 29), (0, u "every"), (0, u "(I)J"), (0, .fieldref 12 31), (0, .nameAndType 32 20), (0, u "trail"), (0, .fieldref 12 34), (0, .nameAndType 35 20), (0, u "gathered"), (0, .fieldref 12 37), (0, .nameAndType 38 39), (0, u "marked"), (0, u "[Z"), (0, .long 18446744073709551615), (3, .fieldref 12 45), (0, .nameAndType 46 47), (0, u "trailSize"), (0, u "I"), (15, u "gatherReasons"), (0, u "(II)V"), (2, u "takeGathered"), (0, u "()[I"), (0, .fieldref 12 70), (0, .nameAndType 71 47), (0, u "gatheredCount"), (0, .fieldref 12 73), (0, .nameAndType 74 20), (0, u "FOR_GOOD"), (0, .methodref 76 77), (0, .class_ 78), (0, .nameAndType 79 80), (0, u "java/util/Arrays"), (0, u "copyOf"), (0, u "([II)[I"), (7, .class_ 89), (0, u "com/example/caprice/caprice/solver/ValuesLeft"), (0, u "MASKED"), (2, u "([I)V"), (13, u "remove"), (0, u "(II[I)V")] 30

def k3c0 : Code := { maxStack := 4, maxLocals := 5, code := prog_59_method_1_code, exceptionTable := #[], attributes := #[] }
def k3m0 : Method := { name := "<init>", desc := "([I)V", sig := { parameters := [(.array .int)], returnType := none }, accessFlags := 0, code := some k3c0 }
def k3c1 : Code := { maxStack := 4, maxLocals := 1, code := prog_59_method_2_code, exceptionTable := #[], attributes := #[] }
def k3m1 : Method := { name := "every", desc := "(I)J", sig := { parameters := [.int], returnType := some .long }, accessFlags := 8, code := some k3c1 }
def k3c2 : Code := { maxStack := 8, maxLocals := 4, code := prog_59_method_10_code, exceptionTable := #[], attributes := #[] }
def k3m2 : Method := { name := "remove", desc := "(II[I)V", sig := { parameters := [.int, .int, (.array .int)], returnType := none }, accessFlags := 0, code := some k3c2 }
def k3c3 : Code := { maxStack := 3, maxLocals := 7, code := prog_59_method_13_code, exceptionTable := #[], attributes := #[] }
def k3m3 : Method := { name := "gatherReasons", desc := "(II)V", sig := { parameters := [.int, .int], returnType := none }, accessFlags := 0, code := some k3c3 }
def k3c4 : Code := { maxStack := 3, maxLocals := 6, code := prog_59_method_14_code, exceptionTable := #[], attributes := #[] }
def k3m4 : Method := { name := "takeGathered", desc := "()[I", sig := { parameters := [], returnType := some (.array .int) }, accessFlags := 0, code := some k3c4 }
/-- com/example/caprice/caprice/solver/Domains -/
def k3 : Class := { plain "com/example/caprice/caprice/solver/Domains" (some 0) with
  accessFlags := 48
  interfaces := #[2]
  cf := some (fileOf pool3 12 #[] #[{ accessFlags := 0, nameIndex := 7, descriptorIndex := 93, attributes := #[] }, { accessFlags := 8, nameIndex := 28, descriptorIndex := 29, attributes := #[] }, { accessFlags := 0, nameIndex := 107, descriptorIndex := 108, attributes := #[] }, { accessFlags := 0, nameIndex := 63, descriptorIndex := 64, attributes := #[] }, { accessFlags := 0, nameIndex := 67, descriptorIndex := 68, attributes := #[] }] 48 4 #[88] #[{ accessFlags := 24, nameIndex := 74, descriptorIndex := 20, attributes := #[] }, { accessFlags := 24, nameIndex := 90, descriptorIndex := 47, attributes := #[] }, { accessFlags := 18, nameIndex := 15, descriptorIndex := 16, attributes := #[] }, { accessFlags := 18, nameIndex := 19, descriptorIndex := 20, attributes := #[] }, { accessFlags := 18, nameIndex := 23, descriptorIndex := 24, attributes := #[] }, { accessFlags := 18, nameIndex := 32, descriptorIndex := 20, attributes := #[] }, { accessFlags := 2, nameIndex := 46, descriptorIndex := 47, attributes := #[] }, { accessFlags := 18, nameIndex := 35, descriptorIndex := 20, attributes := #[] }, { accessFlags := 2, nameIndex := 71, descriptorIndex := 47, attributes := #[] }, { accessFlags := 18, nameIndex := 38, descriptorIndex := 39, attributes := #[] }])
  fields := #[{ name := "FOR_GOOD", type := (.array .int), accessFlags := 24, slot := 0, constantValue := 0 }, { name := "MASKED", type := .int, accessFlags := 24, slot := 1, constantValue := 0 }, { name := "reasons", type := (.array (.array (.array .int))), accessFlags := 18, slot := 0, constantValue := 0 }, { name := "left", type := (.array .int), accessFlags := 18, slot := 1, constantValue := 0 }, { name := "leftMasks", type := (.array .long), accessFlags := 18, slot := 2, constantValue := 0 }, { name := "trail", type := (.array .int), accessFlags := 18, slot := 3, constantValue := 0 }, { name := "trailSize", type := .int, accessFlags := 2, slot := 4, constantValue := 0 }, { name := "gathered", type := (.array .int), accessFlags := 18, slot := 5, constantValue := 0 }, { name := "gatheredCount", type := .int, accessFlags := 2, slot := 6, constantValue := 0 }, { name := "marked", type := (.array .boolean), accessFlags := 18, slot := 7, constantValue := 0 }]
  methods := #[k3m0, k3m1, k3m2, k3m3, k3m4]
  instanceTypes := #[(.array (.array (.array .int))), (.array .int), (.array .long), (.array .int), .int, (.array .int), .int, (.array .boolean)]
  staticTypes := #[(.array .int), .int]
  resolved := Array.replicate 139 none
  statics := some 0 }

def pool4 : Array CpInfo := pool [(2, .class_ 4), (1, u "java/lang/Object"), (0, u "<init>"), (0, u "()V"), (7, .class_ 16), (1, u "java/util/Arrays"), (57, .class_ 76), (1, u "java/util/Arrays$NaturalOrder"), (32, u "()Ljava/lang/Object;"), (3, .class_ 115), (1, u "java/util/Arrays$LegacyMergeSort"), (1, u "Z"), (10, .nameAndType 129 109), (0, u "clone"), (20, .methodref 151 152), (0, .class_ 153), (0, .nameAndType 154 155), (0, u "java/lang/System"), (0, u "arraycopy"), (0, u "(Ljava/lang/Object;ILjava/lang/Object;II)V"), (146, u "copyOf"), (1, .methodref 305 306), (0, .class_ 307), (0, .nameAndType 308 309), (0, u "java/lang/Math"), (0, u "min"), (0, u "(II)I"), (6, .methodref 317 128), (0, .class_ 318), (0, u "[I"), (56, .class_ 376), (0, u "java/util/Arrays$ArrayList"), (68, u "$assertionsDisabled"), (269, u "MIN_ARRAY_SORT_GRAN"), (0, u "I"), (2, u "INSERTIONSORT_THRESHOLD"), (151, u "([II)[I"), (103, .class_ 976), (0, u "java/util/Arrays$ArrayItr")] 52

def k4m0 : Method := { name := "<init>", desc := "()V", sig := { parameters := [], returnType := none }, accessFlags := 2, code := none }
def k4c1 : Code := { maxStack := 6, maxLocals := 3, code := jdk_65_method_123_code, exceptionTable := #[], attributes := #[] }
def k4m1 : Method := { name := "copyOf", desc := "([II)[I", sig := { parameters := [(.array .int), .int], returnType := some (.array .int) }, accessFlags := 9, code := some k4c1 }
/-- java/util/Arrays -/
def k4 : Class := { plain "java/util/Arrays" (some 0) with
  accessFlags := 49
  interfaces := #[]
  cf := some (fileOf pool4 14 #[.nestMembers #[975, 375, 113, 74]] #[{ accessFlags := 2, nameIndex := 5, descriptorIndex := 6, attributes := #[] }, { accessFlags := 9, nameIndex := 302, descriptorIndex := 871, attributes := #[] }] 49 2 #[] #[{ accessFlags := 26, nameIndex := 715, descriptorIndex := 716, attributes := #[] }, { accessFlags := 26, nameIndex := 719, descriptorIndex := 716, attributes := #[] }, { accessFlags := 4120, nameIndex := 445, descriptorIndex := 117, attributes := #[] }])
  fields := #[{ name := "MIN_ARRAY_SORT_GRAN", type := .int, accessFlags := 26, slot := 0, constantValue := 0 }, { name := "INSERTIONSORT_THRESHOLD", type := .int, accessFlags := 26, slot := 1, constantValue := 0 }, { name := "$assertionsDisabled", type := .boolean, accessFlags := 4120, slot := 2, constantValue := 0 }]
  methods := #[k4m0, k4m1]
  instanceTypes := #[]
  staticTypes := #[.int, .int, .boolean]
  resolved := Array.replicate 1029 none
  statics := none }

def pool5 : Array CpInfo := pool [(1, .class_ 2), (0, u "java/lang/Math"), (1, .class_ 6), (1, u "java/lang/Object"), (0, u "<init>"), (0, u "()V"), (89, .class_ 100), (1, u "java/lang/Math$RandomNumberGeneratorHolder"), (71, u "negativeZeroFloatBits"), (0, u "J"), (2, u "negativeZeroDoubleBits"), (24, u "min"), (43, u "$assertionsDisabled"), (0, u "Z"), (88, u "(II)I"), (2, u "twoToTheDoubleScaleDown"), (0, u "D"), (4, u "twoToTheDoubleScaleUp"), (9, u "E"), (3, u "PI"), (2, u "TAU"), (2, u "DEGREES_TO_RADIANS"), (0, u "RADIANS_TO_DEGREES")] 94

def k5m0 : Method := { name := "<init>", desc := "()V", sig := { parameters := [], returnType := none }, accessFlags := 2, code := none }
def k5c1 : Code := { maxStack := 2, maxLocals := 2, code := jdk_29_method_69_code, exceptionTable := #[], attributes := #[] }
def k5m1 : Method := { name := "min", desc := "(II)I", sig := { parameters := [.int, .int], returnType := some .int }, accessFlags := 9, code := some k5c1 }
/-- java/lang/Math -/
def k5 : Class := { plain "java/lang/Math" (some 0) with
  accessFlags := 49
  interfaces := #[]
  cf := some (fileOf pool5 1 #[.nestMembers #[98]] #[{ accessFlags := 2, nameIndex := 7, descriptorIndex := 8, attributes := #[] }, { accessFlags := 9, nameIndex := 201, descriptorIndex := 335, attributes := #[] }] 49 4 #[] #[{ accessFlags := 25, nameIndex := 354, descriptorIndex := 339, attributes := #[] }, { accessFlags := 25, nameIndex := 358, descriptorIndex := 339, attributes := #[] }, { accessFlags := 25, nameIndex := 361, descriptorIndex := 339, attributes := #[] }, { accessFlags := 26, nameIndex := 364, descriptorIndex := 339, attributes := #[] }, { accessFlags := 26, nameIndex := 365, descriptorIndex := 339, attributes := #[] }, { accessFlags := 26, nameIndex := 172, descriptorIndex := 173, attributes := #[] }, { accessFlags := 26, nameIndex := 176, descriptorIndex := 173, attributes := #[] }, { accessFlags := 8, nameIndex := 344, descriptorIndex := 339, attributes := #[] }, { accessFlags := 8, nameIndex := 338, descriptorIndex := 339, attributes := #[] }, { accessFlags := 4120, nameIndex := 245, descriptorIndex := 246, attributes := #[] }])
  fields := #[{ name := "E", type := .double, accessFlags := 25, slot := 0, constantValue := 0 }, { name := "PI", type := .double, accessFlags := 25, slot := 1, constantValue := 0 }, { name := "TAU", type := .double, accessFlags := 25, slot := 2, constantValue := 0 }, { name := "DEGREES_TO_RADIANS", type := .double, accessFlags := 26, slot := 3, constantValue := 0 }, { name := "RADIANS_TO_DEGREES", type := .double, accessFlags := 26, slot := 4, constantValue := 0 }, { name := "negativeZeroFloatBits", type := .long, accessFlags := 26, slot := 5, constantValue := 0 }, { name := "negativeZeroDoubleBits", type := .long, accessFlags := 26, slot := 6, constantValue := 0 }, { name := "twoToTheDoubleScaleUp", type := .double, accessFlags := 8, slot := 7, constantValue := 0 }, { name := "twoToTheDoubleScaleDown", type := .double, accessFlags := 8, slot := 8, constantValue := 0 }, { name := "$assertionsDisabled", type := .boolean, accessFlags := 4120, slot := 9, constantValue := 0 }]
  methods := #[k5m0, k5m1]
  instanceTypes := #[]
  staticTypes := #[.double, .double, .double, .double, .double, .long, .long, .double, .double, .boolean]
  resolved := Array.replicate 460 none
  statics := none }

def pool6 : Array CpInfo := pool [(2, .class_ 4), (1, u "java/lang/Object"), (0, u "<init>"), (0, u "()V"), (1, .class_ 10), (1, u "java/lang/System"), (0, u "allowSecurityManager"), (0, u "I"), (16, u "cons"), (0, u "Ljava/io/Console;"), (77, .class_ 110), (1, u "java/lang/System$CallersHolder"), (43, u "initialErrStream"), (0, u "Ljava/io/PrintStream;"), (19, u "security"), (0, u "Ljava/lang/SecurityManager;"), (31, .class_ 209), (0, u "java/lang/System$1"), (7, u "props"), (0, u "Ljava/util/Properties;"), (2, u "lineSeparator"), (0, u "Ljava/lang/String;"), (96, .class_ 321), (1, u "java/lang/System$LoggerFinder"), (5, .class_ 328), (0, u "java/lang/System$Logger"), (67, u "err"), (2, u "out"), (91, u "notSupportedJnuEncoding"), (15, u "in"), (17, u "initialIn"), (0, u "Ljava/io/InputStream;"), (35, u "bootLayer"), (0, u "Ljava/lang/ModuleLayer;"), (99, .class_ 664), (0, u "java/lang/System$2"), (9, u "NEVER"), (2, u "MAYBE"), (49, u "arraycopy"), (0, u "(Ljava/lang/Object;ILjava/lang/Object;II)V"), (72, .class_ 802), (0, u "java/lang/System$Logger$Level")] 31

def k6m0 : Method := { name := "<init>", desc := "()V", sig := { parameters := [], returnType := none }, accessFlags := 2, code := none }
def k6m1 : Method := { name := "arraycopy", desc := "(Ljava/lang/Object;ILjava/lang/Object;II)V", sig := { parameters := [(.object "java/lang/Object"), .int, (.object "java/lang/Object"), .int, .int], returnType := none }, accessFlags := 265, code := none }
/-- java/lang/System -/
def k6 : Class := { plain "java/lang/System" (some 0) with
  accessFlags := 49
  interfaces := #[]
  cf := some (fileOf pool6 8 #[.nestMembers #[319, 327, 801, 108, 663, 208]] #[{ accessFlags := 2, nameIndex := 5, descriptorIndex := 6, attributes := #[] }, { accessFlags := 265, nameIndex := 727, descriptorIndex := 728, attributes := #[] }] 49 2 #[] #[{ accessFlags := 25, nameIndex := 507, descriptorIndex := 526, attributes := #[] }, { accessFlags := 25, nameIndex := 399, descriptorIndex := 155, attributes := #[] }, { accessFlags := 25, nameIndex := 396, descriptorIndex := 155, attributes := #[] }, { accessFlags := 10, nameIndex := 525, descriptorIndex := 526, attributes := #[] }, { accessFlags := 26, nameIndex := 674, descriptorIndex := 12, attributes := #[] }, { accessFlags := 26, nameIndex := 677, descriptorIndex := 12, attributes := #[] }, { accessFlags := 10, nameIndex := 11, descriptorIndex := 12, attributes := #[] }, { accessFlags := 74, nameIndex := 175, descriptorIndex := 176, attributes := #[] }, { accessFlags := 10, nameIndex := 491, descriptorIndex := 222, attributes := #[] }, { accessFlags := 74, nameIndex := 29, descriptorIndex := 30, attributes := #[] }, { accessFlags := 74, nameIndex := 154, descriptorIndex := 155, attributes := #[] }, { accessFlags := 10, nameIndex := 217, descriptorIndex := 218, attributes := #[] }, { accessFlags := 10, nameIndex := 221, descriptorIndex := 222, attributes := #[] }, { accessFlags := 8, nameIndex := 562, descriptorIndex := 563, attributes := #[] }])
  fields := #[{ name := "in", type := (.object "java/io/InputStream"), accessFlags := 25, slot := 0, constantValue := 0 }, { name := "out", type := (.object "java/io/PrintStream"), accessFlags := 25, slot := 1, constantValue := 0 }, { name := "err", type := (.object "java/io/PrintStream"), accessFlags := 25, slot := 2, constantValue := 0 }, { name := "initialIn", type := (.object "java/io/InputStream"), accessFlags := 10, slot := 3, constantValue := 0 }, { name := "NEVER", type := .int, accessFlags := 26, slot := 4, constantValue := 0 }, { name := "MAYBE", type := .int, accessFlags := 26, slot := 5, constantValue := 0 }, { name := "allowSecurityManager", type := .int, accessFlags := 10, slot := 6, constantValue := 0 }, { name := "security", type := (.object "java/lang/SecurityManager"), accessFlags := 74, slot := 7, constantValue := 0 }, { name := "notSupportedJnuEncoding", type := (.object "java/lang/String"), accessFlags := 10, slot := 8, constantValue := 0 }, { name := "cons", type := (.object "java/io/Console"), accessFlags := 74, slot := 9, constantValue := 0 }, { name := "initialErrStream", type := (.object "java/io/PrintStream"), accessFlags := 74, slot := 10, constantValue := 0 }, { name := "props", type := (.object "java/util/Properties"), accessFlags := 10, slot := 11, constantValue := 0 }, { name := "lineSeparator", type := (.object "java/lang/String"), accessFlags := 10, slot := 12, constantValue := 0 }, { name := "bootLayer", type := (.object "java/lang/ModuleLayer"), accessFlags := 8, slot := 13, constantValue := 0 }]
  methods := #[k6m0, k6m1]
  instanceTypes := #[]
  staticTypes := #[(.object "java/io/InputStream"), (.object "java/io/PrintStream"), (.object "java/io/PrintStream"), (.object "java/io/InputStream"), .int, .int, .int, (.object "java/lang/SecurityManager"), (.object "java/lang/String"), (.object "java/io/Console"), (.object "java/io/PrintStream"), (.object "java/util/Properties"), (.object "java/lang/String"), (.object "java/lang/ModuleLayer")]
  resolved := Array.replicate 834 none
  statics := none }

def pool7 : Array CpInfo := pool [(1, .class_ 2), (0, u "java/lang/Cloneable"), (0, .class_ 4), (0, u "java/lang/Object")] 2

/-- java/lang/Cloneable -/
def k7 : Class := { plain "java/lang/Cloneable" (some 0) with
  accessFlags := 1537
  interfaces := #[]
  cf := some (fileOf pool7 1 #[] #[] 1537 3 #[] #[])
  fields := #[]
  methods := #[]
  instanceTypes := #[]
  staticTypes := #[]
  resolved := Array.replicate 7 none
  statics := none }

def pool8 : Array CpInfo := pool [(1, u "java/io/Serializable"), (0, .class_ 1), (0, u "java/lang/Object"), (0, .class_ 3)] 3

/-- java/io/Serializable -/
def k8 : Class := { plain "java/io/Serializable" (some 0) with
  accessFlags := 1537
  interfaces := #[]
  cf := some (fileOf pool8 2 #[] #[] 1537 4 #[] #[])
  fields := #[]
  methods := #[]
  instanceTypes := #[]
  staticTypes := #[]
  resolved := Array.replicate 8 none
  statics := none }

/-- the primitive boolean -/
def k9 : Class := { plain "boolean" none with kind := .primitive 'Z', accessFlags := 0x411 }
/-- [Z -/
def k10 : Class := { plain "[Z" (some 0) with kind := .array 9 .boolean, interfaces := #[7, 8], accessFlags := 1041 }

/-- the primitive byte -/
def k11 : Class := { plain "byte" none with kind := .primitive 'B', accessFlags := 0x411 }
/-- [B -/
def k12 : Class := { plain "[B" (some 0) with kind := .array 11 .byte, interfaces := #[7, 8], accessFlags := 1041 }

/-- the primitive int -/
def k13 : Class := { plain "int" none with kind := .primitive 'I', accessFlags := 0x411 }
/-- [I -/
def k14 : Class := { plain "[I" (some 0) with kind := .array 13 .int, interfaces := #[7, 8], accessFlags := 1041 }

/-- the primitive long -/
def k15 : Class := { plain "long" none with kind := .primitive 'J', accessFlags := 0x411 }
/-- [J -/
def k16 : Class := { plain "[J" (some 0) with kind := .array 15 .long, interfaces := #[7, 8], accessFlags := 1041 }

/-- [[I -/
def k17 : Class := { plain "[[I" (some 0) with kind := .array 14 (.array .int), interfaces := #[7, 8], accessFlags := 1041 }
/-- [[[I -/
def k18 : Class := { plain "[[[I" (some 0) with kind := .array 17 (.array (.array .int)), interfaces := #[7, 8], accessFlags := 1041 }
def heap : Heap := #[{ cls := 3, slots := #[.ref 1, .int 0], vm := .statics 3 },
  { cls := 14, slots := #[], vm := .none }]
def classes : Array Class := #[k0, k1, k2, k3, k4, k5, k6, k7, k8, k9, k10, k11, k12, k13, k14, k15, k16, k17, k18]
def interned : List (Array UInt16 × Addr) := []
def slotsUsed : Nat := 2
def theMethod : MethodId := ⟨1, 1⟩
def args0 : Array Value := #[.int 1027, .int 2562, .int 3, .int 5, .int 3]
def aboutOver (below : List Frame) : State where
  vm := { classes := classes, interned := interned.toArray }
  heap := heap
  slotsUsed := slotsUsed
  threads := #[{ frames := .invoking theMethod args0 :: below }]
def below0 : List Frame := [.native { method := ⟨0, 0⟩, args := #[] }]
def about1 : State := aboutOver below0
def p0 : Program := .bare "" "" ""
def e0 : Env := launch0.env 0 0 0
theorem w_frames : about1.frames = Frame.invoking theMethod args0 :: below0 := rfl
set_option maxRecDepth 65536 in
theorem w_args : argsFit about1.vm theMethod args0 = true := by decide +kernel
set_option maxRecDepth 65536 in
theorem w_heap : heapFits about1 = true := by decide +kernel
set_option maxRecDepth 65536 in
theorem w_runnable : about1.curStatus? = some .runnable := by decide +kernel
set_option maxRecDepth 65536 in
theorem w_alone : about1.alone = true := by decide +kernel
set_option maxRecDepth 65536 in
theorem w_named : about1.methodNamed? x = some theMethod := by decide +kernel
set_option maxRecDepth 65536 in
theorem w_hears : about1.hears theMethod below0 = true := by decide +kernel
set_option maxRecDepth 65536 in
theorem w_ripe : about1.ripe theMethod args0 below0 = true := by decide +kernel
theorem w_running : about1.status = .running := rfl
set_option maxRecDepth 65536 in
theorem w_room : about1.hasRoom e0.platform room_1 = true :=
  launch0.hasRoom_least _ room_1 (by decide +kernel) (by decide +kernel) (by decide +kernel) (by decide +kernel) (by decide +kernel) (by decide +kernel)
theorem allAtoms_all (ts : List Jvm.Cond) (a : Array Jvm.Value) (st : Jvm.State) : (allAtoms ts).before a st = ts.all (fun c => c.before a st) := by
  induction ts with
  | nil => rfl
  | cons c t ih =>
    show (Jvm.Cond.and c (allAtoms t)).before a st = _
    rw [Jvm.Cond.before_and, ih, List.all_cons]
def words1 : List Jvm.Cond := Jvm.Cond.code x code maxLocals ret :: tables_1
/-- a 'code' word, met by the world's own term for the bytes: nothing is compared byte by byte -/
theorem code_word {y : MethodName} {bytes : ByteArray} {mx : Nat} {rt : Option FieldType} {a : Array Value} {s : State} {m : MethodId} {meth : Method} {c : Code} (h1 : s.methodNamed? y = some m) (h2 : s.vm.method? m = some meth) (h3 : meth.code = some c) (h4 : c.code = bytes)
    (h5 : (c.maxLocals == mx && c.exceptionTable.isEmpty && decide (c.maxStack ≤ mostOperands) && decide (meth.sig.returnType = rt) && !meth.locks && decide (parseMethodDescriptor y.desc = some meth.sig)) = true) : (Jvm.Cond.code y bytes mx rt).before a s = true := by
  simp only [Bool.and_eq_true, beq_iff_eq, Bool.not_eq_true', decide_eq_true_eq] at h5
  obtain ⟨⟨⟨⟨⟨g1, g2⟩, g3⟩, g4⟩, g5⟩, g6⟩ := h5
  simp [Cond.before, Cond.holds, Cond.value, h1, h2, h3, h4, g1, g2, g3, g4, g5, g6]
def isCode : Jvm.Cond → Bool
  | .code _ _ _ _ => true
  | _ => false
theorem all_split {L : List Jvm.Cond} {P : Jvm.Cond → Bool} (h1 : L.all (fun c => isCode c || P c) = true) (h2 : ∀ c ∈ L.filter isCode, P c = true) : L.all P = true := by
  refine List.all_eq_true.mpr fun c hc => ?_
  have h := List.all_eq_true.mp h1 c hc
  rcases Bool.eq_false_or_eq_true (isCode c) with hi | hi
  · exact h2 c (List.mem_filter.mpr ⟨hc, hi⟩)
  · simpa [hi] using h
set_option maxRecDepth 65536 in
theorem w_c0 : (Jvm.Cond.code x code maxLocals ret).before args0 about1 = true := code_word (m := ⟨1, 1⟩) (meth := k1m1) (c := k1c1) (by decide +kernel) rfl rfl rfl (by decide +kernel)
set_option maxRecDepth 65536 in
theorem w_c1 : (Jvm.Cond.code ({ cls := "com/example/caprice/caprice/solver/DomainsGatherReasonsPinLaw", name := "make", desc := "(IIIII)[I" } : Jvm.MethodName) method_3_code (5 : Nat) (Option.some (Jvm.ClassFile.FieldType.array Jvm.ClassFile.FieldType.int))).before args0 about1 = true := code_word (m := ⟨1, 2⟩) (meth := k1m2) (c := k1c2) (by decide +kernel) rfl rfl rfl (by decide +kernel)
set_option maxRecDepth 65536 in
theorem w_c2 : (Jvm.Cond.code ({ cls := "com/example/caprice/caprice/solver/Domains", name := "<init>", desc := "([I)V" } : Jvm.MethodName) prog_59_method_1_code (5 : Nat) (Option.none : Option Jvm.ClassFile.FieldType)).before args0 about1 = true := code_word (m := ⟨3, 0⟩) (meth := k3m0) (c := k3c0) (by decide +kernel) rfl rfl rfl (by decide +kernel)
set_option maxRecDepth 65536 in
theorem w_c3 : (Jvm.Cond.code ({ cls := "java/lang/Object", name := "<init>", desc := "()V" } : Jvm.MethodName) object_method_1_code (1 : Nat) (Option.none : Option Jvm.ClassFile.FieldType)).before args0 about1 = true := code_word (m := ⟨0, 0⟩) (meth := k0m0) (c := k0c0) (by decide +kernel) rfl rfl rfl (by decide +kernel)
set_option maxRecDepth 65536 in
theorem w_c4 : (Jvm.Cond.code ({ cls := "com/example/caprice/caprice/solver/Domains", name := "every", desc := "(I)J" } : Jvm.MethodName) prog_59_method_2_code (1 : Nat) (Option.some Jvm.ClassFile.FieldType.long)).before args0 about1 = true := code_word (m := ⟨3, 1⟩) (meth := k3m1) (c := k3c1) (by decide +kernel) rfl rfl rfl (by decide +kernel)
set_option maxRecDepth 65536 in
theorem w_c5 : (Jvm.Cond.code ({ cls := "com/example/caprice/caprice/solver/Domains", name := "remove", desc := "(II[I)V" } : Jvm.MethodName) prog_59_method_10_code (4 : Nat) (Option.none : Option Jvm.ClassFile.FieldType)).before args0 about1 = true := code_word (m := ⟨3, 2⟩) (meth := k3m2) (c := k3c2) (by decide +kernel) rfl rfl rfl (by decide +kernel)
set_option maxRecDepth 65536 in
theorem w_c6 : (Jvm.Cond.code ({ cls := "com/example/caprice/caprice/solver/Domains", name := "gatherReasons", desc := "(II)V" } : Jvm.MethodName) prog_59_method_13_code (7 : Nat) (Option.none : Option Jvm.ClassFile.FieldType)).before args0 about1 = true := code_word (m := ⟨3, 3⟩) (meth := k3m3) (c := k3c3) (by decide +kernel) rfl rfl rfl (by decide +kernel)
set_option maxRecDepth 65536 in
theorem w_c7 : (Jvm.Cond.code ({ cls := "com/example/caprice/caprice/solver/Domains", name := "takeGathered", desc := "()[I" } : Jvm.MethodName) prog_59_method_14_code (6 : Nat) (Option.some (Jvm.ClassFile.FieldType.array Jvm.ClassFile.FieldType.int))).before args0 about1 = true := code_word (m := ⟨3, 4⟩) (meth := k3m4) (c := k3c4) (by decide +kernel) rfl rfl rfl (by decide +kernel)
set_option maxRecDepth 65536 in
theorem w_c8 : (Jvm.Cond.code ({ cls := "com/example/caprice/caprice/solver/DomainsGatherReasonsPinLaw", name := "maskOf", desc := "([I)I" } : Jvm.MethodName) method_6_code (3 : Nat) (Option.some Jvm.ClassFile.FieldType.int)).before args0 about1 = true := code_word (m := ⟨1, 5⟩) (meth := k1m5) (c := k1c5) (by decide +kernel) rfl rfl rfl (by decide +kernel)
set_option maxRecDepth 65536 in
theorem w_c9 : (Jvm.Cond.code ({ cls := "com/example/caprice/caprice/solver/DomainsGatherReasonsPinLaw", name := "bits", desc := "(IIIII)I" } : Jvm.MethodName) method_4_code (6 : Nat) (Option.some Jvm.ClassFile.FieldType.int)).before args0 about1 = true := code_word (m := ⟨1, 3⟩) (meth := k1m3) (c := k1c3) (by decide +kernel) rfl rfl rfl (by decide +kernel)
set_option maxRecDepth 65536 in
theorem w_c10 : (Jvm.Cond.code ({ cls := "java/util/Arrays", name := "copyOf", desc := "([II)[I" } : Jvm.MethodName) jdk_65_method_123_code (3 : Nat) (Option.some (Jvm.ClassFile.FieldType.array Jvm.ClassFile.FieldType.int))).before args0 about1 = true := code_word (m := ⟨4, 1⟩) (meth := k4m1) (c := k4c1) (by decide +kernel) rfl rfl rfl (by decide +kernel)
set_option maxRecDepth 65536 in
theorem w_c11 : (Jvm.Cond.code ({ cls := "java/lang/Math", name := "min", desc := "(II)I" } : Jvm.MethodName) jdk_29_method_69_code (2 : Nat) (Option.some Jvm.ClassFile.FieldType.int)).before args0 about1 = true := code_word (m := ⟨5, 1⟩) (meth := k5m1) (c := k5c1) (by decide +kernel) rfl rfl rfl (by decide +kernel)
set_option maxRecDepth 65536 in
theorem w_c12 : (Jvm.Cond.code ({ cls := "com/example/caprice/caprice/solver/DomainsGatherReasonsPinLaw", name := "add", desc := "(II)I" } : Jvm.MethodName) method_5_code (3 : Nat) (Option.some Jvm.ClassFile.FieldType.int)).before args0 about1 = true := code_word (m := ⟨1, 4⟩) (meth := k1m4) (c := k1c4) (by decide +kernel) rfl rfl rfl (by decide +kernel)
def codes1 : List Jvm.Cond := [Jvm.Cond.code x code maxLocals ret, Jvm.Cond.code ({ cls := "com/example/caprice/caprice/solver/DomainsGatherReasonsPinLaw", name := "make", desc := "(IIIII)[I" } : Jvm.MethodName) method_3_code (5 : Nat) (Option.some (Jvm.ClassFile.FieldType.array Jvm.ClassFile.FieldType.int)), Jvm.Cond.code ({ cls := "com/example/caprice/caprice/solver/Domains", name := "<init>", desc := "([I)V" } : Jvm.MethodName) prog_59_method_1_code (5 : Nat) (Option.none : Option Jvm.ClassFile.FieldType), Jvm.Cond.code ({ cls := "java/lang/Object", name := "<init>", desc := "()V" } : Jvm.MethodName) object_method_1_code (1 : Nat) (Option.none : Option Jvm.ClassFile.FieldType), Jvm.Cond.code ({ cls := "com/example/caprice/caprice/solver/Domains", name := "every", desc := "(I)J" } : Jvm.MethodName) prog_59_method_2_code (1 : Nat) (Option.some Jvm.ClassFile.FieldType.long), Jvm.Cond.code ({ cls := "com/example/caprice/caprice/solver/Domains", name := "remove", desc := "(II[I)V" } : Jvm.MethodName) prog_59_method_10_code (4 : Nat) (Option.none : Option Jvm.ClassFile.FieldType), Jvm.Cond.code ({ cls := "com/example/caprice/caprice/solver/Domains", name := "gatherReasons", desc := "(II)V" } : Jvm.MethodName) prog_59_method_13_code (7 : Nat) (Option.none : Option Jvm.ClassFile.FieldType), Jvm.Cond.code ({ cls := "com/example/caprice/caprice/solver/Domains", name := "takeGathered", desc := "()[I" } : Jvm.MethodName) prog_59_method_14_code (6 : Nat) (Option.some (Jvm.ClassFile.FieldType.array Jvm.ClassFile.FieldType.int)), Jvm.Cond.code ({ cls := "com/example/caprice/caprice/solver/DomainsGatherReasonsPinLaw", name := "maskOf", desc := "([I)I" } : Jvm.MethodName) method_6_code (3 : Nat) (Option.some Jvm.ClassFile.FieldType.int), Jvm.Cond.code ({ cls := "com/example/caprice/caprice/solver/DomainsGatherReasonsPinLaw", name := "bits", desc := "(IIIII)I" } : Jvm.MethodName) method_4_code (6 : Nat) (Option.some Jvm.ClassFile.FieldType.int), Jvm.Cond.code ({ cls := "java/util/Arrays", name := "copyOf", desc := "([II)[I" } : Jvm.MethodName) jdk_65_method_123_code (3 : Nat) (Option.some (Jvm.ClassFile.FieldType.array Jvm.ClassFile.FieldType.int)), Jvm.Cond.code ({ cls := "java/lang/Math", name := "min", desc := "(II)I" } : Jvm.MethodName) jdk_29_method_69_code (2 : Nat) (Option.some Jvm.ClassFile.FieldType.int), Jvm.Cond.code ({ cls := "com/example/caprice/caprice/solver/DomainsGatherReasonsPinLaw", name := "add", desc := "(II)I" } : Jvm.MethodName) method_5_code (3 : Nat) (Option.some Jvm.ClassFile.FieldType.int)]
set_option maxRecDepth 65536 in
theorem codes_eq : words1.filter isCode = codes1 := rfl
theorem w_codes : ∀ c ∈ words1.filter isCode, c.before args0 about1 = true := by
  rw [codes_eq]
  intro c hc
  simp only [codes1, List.mem_cons, List.not_mem_nil, or_false] at hc
  rcases hc with rfl | rfl | rfl | rfl | rfl | rfl | rfl | rfl | rfl | rfl | rfl | rfl | rfl
  · exact w_c0
  · exact w_c1
  · exact w_c2
  · exact w_c3
  · exact w_c4
  · exact w_c5
  · exact w_c6
  · exact w_c7
  · exact w_c8
  · exact w_c9
  · exact w_c10
  · exact w_c11
  · exact w_c12
set_option maxRecDepth 65536 in
theorem w_t1 : (words1.take 24).all (fun c => isCode c || c.before args0 about1) = true := by decide +kernel
set_option maxRecDepth 65536 in
theorem w_t2 : ((words1.drop 24).take 24).all (fun c => isCode c || c.before args0 about1) = true := by decide +kernel
set_option maxRecDepth 65536 in
theorem w_t3 : (((words1.drop 24).drop 24).take 24).all (fun c => isCode c || c.before args0 about1) = true := by decide +kernel
set_option maxRecDepth 65536 in
theorem w_t4 : (((words1.drop 24).drop 24).drop 24).all (fun c => isCode c || c.before args0 about1) = true := by decide +kernel
theorem w_tables : (allAtoms (Jvm.Cond.code x code maxLocals ret :: tables_1)).before args0 about1 = true := by
  rw [allAtoms_all]
  show words1.all (fun c => c.before args0 about1) = true
  refine all_split ?_ w_codes
  rw [← List.take_append_drop 24 words1, List.all_append, w_t1, ← List.take_append_drop 24 (words1.drop 24), List.all_append, w_t2, ← List.take_append_drop 24 ((words1.drop 24).drop 24), List.all_append, w_t3, w_t4]
  rfl
set_option maxRecDepth 65536 in
theorem w_case : (Jvm.Cond.and given_1 narrow_1).before args0 about1 = true := by decide +kernel
theorem w_applies : (headSpec (Jvm.Cond.code x code maxLocals ret :: tables_1) room_1).applies x e0.platform about1 = true :=
  (Spec.applies_iff w_frames).mpr ⟨w_running, w_runnable, w_alone, w_named, w_hears, w_ripe, w_room, w_tables⟩
theorem atStart : AtStart classFile x code maxLocals ret World_1 tables_1 room_1 Calls_1 rest_1 Pre_1 launch0 p0 e0 about1 theMethod args0 below0 :=
  ⟨lists_1, trivial, launch0.admits_env _ _ _, launch0.least_env, fairChoices_fair.cas, fairChoices_fair.clock, w_frames, w_args, w_heap, w_applies, trivial, trivial, w_case⟩
end start1
theorem witness_1 : WitnessClaimed_1 := ⟨start1.p0, start1.e0, start1.about1, start1.theMethod, start1.args0, start1.below0, start1.atStart⟩
end Jvm.Pilot.@@N@@
